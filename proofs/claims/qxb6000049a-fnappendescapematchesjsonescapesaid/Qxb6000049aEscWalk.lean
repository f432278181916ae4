import Derived.Test.Qxb6000049aRows
import Derived.WalkKit
import Derived.WalkSpells
import Derived.OpenShut
import Derived.Lib.AppendStr
import Derived.Deep.RegionLaw
namespace Go.Proofs.Qxb6000049a
open Go.RowKit

/-- A digit's byte, lower case. -/
def dg (n : Int) : Int := if n < 10 then 48 + n else 87 + n
/-- The escape of a byte. -/
def esc (c : Int) : List Int :=
  if c = 34 then [92, 34] else if c = 92 then [92, 92] else if c = 8 then [92, 98] else if c = 12 then [92, 102] else if c = 10 then [92, 110] else if c = 13 then [92, 114] else if c = 9 then [92, 116]
  else [92, 117, 48, 48, dg (c / 16), dg (c % 16)]

theorem dg_all : ∀ n : Fin 16, ((ByteArray.mk #[48, 49, 50, 51, 52, 53, 54, 55, 56, 57, 97, 98, 99, 100, 101, 102])[n.val].toNat : Int) = dg n.val := by decide

theorem dg_index (x : Int) (h0 : 0 ≤ x) (h1 : x < 16) (w : World) :
    (Instr.index 9 (.string (ByteArray.mk #[48, 49, 50, 51, 52, 53, 54, 55, 56, 57, 97, 98, 99, 100, 101, 102])) (.int .u8 x)).run Try.prog w = .ok (.int .u8 (dg x)) w := by
  obtain ⟨X, rfl⟩ := Int.eq_ofNat_of_zero_le h0
  have h := dg_all ⟨X, by omega⟩
  rw [run_index_string w 9 _ .u8 _ Try.underlying9, dif_pos ⟨h0, h1⟩, ← h]
  simp only [Int.toNat_natCast]

theorem step_append_own {P : Program} {ops : Array Oper} {o : Oper} {a : Act} {w : World} {K : Act → World → Prop} {Q : Exit → Act → World → Prop} {E : Prop}
    (hg : o.guard = none) (s x : Operand) (t : TypeId) (hop : o.op = Op.call { callee := Callee.builtin Builtin.append, args := #[s, x], argTypes := #[t, t] })
    (base : Nat) (e : TypeId) (i : TypeInfo) (z : Value) (size bytes : Nat) (h1 : P.underlying t = some (.slice e)) (h2 : P.info? e = some i) (h3 : i.zero = some z) (h4 : i.size = size) (h5 : i.bytes = bytes) (h6 : z.cells.size = size) (h7 : 0 < size)
    (v : Value) (n : Nat) (xs : List Value) (hs : a.eval s = v) (hown : w.ownsRow base e size v n xs)
    (ad : Addr) (m c : Nat) (news : List Value) (hx : a.eval x = .slice (some ad) m c) (hn : news.length = m * size) (hc : ∀ j u, news[j]? = some u → w.cell? (ad.add j) = some u) (h1c : ∀ u ∈ news, u.oneCell' = true)
    (b1 : n + m ≤ maxLen) (b2 : (n + m) * bytes ≤ 140737488355328) (hbase : base ≤ w.heap.size)
    (hK : ∀ v' w', w'.ownsRow base e size v' (n + m) (xs ++ news) → w.grownBy w' v.ownBlock → K (a.put o.dst v') w') :
    if Region.wanted o (yielded ops a.tmps) = true then Oper.wp P o a w K Q else E := by
  have hw : Region.wanted o (yielded ops a.tmps) = true := by simp [Region.wanted, hg]
  rw [if_pos hw]
  obtain ⟨v', w', hrun, r1, r2, _⟩ := run_append_own (P := P) w base t o.type e i z size bytes h1 h2 h3 h4 h5 h6 h7 v n xs hown ad m c news hn hc h1c b1 b2 hbase
  unfold Oper.wp
  simp [execOp, hop, resolve, invoke, builtin, hs, hx, hrun, Result.andThen]
  exact hK v' w' r1 r2

theorem info5 : (Try.prog.info? 5).map (fun i => (i.zero, i.size, i.bytes)) = some (some (.int .u8 0), 1, 1) := by kernel_rfl

theorem grown_trans {a b c : World} {row : Option Nat} (h : a.grownBy b row) (k : b.grownBy c row) : a.grownBy c row :=
  ⟨k.os.trans h.os, k.tape.trans h.tape, k.output.trans h.output, Nat.le_trans h.size k.size, fun i hi hr => (k.block i (Nat.lt_of_lt_of_le hi h.size) hr).trans (h.block i hi hr)⟩

theorem grown_drew (w : World) (row : Option Nat) : w.grownBy w.drew row := ⟨rfl, rfl, rfl, Nat.le_refl _, fun _ _ _ => rfl⟩

/-- What the contract of appendEscape says behind the call. -/
def EscPost (w : World) (base : Nat) (v : Value) (n : Nat) (xs : List Value) (c : Int) (e : Ending) (w' : World) : Prop :=
  ∃ v', e = .returned v' ∧ w'.ownsRow base 5 1 v' (n + (esc c).length) (xs ++ (esc c).map (Value.int .u8)) ∧ w.grownBy w' v.ownBlock

theorem cells_new (w : World) (xs : Array Value) (T : TypeId) (j : Nat) (u : Value) (h : xs.toList[j]? = some u) : (w.alloc (.cells xs T)).cell? ((⟨w.heap.size, 0, none⟩ : Addr).add j) = some u := by
  have e : ((⟨w.heap.size, 0, none⟩ : Addr).add j) = ⟨w.heap.size, j, none⟩ := by cases j <;> simp [Addr.add]
  rw [e, World.cell?, heap_alloc_new]
  simpa using h

set_option maxHeartbeats 400000 in
theorem esc_8 (v : Value) (n : Nat) (xs : List Value) (w : World) (base : Nat) (hown : w.ownsRow base 5 1 v n xs) (hn : n ≤ 1048576) (hb : base ≤ w.heap.size) :
    Calls Try.prog 20 #[v, .int .u8 8] w (EscPost w base v n xs 8) := by
  obtain ⟨i0, hi, hz0, hz1, hz2⟩ := info_parts info5
  go_enter Try.func20, Try.ntmps20
  go_wp2_with (at_builtin; refine Lib.wpList_append_own_string _ rfl _ _ 22 9 rfl base 5 i0 Try.underlying22 Try.underlying9 hi hz0 hz1 hz2 _ n xs rfl hown _ rfl (by unfold maxLen; show n + 2 ≤ _; omega) (by show n + 2 ≤ _; omega) hb ?_; intro v' w' ho hg _)
  go_ret
  exact ⟨v', rfl, ho, hg⟩

set_option maxHeartbeats 400000 in
theorem esc_12 (v : Value) (n : Nat) (xs : List Value) (w : World) (base : Nat) (hown : w.ownsRow base 5 1 v n xs) (hn : n ≤ 1048576) (hb : base ≤ w.heap.size) :
    Calls Try.prog 20 #[v, .int .u8 12] w (EscPost w base v n xs 12) := by
  obtain ⟨i0, hi, hz0, hz1, hz2⟩ := info_parts info5
  go_enter Try.func20, Try.ntmps20
  go_wp2_with (at_builtin; refine Lib.wpList_append_own_string _ rfl _ _ 22 9 rfl base 5 i0 Try.underlying22 Try.underlying9 hi hz0 hz1 hz2 _ n xs rfl hown _ rfl (by unfold maxLen; show n + 2 ≤ _; omega) (by show n + 2 ≤ _; omega) hb ?_; intro v' w' ho hg _)
  go_ret
  exact ⟨v', rfl, ho, hg⟩

set_option maxHeartbeats 400000 in
theorem esc_10 (v : Value) (n : Nat) (xs : List Value) (w : World) (base : Nat) (hown : w.ownsRow base 5 1 v n xs) (hn : n ≤ 1048576) (hb : base ≤ w.heap.size) :
    Calls Try.prog 20 #[v, .int .u8 10] w (EscPost w base v n xs 10) := by
  obtain ⟨i0, hi, hz0, hz1, hz2⟩ := info_parts info5
  go_enter Try.func20, Try.ntmps20
  go_wp2_with (at_builtin; refine Lib.wpList_append_own_string _ rfl _ _ 22 9 rfl base 5 i0 Try.underlying22 Try.underlying9 hi hz0 hz1 hz2 _ n xs rfl hown _ rfl (by unfold maxLen; show n + 2 ≤ _; omega) (by show n + 2 ≤ _; omega) hb ?_; intro v' w' ho hg _)
  go_ret
  exact ⟨v', rfl, ho, hg⟩

set_option maxHeartbeats 400000 in
theorem esc_13 (v : Value) (n : Nat) (xs : List Value) (w : World) (base : Nat) (hown : w.ownsRow base 5 1 v n xs) (hn : n ≤ 1048576) (hb : base ≤ w.heap.size) :
    Calls Try.prog 20 #[v, .int .u8 13] w (EscPost w base v n xs 13) := by
  obtain ⟨i0, hi, hz0, hz1, hz2⟩ := info_parts info5
  go_enter Try.func20, Try.ntmps20
  go_wp2_with (at_builtin; refine Lib.wpList_append_own_string _ rfl _ _ 22 9 rfl base 5 i0 Try.underlying22 Try.underlying9 hi hz0 hz1 hz2 _ n xs rfl hown _ rfl (by unfold maxLen; show n + 2 ≤ _; omega) (by show n + 2 ≤ _; omega) hb ?_; intro v' w' ho hg _)
  go_ret
  exact ⟨v', rfl, ho, hg⟩

set_option maxHeartbeats 400000 in
theorem esc_9 (v : Value) (n : Nat) (xs : List Value) (w : World) (base : Nat) (hown : w.ownsRow base 5 1 v n xs) (hn : n ≤ 1048576) (hb : base ≤ w.heap.size) :
    Calls Try.prog 20 #[v, .int .u8 9] w (EscPost w base v n xs 9) := by
  obtain ⟨i0, hi, hz0, hz1, hz2⟩ := info_parts info5
  go_enter Try.func20, Try.ntmps20
  go_wp2_with (at_builtin; refine Lib.wpList_append_own_string _ rfl _ _ 22 9 rfl base 5 i0 Try.underlying22 Try.underlying9 hi hz0 hz1 hz2 _ n xs rfl hown _ rfl (by unfold maxLen; show n + 2 ≤ _; omega) (by show n + 2 ≤ _; omega) hb ?_; intro v' w' ho hg _)
  go_ret
  exact ⟨v', rfl, ho, hg⟩

set_option maxHeartbeats 400000 in
theorem esc_34 (v : Value) (n : Nat) (xs : List Value) (w : World) (base : Nat) (hown : w.ownsRow base 5 1 v n xs) (hn : n ≤ 1048576) (hb : base ≤ w.heap.size) :
    Calls Try.prog 20 #[v, .int .u8 34] w (EscPost w base v n xs 34) := by
  obtain ⟨i0, hi, hz0, hz1, hz2⟩ := info_parts info5
  go_enter Try.func20, Try.ntmps20
  go_wp2_with (at_builtin; refine wpList_append_own _ rfl _ _ 22 rfl base 5 i0 (.int .u8 0) 1 1 Try.underlying22 hi hz0 hz1 hz2 rfl (by decide) _ n xs rfl (hown.alloc _) ⟨w.heap.size, 0, none⟩ 2 2 [.int .u8 92, .int .u8 34] rfl rfl (cells_new w #[.int .u8 92, .int .u8 34] 5) (by intro u hu; simp at hu; rcases hu with rfl | rfl <;> rfl) (by unfold maxLen; omega) (by omega) (by simp; omega) ?_; intro v' w' ho hg _)
  go_ret
  exact ⟨v', rfl, ho, grown_trans (World.grownBy_alloc _ _ _) hg⟩

set_option maxHeartbeats 400000 in
theorem esc_92 (v : Value) (n : Nat) (xs : List Value) (w : World) (base : Nat) (hown : w.ownsRow base 5 1 v n xs) (hn : n ≤ 1048576) (hb : base ≤ w.heap.size) :
    Calls Try.prog 20 #[v, .int .u8 92] w (EscPost w base v n xs 92) := by
  obtain ⟨i0, hi, hz0, hz1, hz2⟩ := info_parts info5
  go_enter Try.func20, Try.ntmps20
  go_wp2_with (at_builtin; refine wpList_append_own _ rfl _ _ 22 rfl base 5 i0 (.int .u8 0) 1 1 Try.underlying22 hi hz0 hz1 hz2 rfl (by decide) _ n xs rfl (hown.alloc _) ⟨w.heap.size, 0, none⟩ 2 2 [.int .u8 92, .int .u8 92] rfl rfl (cells_new w #[.int .u8 92, .int .u8 92] 5) (by intro u hu; simp at hu; subst hu; rfl) (by unfold maxLen; omega) (by omega) (by simp; omega) ?_; intro v' w' ho hg _)
  go_ret
  exact ⟨v', rfl, ho, grown_trans (World.grownBy_alloc _ _ _) hg⟩

set_option maxHeartbeats 400000 in
theorem esc_other (v : Value) (n : Nat) (xs : List Value) (w : World) (base : Nat) (hown : w.ownsRow base 5 1 v n xs) (hn : n ≤ 1048576) (hb : base ≤ w.heap.size)
    (c : Int) (c0 : 0 ≤ c) (c1 : c ≤ 255) (h1 : (c == 34) = false) (h2 : (c == 92) = false) (h3 : (c == 8) = false) (h4 : (c == 12) = false) (h5 : (c == 10) = false) (h6 : (c == 13) = false) (h7 : (c == 9) = false) :
    Calls Try.prog 20 #[v, .int .u8 c] w (EscPost w base v n xs c) := by
  obtain ⟨i0, hi, hz0, hz1, hz2⟩ := info_parts info5
  have d1 := dg_index (c / 16) (by omega) (by omega)
  have d2 := dg_index (c % 16) (by omega) (by omega)
  have ha : bits .and .u8 c 15 = c % 16 := by
    rw [u8_and c 15 c0 (by omega) (by omega) (by omega)]
    obtain ⟨X, rfl⟩ := Int.eq_ofNat_of_zero_le c0
    simp [nat_mask4]
  have he : esc c = [92, 117, 48, 48, dg (c / 16), dg (c % 16)] := by
    simp only [beq_eq_false_iff_ne] at h1 h2 h3 h4 h5 h6 h7
    simp [esc, h1, h2, h3, h4, h5, h6, h7]
  have HE : Hid (esc c = [92, 117, 48, 48, dg (c / 16), dg (c % 16)]) := he
  clear he
  go_enter Try.func20, Try.ntmps20
  go_wp2_with fail
  go_region_law (refine step_append_own rfl (.tmp 33) (.tmp 40) 22 rfl base 5 i0 (.int .u8 0) 1 1 Try.underlying22 hi hz0 hz1 hz2 rfl (by decide) v n xs (by simp [Act.eval]) (hown.alloc _) ⟨w.heap.size, 0, none⟩ 6 6 [.int .u8 92, .int .u8 117, .int .u8 48, .int .u8 48, .int .u8 (dg (c / 16)), .int .u8 (dg (c % 16))] (by simp [Act.eval]) rfl (cells_new _ #[.int .u8 92, .int .u8 117, .int .u8 48, .int .u8 48, .int .u8 (dg (c / 16)), .int .u8 (dg (c % 16))] 5) (by intro u hu; simp at hu; rcases hu with rfl | rfl | rfl | rfl | rfl <;> rfl) (by unfold maxLen; omega) (by omega) (by simp; omega) ?_; intro v' w' ho hg)
  all_goals
    try go_wp2
    go_ret
    refine ⟨v', rfl, ?_, grown_trans (World.grownBy_alloc _ _ _) (grown_trans (grown_drew _ _) hg)⟩
    rw [HE.out]
    exact ho

theorem esc_any (v : Value) (n : Nat) (xs : List Value) (w : World) (base : Nat) (hown : w.ownsRow base 5 1 v n xs) (hn : n ≤ 1048576) (hb : base ≤ w.heap.size) (c : Int) (c0 : 0 ≤ c) (c1 : c ≤ 255) :
    Calls Try.prog 20 #[v, .int .u8 c] w (EscPost w base v n xs c) := by
  by_cases h1 : c = 34
  · subst h1; exact esc_34 v n xs w base hown hn hb
  by_cases h2 : c = 92
  · subst h2; exact esc_92 v n xs w base hown hn hb
  by_cases h3 : c = 8
  · subst h3; exact esc_8 v n xs w base hown hn hb
  by_cases h4 : c = 12
  · subst h4; exact esc_12 v n xs w base hown hn hb
  by_cases h5 : c = 10
  · subst h5; exact esc_10 v n xs w base hown hn hb
  by_cases h6 : c = 13
  · subst h6; exact esc_13 v n xs w base hown hn hb
  by_cases h7 : c = 9
  · subst h7; exact esc_9 v n xs w base hown hn hb
  exact esc_other v n xs w base hown hn hb c c0 c1 (by simpa using h1) (by simpa using h2) (by simpa using h3) (by simpa using h4) (by simpa using h5) (by simpa using h6) (by simpa using h7)

/-- ZZAppendEscape: appendEscape under another name. -/
theorem zzesc_any (v : Value) (n : Nat) (xs : List Value) (w : World) (base : Nat) (hown : w.ownsRow base 5 1 v n xs) (hn : n ≤ 1048576) (hb : base ≤ w.heap.size) (c : Int) (c0 : 0 ≤ c) (c1 : c ≤ 255) :
    Calls Try.prog 14 #[v, .int .u8 c] w (EscPost w base v n xs c) := by
  go_enter Try.func14, Try.ntmps14
  go_wp2_with fail
  refine (esc_any v n xs w base hown hn hb c c0 c1).mono ?_
  rintro e w' ⟨v', rfl, ho, hg⟩
  go_wp2
  go_ret
  exact ⟨v', rfl, ho, hg⟩
end Go.Proofs.Qxb6000049a
