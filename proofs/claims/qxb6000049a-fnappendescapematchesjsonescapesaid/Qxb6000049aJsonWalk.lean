import Derived.Test.Qxb6000049aHexModelWalk
import Derived.Test.Qxb6000049aEscInjWalk
import Derived.WalkKit
import Derived.WalkSmall
import Derived.OpenShut
import Derived.Deep.QuietTactic
import Derived.BigQuiet
import Derived.Deep.RegionWith
namespace Go.Proofs.Qxb6000049a
open Go.RowKit

/-- zzCloneBytes, whatever came in. -/
theorem clone_gen (a : Option Addr) (len cap : Nat) (zs : List Int) (w : World) (h : IsRow .u8 w a len cap zs) (hlen : len ≤ 1048576) :
    Calls Try.prog 9 #[.slice a len cap] w fun e w' => ∃ ao co, e = .returned (.slice ao len co) ∧ w'.ownsRow w.heap.size 5 1 (.slice ao len co) len ((zs.take len).map (Value.int .u8)) ∧
      w.grownBy w' none ∧ IsRow .u8 w' ao len co (zs.take len) := by
  rcases h with ⟨rfl, rfl, rfl, rfl⟩ | ⟨x, rfl, hl, hm, hz, hc, hw⟩
  · refine (clone_nil w).mono ?_
    rintro e w' ⟨rfl, rfl⟩
    exact ⟨none, 0, rfl, World.ownsRow_nil _ _ _ _, World.grownBy.refl _ _, Or.inl ⟨rfl, rfl, rfl, rfl⟩⟩
  · refine (clone_some x len cap zs w hl hlen hz hc).mono ?_
    rintro e w' ⟨rfl, rfl⟩
    refine ⟨_, len, rfl, ?_, World.grownBy_alloc _ _ _, Or.inr ⟨_, rfl, Nat.le_refl _, by unfold maxLen; omega, by simp; omega, ?_, fun n hn => hw n (List.mem_of_mem_take hn)⟩⟩
    · exact World.ownsRow_lit w _ len (Nat.le_refl _) (by unfold maxLen; omega) (by simp; omega)
    · intro i hi
      have hi' : i < len := by simp at hi; omega
      have e : ((⟨w.heap.size, 0, none⟩ : Addr).add i) = ⟨w.heap.size, i, none⟩ := by cases i <;> simp [Addr.add]
      rw [e, cell_clone w zs len i hi' (by omega)]
      simp [List.getD, hi']

def shortB (c : Int) : Bool := decide (c = 34 ∨ c = 92 ∨ c = 8 ∨ c = 12 ∨ c = 10 ∨ c = 13 ∨ c = 9)

theorem short_yes (c : Int) (w : World) (h : shortB c = true) :
    Calls Try.prog 15 #[.int .u8 c] w fun e w' => e = .returned (.bool true) ∧ w' = w := by
  simp only [shortB, decide_eq_true_eq] at h
  rcases h with rfl | rfl | rfl | rfl | rfl | rfl | rfl
  all_goals
    go_enter Try.func15, Try.ntmps15
    go_wp2
    go_ret
    exact ⟨rfl, rfl⟩

theorem short_no (c : Int) (w : World) (h : shortB c = false) :
    Calls Try.prog 15 #[.int .u8 c] w fun e w' => e = .returned (.bool false) ∧ w' = w := by
  simp only [shortB, decide_eq_false_iff_not, not_or] at h
  obtain ⟨h1, h2, h3, h4, h5, h6, h7⟩ := h
  have g1 : (c == 34) = false := by simpa using h1
  have g2 : (c == 92) = false := by simpa using h2
  have g3 : (c == 8) = false := by simpa using h3
  have g4 : (c == 12) = false := by simpa using h4
  have g5 : (c == 10) = false := by simpa using h5
  have g6 : (c == 13) = false := by simpa using h6
  have g7 : (c == 9) = false := by simpa using h7
  clear h1 h2 h3 h4 h5 h6 h7
  go_enter Try.func15, Try.ntmps15
  go_wp2
  go_ret
  exact ⟨rfl, rfl⟩

theorem json_short (c : Int) (w : World) (h : shortB c = true) :
    Calls Try.prog 16 #[.int .u8 ((esc c).getD 1 0)] w fun e w' => e = .returned (.tuple #[.int .u8 c, .bool true]) ∧ w' = w := by
  simp only [shortB, decide_eq_true_eq] at h
  rcases h with rfl | rfl | rfl | rfl | rfl | rfl | rfl
  · show Calls Try.prog 16 #[.int .u8 34] w _
    go_enter Try.func16, Try.ntmps16
    go_wp2
    go_ret2
    exact ⟨rfl, rfl⟩
  · show Calls Try.prog 16 #[.int .u8 92] w _
    go_enter Try.func16, Try.ntmps16
    go_wp2
    go_ret2
    exact ⟨rfl, rfl⟩
  · show Calls Try.prog 16 #[.int .u8 98] w _
    go_enter Try.func16, Try.ntmps16
    go_wp2
    go_ret2
    exact ⟨rfl, rfl⟩
  · show Calls Try.prog 16 #[.int .u8 102] w _
    go_enter Try.func16, Try.ntmps16
    go_wp2
    go_ret2
    exact ⟨rfl, rfl⟩
  · show Calls Try.prog 16 #[.int .u8 110] w _
    go_enter Try.func16, Try.ntmps16
    go_wp2
    go_ret2
    exact ⟨rfl, rfl⟩
  · show Calls Try.prog 16 #[.int .u8 114] w _
    go_enter Try.func16, Try.ntmps16
    go_wp2
    go_ret2
    exact ⟨rfl, rfl⟩
  · show Calls Try.prog 16 #[.int .u8 116] w _
    go_enter Try.func16, Try.ntmps16
    go_wp2
    go_ret2
    exact ⟨rfl, rfl⟩

theorem esc_short (c : Int) (h : shortB c = true) : (esc c).length = 2 ∧ (esc c).getD 0 0 = 92 := by
  simp only [shortB, decide_eq_true_eq] at h
  rcases h with rfl | rfl | rfl | rfl | rfl | rfl | rfl <;> decide

theorem esc_long (c : Int) (h : shortB c = false) : esc c = [92, 117, 48, 48, dg (c / 16), dg (c % 16)] := by
  simp only [shortB, decide_eq_false_iff_not, not_or] at h
  obtain ⟨h1, h2, h3, h4, h5, h6, h7⟩ := h
  simp [esc, h1, h2, h3, h4, h5, h6, h7]

theorem dg_low (n : Int) (h0 : 0 ≤ n) (h1 : n ≤ 15) : isLowB (dg n) = true ∧ hx (dg n) = n ∧ 0 ≤ dg n ∧ dg n ≤ 255 := by
  have : (isLowB (dg n) = true ∧ hx (dg n) = n ∧ 0 ≤ dg n ∧ dg n ≤ 255) := by
    obtain ⟨N, rfl⟩ := Int.eq_ofNat_of_zero_le h0
    have key : ∀ k : Fin 16, isLowB (dg (k.val : Int)) = true ∧ hx (dg (k.val : Int)) = k.val ∧ 0 ≤ dg (k.val : Int) ∧ dg (k.val : Int) ≤ 255 := by decide
    exact key ⟨N, by omega⟩
  exact this

theorem json_big (a : Option Addr) (len cap : Nat) (c : Int) (w : World) (h : 1048576 < len) (h2 : len ≤ 9223372036854775807) :
    Calls Try.prog 5 #[.slice a len cap, .int .u8 c] w fun e w' => e = .returned (.bool true) ∧ Below w.heap.size w w' := by
  go_enter Try.func5, Try.ntmps5
  go_wp2_with (go_at_call 13; refine (bytes13_big a len cap c _ h h2).mono ?_; rintro e w' ⟨rfl, rfl⟩)
  go_ret
  exact ⟨rfl, Below.refl _ _⟩

/-- What lies in memory behind the three calls. -/
structure After (w w3 : World) (zs : List Int) (len : Nat) (c : Int) (g cap' : Nat) (ao : Option Addr) : Prop where
  below : Below w.heap.size w w3
  capLe : len + (esc c).length ≤ cap'
  capMax : cap' ≤ maxLen
  out : ∀ j, j < len + (esc c).length → w3.cell? ⟨g, j, none⟩ = some (.int .u8 ((zs.take len ++ esc c).getD j 0))
  orig : ∀ j, j < len → ∃ go, ao = some ⟨go, 0, none⟩ ∧ w3.cell? ⟨go, j, none⟩ = some (.int .u8 ((zs.take len).getD j 0))

set_option maxHeartbeats 800000 in
theorem json_all (a : Option Addr) (len cap : Nat) (zs : List Int) (c : Int) (w : World) (h : IsRow .u8 w a len cap zs) (hlen : len ≤ 1048576) (c0 : 0 ≤ c) (c1 : c ≤ 255) :
    Calls Try.prog 5 #[.slice a len cap, .int .u8 c] w fun e w' => e = .returned (.bool true) ∧ Below w.heap.size w w' := by
  have HI : Hid (IsRow .u8 w a len cap zs) := h
  have hzl : (zs.take len).length = len := by
    rcases h with ⟨rfl, rfl, rfl, rfl⟩ | ⟨x, rfl, hl, hm, hz, hc, hw⟩
    · rfl
    · simp; omega
  clear h
  go_enter Try.func5, Try.ntmps5
  go_wp2_with (go_at_call 13; refine (bytes13_ok a len cap c _ hlen).mono ?_; rintro e w' ⟨rfl, hw'⟩; replace hw' := hw'.symm; subst hw')
  refine (clone_gen a len cap zs w HI.out hlen).mono ?_
  rintro e w1 ⟨ao1, co1, rfl, ho1, hg1, hi1⟩
  have HI1 : Hid (IsRow .u8 w1 ao1 len co1 (zs.take len)) := hi1
  have HO1 : Hid (w1.ownsRow w.heap.size 5 1 (.slice ao1 len co1) len ((zs.take len).map (Value.int .u8))) := ho1
  have HG1 : Hid (w.grownBy w1 none) := hg1
  clear hi1 ho1 hg1
  go_wp2_with fail
  refine (clone_gen ao1 len co1 (zs.take len) w1 HI1.out hlen).mono ?_
  rintro e w2 ⟨ao2, co2, rfl, ho2, hg2, hi2⟩
  have HO2 : Hid (w2.ownsRow w1.heap.size 5 1 (.slice ao2 len co2) len (((zs.take len).take len).map (Value.int .u8))) := ho2
  have HG2 : Hid (w1.grownBy w2 none) := hg2
  clear hi2 ho2 hg2
  have own1 : w2.ownsRow w.heap.size 5 1 (.slice ao1 len co1) len ((zs.take len).map (Value.int .u8)) := HO1.out.kept HG2.out (by cases e : Value.ownBlock (.slice ao1 len co1) <;> simp)
  have HW1 : Hid (w2.ownsRow w.heap.size 5 1 (.slice ao1 len co1) len ((zs.take len).map (Value.int .u8))) := own1
  clear own1
  go_wp2_with fail
  refine (zzesc_any (.slice ao1 len co1) len ((zs.take len).map (Value.int .u8)) w2 w.heap.size HW1.out hlen (Nat.le_trans HG1.out.size HG2.out.size) c c0 c1).mono ?_
  rintro e w3 ⟨v', rfl, ho3, hg3⟩
  have hel := esc_len c
  rw [← List.map_append] at ho3
  obtain ⟨g, cap', rfl, hgb, hgs, hn, hm, hc⟩ := own_open ho3 (by omega)
  have af : After w w3 zs len c g cap' ao2 := by
    have hsz1 := HG1.out.size
    have hsz2 := HG2.out.size
    refine ⟨?_, hn, hm, hc, ?_⟩
    · refine ((below_of_grown HG1.out).grown HG2.out hsz1 (by intro k hk; cases hk)).grown hg3 (by omega) ?_
      intro k hk
      exact (HW1.out.lt k hk).1
    · intro j hj
      have h2 : w3.ownsRow w1.heap.size 5 1 (.slice ao2 len co2) len (((zs.take len).take len).map (Value.int .u8)) := by
        refine HO2.out.kept hg3 ?_
        cases e2 : Value.ownBlock (.slice ao2 len co2) with
        | none => exact .inl rfl
        | some k2 =>
          right
          intro e1
          have l2 := HO2.out.lt k2 e2
          have l1 := HO1.out.lt k2 e1.symm
          omega
      obtain ⟨go, cc, hv, _, _, _, _, hcell⟩ := own_open h2 (by omega)
      simp only [Value.slice.injEq] at hv
      refine ⟨go, hv.1, ?_⟩
      rw [hcell j hj, List.take_take, Nat.min_self]
  have AF : Hid (After w w3 zs len c g cap' ao2) := af
  have hmx : cap' ≤ 9223372036854775807 := by have := hm; unfold maxLen at this; exact this
  clear af ho3 hg3 hc hm hgb hgs HO2 HG2 HW1 HO1 HG1 HI1 HI
  by_cases hs : shortB c = true
  · have H2 := (esc_short c hs).1
    rw [H2] at hn ⊢
    have HS : Hid (shortB c = true ∧ (esc c).length = 2) := ⟨hs, H2⟩
    clear hs H2 hel
    go_wp2
    go_loopw [7] (fun i wr => ∃ k q : Nat, k ≤ len ∧ i = .int .i64 k ∧ wr = w3.drewN q) (fun i _ => len - (intOf i).toNat)
    case atStart => exact ⟨0, 0, by omega, rfl, rfl⟩
    case round =>
      obtain ⟨k, q, hk, rfl, hwr⟩ := hrel
      by_cases hlt : k < len
      · obtain ⟨go, hao, hco⟩ := AF.out.orig k hlt
        have hcu := AF.out.out k (by omega)
        have eq1 : (zs.take len ++ esc c).getD k 0 = (zs.take len).getD k 0 := by
          simp only [List.getD]; rw [List.getElem?_append_left (by omega)]
        rw [eq1] at hcu
        obtain ⟨y, hy⟩ : ∃ y, y = (zs.take len).getD k 0 := ⟨_, rfl⟩
        rw [← hy] at hcu hco
        rw [hao]
        have hcu' : wr.cell? ⟨g, k, none⟩ = some (.int .u8 y) := by rw [hwr]; exact hcu
        have hco' : wr.cell? ⟨go, k, none⟩ = some (.int .u8 y) := by rw [hwr]; exact hco
        have HW : Hid (wr = w3.drewN q) := hwr
        have HA : Hid (ao2 = some ⟨go, 0, none⟩) := hao
        clear hcu hco hy eq1 hwr hao
        go_wp2_with fail
        go_quiet (fail)
        go_wp2
        go_roundw
        case rel => exact ⟨k + 1, q + nq, by omega, by go_num, by rw [HW.out]; simp⟩
        case measure => simp [intOf]; omega
      · have at0 : ∀ j, j < (esc c).length → wr.cell? ⟨g, len + j, none⟩ = some (.int .u8 ((esc c).getD j 0)) := by
          intro j hj
          rw [hwr, World.cell?_drewN, AF.out.out (len + j) (by omega)]
          simp only [List.getD]
          rw [List.getElem?_append_right (by omega), hzl, Nat.add_sub_cancel_left]
        have HW : Hid (wr = w3.drewN q) := hwr
        have HC : Hid (∀ j, j < (esc c).length → wr.cell? ⟨g, len + j, none⟩ = some (.int .u8 ((esc c).getD j 0))) := at0
        clear at0 hwr
        have e0 : wr.cell? ⟨g, len, none⟩ = some (.int .u8 92) := by
          rw [← (esc_short c HS.out.1).2]; exact HC.out 0 (by rw [HS.out.2]; omega)
        obtain ⟨y, hy⟩ : ∃ y, y = (esc c).getD 1 0 := ⟨_, rfl⟩
        have e1 : wr.cell? ⟨g, len + 1, none⟩ = some (.int .u8 y) := by rw [hy]; exact HC.out 1 (by rw [HS.out.2]; omega)
        have hj := json_short c wr HS.out.1
        rw [← hy] at hj
        have HJ : Hid (Calls Try.prog 16 #[.int .u8 y] wr fun e w' => e = .returned (.tuple #[.int .u8 c, .bool true]) ∧ w' = wr) := hj
        clear hj hy
        go_wp2_with (first | (go_at_call 15; refine (short_yes c _ HS.out.1).mono ?_; rintro e w' ⟨rfl, hw'⟩; replace hw' := hw'.symm; subst hw') | (go_at_call 16; refine HJ.out.mono ?_; rintro e w' ⟨rfl, hw'⟩; replace hw' := hw'.symm; subst hw'))
        go_ret
        exact ⟨rfl, by rw [HW.out]; exact below_drewN AF.out.below _⟩
  · replace hs : shortB c = false := by simpa using hs
    have hE := esc_long c hs
    have H6 : (esc c).length = 6 := by rw [hE]; rfl
    rw [H6] at hn ⊢
    have HS : Hid (shortB c = false ∧ (esc c).length = 6 ∧ esc c = [92, 117, 48, 48, dg (c / 16), dg (c % 16)]) := ⟨hs, H6, hE⟩
    clear hs H6 hE hel
    go_wp2
    go_loopw [7] (fun i wr => ∃ k q : Nat, k ≤ len ∧ i = .int .i64 k ∧ wr = w3.drewN q) (fun i _ => len - (intOf i).toNat)
    case atStart => exact ⟨0, 0, by omega, rfl, rfl⟩
    case round =>
      obtain ⟨k, q, hk, rfl, hwr⟩ := hrel
      by_cases hlt : k < len
      · obtain ⟨go, hao, hco⟩ := AF.out.orig k hlt
        have hcu := AF.out.out k (by omega)
        have eq1 : (zs.take len ++ esc c).getD k 0 = (zs.take len).getD k 0 := by
          simp only [List.getD]; rw [List.getElem?_append_left (by omega)]
        rw [eq1] at hcu
        obtain ⟨y, hy⟩ : ∃ y, y = (zs.take len).getD k 0 := ⟨_, rfl⟩
        rw [← hy] at hcu hco
        rw [hao]
        have hcu' : wr.cell? ⟨g, k, none⟩ = some (.int .u8 y) := by rw [hwr]; exact hcu
        have hco' : wr.cell? ⟨go, k, none⟩ = some (.int .u8 y) := by rw [hwr]; exact hco
        have HW : Hid (wr = w3.drewN q) := hwr
        have HA : Hid (ao2 = some ⟨go, 0, none⟩) := hao
        clear hcu hco hy eq1 hwr hao
        go_wp2_with fail
        go_quiet (fail)
        go_wp2
        go_roundw
        case rel => exact ⟨k + 1, q + nq, by omega, by go_num, by rw [HW.out]; simp⟩
        case measure => simp [intOf]; omega
      · have at0 : ∀ j, j < (esc c).length → wr.cell? ⟨g, len + j, none⟩ = some (.int .u8 ((esc c).getD j 0)) := by
          intro j hj
          rw [hwr, World.cell?_drewN, AF.out.out (len + j) (by omega)]
          simp only [List.getD]
          rw [List.getElem?_append_right (by omega), hzl, Nat.add_sub_cancel_left]
        have HW : Hid (wr = w3.drewN q) := hwr
        have HC : Hid (∀ j, j < (esc c).length → wr.cell? ⟨g, len + j, none⟩ = some (.int .u8 ((esc c).getD j 0))) := at0
        clear at0 hwr
        have e0 : wr.cell? ⟨g, len, none⟩ = some (.int .u8 92) := by
          have := HC.out 0 (by rw [HS.out.2.1]; omega)
          rw [HS.out.2.2] at this; exact this
        have e1 : wr.cell? ⟨g, len + 1, none⟩ = some (.int .u8 117) := by
          have := HC.out 1 (by rw [HS.out.2.1]; omega)
          rw [HS.out.2.2] at this; exact this
        go_wp2_with (go_at_call 15; refine (short_no c _ HS.out.1).mono ?_; rintro e w' ⟨rfl, hw'⟩; replace hw' := hw'.symm; subst hw')
        clear e0 e1
        go_loop [11] (fun i => ∃ k : Nat, 2 ≤ k ∧ k ≤ 6 ∧ i = .int .i64 k) (fun i => 6 - (intOf i).toNat)
        case atStart => exact ⟨2, by omega, by omega, rfl⟩
        case round =>
          obtain ⟨t, ht2, ht6, rfl⟩ := hrel
          have d1 := dg_low (c / 16) (by omega) (by omega)
          have d2 := dg_low (c % 16) (by omega) (by omega)
          by_cases hlt6 : t < 6
          · have ct := HC.out t (by rw [HS.out.2.1]; omega)
            have low : isLowB ((esc c).getD t 0) = true ∧ 0 ≤ (esc c).getD t 0 ∧ (esc c).getD t 0 ≤ 255 := by
              rw [HS.out.2.2]
              rcases (show t = 2 ∨ t = 3 ∨ t = 4 ∨ t = 5 from by omega) with rfl | rfl | rfl | rfl
              · exact (show isLowB 48 = true ∧ (0 : Int) ≤ 48 ∧ (48 : Int) ≤ 255 from by decide)
              · exact (show isLowB 48 = true ∧ (0 : Int) ≤ 48 ∧ (48 : Int) ≤ 255 from by decide)
              · exact ⟨d1.1, d1.2.2.1, d1.2.2.2⟩
              · exact ⟨d2.1, d2.2.2.1, d2.2.2.2⟩
            have cl := low_any ((esc c).getD t 0) low.2.1 low.2.2 wr
            rw [low.1] at cl
            obtain ⟨y, hy⟩ : ∃ y, y = (esc c).getD t 0 := ⟨_, rfl⟩
            rw [← hy] at ct cl
            have CL : Hid (Calls Try.prog 17 #[.int .u8 y] wr fun e w' => e = .returned (.bool true) ∧ w' = wr) := cl
            clear cl hy low d1 d2
            go_wp2_with (go_at_call 17; refine CL.out.mono ?_; rintro e w' ⟨rfl, hw'⟩; replace hw' := hw'.symm; subst hw')
            go_round
            case rel => exact ⟨t + 1, by omega, by omega, by go_num⟩
            case measure => simp [intOf]; omega
          · have hh := zzhex4_of _ _ _ _ (hex4_ok g (len + 2) 4 (cap' - len - 2) (fun i => (esc c).getD (2 + i) 0) wr (by omega) (by omega) (by unfold maxLen; omega) (fun i hi => by rw [Nat.add_assoc]; exact HC.out (2 + i) (by rw [HS.out.2.1]; omega)) (fun i hi => by
              rw [HS.out.2.2]
              rcases (show i = 0 ∨ i = 1 ∨ i = 2 ∨ i = 3 from by omega) with rfl | rfl | rfl | rfl
              · exact (show 0 ≤ hx 48 from by decide)
              · exact (show 0 ≤ hx 48 from by decide)
              · exact d1.2.1.symm ▸ (by omega : 0 ≤ c / 16)
              · exact d2.2.1.symm ▸ (by omega : 0 ≤ c % 16)))
            have hval : hv (fun i => (esc c).getD (2 + i) 0) 4 = c := by
              rw [HS.out.2.2]
              simp [hv, d1.2.1, d2.2.1, show hx 48 = 0 from by decide]
              omega
            rw [hval] at hh
            have HH : Hid (Calls Try.prog 10 #[.slice (some ⟨g, len + 2, none⟩) 4 (cap' - len - 2)] wr fun e w' => e = .returned (.tuple #[.int .i32 c, .bool true]) ∧ w' = wr) := hh
            clear hh hval d1 d2
            go_wp2_with fail
            refine HH.out.mono ?_
            rintro e w' ⟨rfl, hw'⟩
            replace hw' := hw'.symm
            subst hw'
            go_wp2
            go_ret
            exact ⟨by simp, by rw [HW.out]; exact below_drewN AF.out.below _⟩

theorem jsonWalk (a0 : Option Addr) (len0 cap0 : Nat) (z0 : List Int) (a1 : Int) (w : World) (w0 : IsRow .u8 w a0 len0 cap0 z0) (w1 : (Lit.int .u8 a1).wf = true) :
    Calls Try.prog 5 #[.slice a0 len0 cap0, .int .u8 a1] w fun e w' => e = .returned (.bool true) ∧ Below w.heap.size w w' := by
  have hb := bounds_u8 w1
  by_cases h1 : 1048576 < len0
  · refine json_big _ _ _ _ w h1 ?_
    rcases w0 with ⟨rfl, rfl, rfl, rfl⟩ | ⟨x, rfl, hl, hm, hz, hc, hw⟩
    · omega
    · unfold maxLen at hm; omega
  · exact json_all a0 len0 cap0 z0 a1 w w0 (by omega) hb.1 hb.2
end Go.Proofs.Qxb6000049a
