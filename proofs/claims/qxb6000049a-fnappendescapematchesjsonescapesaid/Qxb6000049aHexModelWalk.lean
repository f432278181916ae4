import Derived.Test.Qxb6000049aHexWalk
import Derived.Test.Qxb6000049aDigitWalk
import Derived.Test.Qxb6000049aCloneWalk
import Derived.Test.Qxb6000049aEscWalk
import Derived.WalkKit
import Derived.WalkSmall
import Derived.OpenShut
import Derived.Deep.QuietTactic
import Derived.BigQuiet
import Derived.Deep.RegionWith
namespace Go.Proofs.Qxb6000049a
open Go.RowKit

theorem hx_ge (c : Int) : hx c = -1 ∨ 0 ≤ hx c := by rcases hx_cases c with h | h | h | h <;> omega
theorem isHex_true {c : Int} (h : 0 ≤ hx c) : isHexB c = true := by simp [isHexB, h]
theorem isHex_false {c : Int} (h : hx c = -1) : isHexB c = false := by simp [isHexB, h]

theorem dg_hx (c : Int) (h : 0 ≤ hx c) : dg (hx c) = lowerI c := by
  rcases hx_cases c with ⟨h1, h2, h3⟩ | ⟨h1, h2, h3⟩ | ⟨h1, h2, h3⟩ | ⟨_, _, _, h3⟩
  · rw [h3]; unfold dg lowerI; split <;> split <;> omega
  · rw [h3]; unfold dg lowerI; split <;> split <;> omega
  · rw [h3]; unfold dg lowerI; split <;> split <;> omega
  · omega

theorem i64_and15 (x : Int) (h0 : 0 ≤ x) (h1 : x ≤ 65535) : bits .and .i64 x 15 = x % 16 := by
  obtain ⟨X, rfl⟩ := Int.eq_ofNat_of_zero_le h0
  have hx : X &&& 15 < 2 ^ 16 := Nat.and_lt_two_pow _ (by omega)
  show IntKind.i64.wrap ((BitVec.ofInt 64 (X : Int) &&& BitVec.ofInt 64 ((15 : Nat) : Int)).toNat : Int) = _
  rw [BitVec.toNat_and, BitVec.ofInt_natCast, BitVec.ofInt_natCast, BitVec.toNat_ofNat, BitVec.toNat_ofNat, Nat.mod_eq_of_lt (by omega), Nat.mod_eq_of_lt (by omega), nat_mask4, IntKind.wrap_i64]
  omega

theorem dg_index64 (x : Int) (h0 : 0 ≤ x) (h1 : x < 16) (w : World) :
    (Instr.index 9 (.string (ByteArray.mk #[48, 49, 50, 51, 52, 53, 54, 55, 56, 57, 97, 98, 99, 100, 101, 102])) (.int .i64 x)).run Try.prog w = .ok (.int .u8 (dg x)) w := by
  obtain ⟨X, rfl⟩ := Int.eq_ofNat_of_zero_le h0
  have h := dg_all ⟨X, by omega⟩
  rw [run_index_string w 9 _ .i64 _ Try.underlying9, dif_pos ⟨h0, h1⟩, ← h]
  simp only [Int.toNat_natCast]

theorem model_big (a : Option Addr) (len cap : Nat) (w : World) (h : 1048576 < len) (h2 : len ≤ 9223372036854775807) :
    Calls Try.prog 3 #[.slice a len cap] w fun e w' => e = .returned (.bool true) ∧ Below w.heap.size w w' := by
  go_enter Try.func3, Try.ntmps3
  go_wp2_with (go_at_call 8; refine (bytes8_big a len cap _ h h2).mono ?_; rintro e w' ⟨rfl, rfl⟩)
  go_ret
  exact ⟨rfl, Below.refl _ _⟩

theorem model_nil (w : World) :
    Calls Try.prog 3 #[.slice none 0 0] w fun e w' => e = .returned (.bool true) ∧ Below w.heap.size w w' := by
  go_enter Try.func3, Try.ntmps3
  go_wp2_with (first | (go_at_call 8; refine (bytes8_ok none 0 0 _ (by omega)).mono ?_; rintro e w' ⟨rfl, rfl⟩) | (go_at_call 9; refine (clone_nil _).mono ?_; rintro e w' ⟨rfl, rfl⟩) | (go_at_call 10; refine (zzhex4_of _ _ _ _ (hex4_short none 0 0 _ (by omega))).mono ?_; rintro e w' ⟨rfl, rfl⟩))
  go_ret
  exact ⟨rfl, Below.refl _ _⟩

theorem model_short (x : Addr) (len cap : Nat) (zs : List Int) (w : World) (hl : len ≤ cap) (hlen : len < 4) (hz : zs.length = cap) (hc : ∀ i, i < zs.length → w.cell? (x.add i) = some (.int .u8 (zs.getD i 0))) :
    Calls Try.prog 3 #[.slice (some x) len cap] w fun e w' => e = .returned (.bool true) ∧ Below w.heap.size w w' := by
  have CL : Hid (∀ i, i < zs.length → w.cell? (x.add i) = some (.int .u8 (zs.getD i 0))) := hc
  clear hc
  go_enter Try.func3, Try.ntmps3
  go_wp2_with (first | (go_at_call 8; refine (bytes8_ok _ len cap _ (by omega)).mono ?_; rintro e w' ⟨rfl, rfl⟩) | (go_at_call 9; refine (clone_some x len cap zs _ hl (by omega) hz CL.out).mono ?_; rintro e w' ⟨rfl, rfl⟩) | (go_at_call 10; refine (zzhex4_of _ _ _ _ (hex4_short _ len len _ hlen)).mono ?_; rintro e w' ⟨rfl, rfl⟩))
  go_ret
  exact ⟨rfl, (Below.refl _ _).alloc (Nat.le_refl _) _⟩

set_option maxHeartbeats 800000 in
theorem model_bad (x : Addr) (len cap : Nat) (zs : List Int) (w : World) (hl : len ≤ cap) (h4 : 4 ≤ len) (hlen : len ≤ 1048576) (hz : zs.length = cap) (hc : ∀ i, i < zs.length → w.cell? (x.add i) = some (.int .u8 (zs.getD i 0)))
    (hw : ∀ n ∈ zs, (Lit.int .u8 n).wf = true) (hbad : ∃ i, i < 4 ∧ hx (zs.getD i 0) = -1) :
    Calls Try.prog 3 #[.slice (some x) len cap] w fun e w' => e = .returned (.bool true) ∧ Below w.heap.size w w' := by
  have CL : Hid (∀ i, i < zs.length → w.cell? (x.add i) = some (.int .u8 (zs.getD i 0))) := hc
  clear hc
  obtain ⟨y0, e0⟩ : ∃ y, y = zs.getD 0 0 := ⟨_, rfl⟩
  obtain ⟨y1, e1⟩ : ∃ y, y = zs.getD 1 0 := ⟨_, rfl⟩
  obtain ⟨y2, e2⟩ : ∃ y, y = zs.getD 2 0 := ⟨_, rfl⟩
  obtain ⟨y3, e3⟩ : ∃ y, y = zs.getD 3 0 := ⟨_, rfl⟩
  have b0 := byte_of_wf hw 0
  have b1 := byte_of_wf hw 1
  have b2 := byte_of_wf hw 2
  have b3 := byte_of_wf hw 3
  rw [← e0] at b0
  rw [← e1] at b1
  rw [← e2] at b2
  rw [← e3] at b3
  obtain ⟨W1, hW1⟩ : ∃ W1, W1 = w.alloc (.cells ((zs.take len).map (Value.int .u8)).toArray 5) := ⟨_, rfl⟩
  have hcl := clone_some x len cap zs w hl hlen hz CL.out
  rw [← hW1] at hcl
  have hcc : ∀ j, j < len → W1.cell? ⟨w.heap.size, j, none⟩ = some (.int .u8 (zs.getD j 0)) := fun j hj => by rw [hW1]; exact cell_clone w zs len j hj (by omega)
  have k0 := hcc 0 (by omega)
  have k1 := hcc 1 (by omega)
  have k2 := hcc 2 (by omega)
  have k3 := hcc 3 (by omega)
  rw [← e0] at k0
  rw [← e1] at k1
  rw [← e2] at k2
  rw [← e3] at k3
  have hb : Below w.heap.size w W1 := by rw [hW1]; exact (Below.refl _ _).alloc (Nat.le_refl _) _
  have hh := zzhex4_of _ _ _ _ (hex4_bad w.heap.size 0 len len (fun i => zs.getD i 0) W1 h4 (Nat.le_refl _) (by unfold maxLen; omega) (fun i hi => by rw [Nat.zero_add]; exact hcc i (by omega)) (fun i _ => byte_of_wf hw i) hbad)
  have hor : hx y0 = -1 ∨ hx y1 = -1 ∨ hx y2 = -1 ∨ hx y3 = -1 := by
    obtain ⟨i, hi, h⟩ := hbad
    match i, hi with
    | 0, _ => exact .inl (by rw [e0]; exact h)
    | 1, _ => exact .inr (.inl (by rw [e1]; exact h))
    | 2, _ => exact .inr (.inr (.inl (by rw [e2]; exact h)))
    | 3, _ => exact .inr (.inr (.inr (by rw [e3]; exact h)))
  have HH : Hid (Calls Try.prog 10 #[.slice (some ⟨w.heap.size, 0, none⟩) len len] W1 fun e w' => e = .returned (.tuple #[.int .i32 0, .bool false]) ∧ w' = W1) := hh
  have HC : Hid (Calls Try.prog 9 #[.slice (some x) len cap] w fun e w' => e = .returned (.slice (some ⟨w.heap.size, 0, none⟩) len len) ∧ w' = W1) := hcl
  have HB : Hid (Below w.heap.size w W1) := hb
  clear hh hcl hb hcc hW1 hbad e0 e1 e2 e3 hw hz CL
  have fin : ∀ (r0 r1 r2 r3 : Bool), isHexB y0 = r0 → isHexB y1 = r1 → isHexB y2 = r2 → isHexB y3 = r3 → (r0 && r1 && r2 && r3) = false →
      Calls Try.prog 3 #[.slice (some x) len cap] w fun e w' => e = .returned (.bool true) ∧ Below w.heap.size w w' := by
    intro r0 r1 r2 r3 f0 f1 f2 f3 fa
    have c0 := hex_any y0 b0.1 b0.2 W1
    have c1 := hex_any y1 b1.1 b1.2 W1
    have c2 := hex_any y2 b2.1 b2.2 W1
    have c3 := hex_any y3 b3.1 b3.2 W1
    rw [f0] at c0
    rw [f1] at c1
    rw [f2] at c2
    rw [f3] at c3
    have C0 : Hid (Calls Try.prog 11 #[.int .u8 y0] W1 fun e w' => e = .returned (.bool r0) ∧ w' = W1) := c0
    have C1 : Hid (Calls Try.prog 11 #[.int .u8 y1] W1 fun e w' => e = .returned (.bool r1) ∧ w' = W1) := c1
    have C2 : Hid (Calls Try.prog 11 #[.int .u8 y2] W1 fun e w' => e = .returned (.bool r2) ∧ w' = W1) := c2
    have C3 : Hid (Calls Try.prog 11 #[.int .u8 y3] W1 fun e w' => e = .returned (.bool r3) ∧ w' = W1) := c3
    clear c0 c1 c2 c3 f0 f1 f2 f3 hor
    cases r0 with
    | false =>
      clear fa
      go_enter Try.func3, Try.ntmps3
      go_wp2_with (first | (go_at_call 8; refine (bytes8_ok _ len cap _ (by omega)).mono ?_; rintro e w' ⟨rfl, rfl⟩) | (go_at_call 9; refine HC.out.mono ?_; rintro e w' ⟨rfl, rfl⟩) | (go_at_call 10; refine HH.out.mono ?_; rintro e w' ⟨rfl, rfl⟩) | (go_at_call_of 11 (Value.int IntKind.u8 y0); refine C0.out.mono ?_; rintro e w' ⟨rfl, rfl⟩) | (go_at_call_of 11 (Value.int IntKind.u8 y1); refine C1.out.mono ?_; rintro e w' ⟨rfl, rfl⟩) | (go_at_call_of 11 (Value.int IntKind.u8 y2); refine C2.out.mono ?_; rintro e w' ⟨rfl, rfl⟩) | (go_at_call_of 11 (Value.int IntKind.u8 y3); refine C3.out.mono ?_; rintro e w' ⟨rfl, rfl⟩))
      go_ret
      exact ⟨rfl, HB.out⟩
    | true =>
      cases r1 with
      | false =>
        clear fa
        go_enter Try.func3, Try.ntmps3
        go_wp2_with (first | (go_at_call 8; refine (bytes8_ok _ len cap _ (by omega)).mono ?_; rintro e w' ⟨rfl, rfl⟩) | (go_at_call 9; refine HC.out.mono ?_; rintro e w' ⟨rfl, rfl⟩) | (go_at_call 10; refine HH.out.mono ?_; rintro e w' ⟨rfl, rfl⟩) | (go_at_call_of 11 (Value.int IntKind.u8 y0); refine C0.out.mono ?_; rintro e w' ⟨rfl, rfl⟩) | (go_at_call_of 11 (Value.int IntKind.u8 y1); refine C1.out.mono ?_; rintro e w' ⟨rfl, rfl⟩) | (go_at_call_of 11 (Value.int IntKind.u8 y2); refine C2.out.mono ?_; rintro e w' ⟨rfl, rfl⟩) | (go_at_call_of 11 (Value.int IntKind.u8 y3); refine C3.out.mono ?_; rintro e w' ⟨rfl, rfl⟩))
        go_ret
        exact ⟨rfl, HB.out⟩
      | true =>
        cases r2 with
        | false =>
          clear fa
          go_enter Try.func3, Try.ntmps3
          go_wp2_with (first | (go_at_call 8; refine (bytes8_ok _ len cap _ (by omega)).mono ?_; rintro e w' ⟨rfl, rfl⟩) | (go_at_call 9; refine HC.out.mono ?_; rintro e w' ⟨rfl, rfl⟩) | (go_at_call 10; refine HH.out.mono ?_; rintro e w' ⟨rfl, rfl⟩) | (go_at_call_of 11 (Value.int IntKind.u8 y0); refine C0.out.mono ?_; rintro e w' ⟨rfl, rfl⟩) | (go_at_call_of 11 (Value.int IntKind.u8 y1); refine C1.out.mono ?_; rintro e w' ⟨rfl, rfl⟩) | (go_at_call_of 11 (Value.int IntKind.u8 y2); refine C2.out.mono ?_; rintro e w' ⟨rfl, rfl⟩) | (go_at_call_of 11 (Value.int IntKind.u8 y3); refine C3.out.mono ?_; rintro e w' ⟨rfl, rfl⟩))
          go_ret
          exact ⟨rfl, HB.out⟩
        | true =>
          obtain rfl : r3 = false := by simpa using fa
          clear fa
          go_enter Try.func3, Try.ntmps3
          go_wp2_with (first | (go_at_call 8; refine (bytes8_ok _ len cap _ (by omega)).mono ?_; rintro e w' ⟨rfl, rfl⟩) | (go_at_call 9; refine HC.out.mono ?_; rintro e w' ⟨rfl, rfl⟩) | (go_at_call 10; refine HH.out.mono ?_; rintro e w' ⟨rfl, rfl⟩) | (go_at_call_of 11 (Value.int IntKind.u8 y0); refine C0.out.mono ?_; rintro e w' ⟨rfl, rfl⟩) | (go_at_call_of 11 (Value.int IntKind.u8 y1); refine C1.out.mono ?_; rintro e w' ⟨rfl, rfl⟩) | (go_at_call_of 11 (Value.int IntKind.u8 y2); refine C2.out.mono ?_; rintro e w' ⟨rfl, rfl⟩) | (go_at_call_of 11 (Value.int IntKind.u8 y3); refine C3.out.mono ?_; rintro e w' ⟨rfl, rfl⟩))
          go_ret
          exact ⟨rfl, HB.out⟩
  rcases hx_ge y0 with g0 | g0
  · exact fin _ _ _ _ rfl rfl rfl rfl (by rw [isHex_false g0]; rfl)
  rcases hx_ge y1 with g1 | g1
  · exact fin _ _ _ _ rfl rfl rfl rfl (by rw [isHex_false g1]; simp)
  rcases hx_ge y2 with g2 | g2
  · exact fin _ _ _ _ rfl rfl rfl rfl (by rw [isHex_false g2]; simp)
  exact fin _ _ _ _ rfl rfl rfl rfl (by rw [isHex_false (by omega : hx y3 = -1)]; simp)
set_option maxHeartbeats 800000 in
theorem model_ok (x : Addr) (len cap : Nat) (zs : List Int) (w : World) (hl : len ≤ cap) (h4 : 4 ≤ len) (hlen : len ≤ 1048576) (hz : zs.length = cap) (hc : ∀ i, i < zs.length → w.cell? (x.add i) = some (.int .u8 (zs.getD i 0)))
    (hw : ∀ n ∈ zs, (Lit.int .u8 n).wf = true) (hgood : ∀ i, i < 4 → 0 ≤ hx (zs.getD i 0)) :
    Calls Try.prog 3 #[.slice (some x) len cap] w fun e w' => e = .returned (.bool true) ∧ Below w.heap.size w w' := by
  have CL : Hid (∀ i, i < zs.length → w.cell? (x.add i) = some (.int .u8 (zs.getD i 0))) := hc
  clear hc
  obtain ⟨y0, e0⟩ : ∃ y, y = zs.getD 0 0 := ⟨_, rfl⟩
  obtain ⟨y1, e1⟩ : ∃ y, y = zs.getD 1 0 := ⟨_, rfl⟩
  obtain ⟨y2, e2⟩ : ∃ y, y = zs.getD 2 0 := ⟨_, rfl⟩
  obtain ⟨y3, e3⟩ : ∃ y, y = zs.getD 3 0 := ⟨_, rfl⟩
  have b0 := byte_of_wf hw 0
  have b1 := byte_of_wf hw 1
  have b2 := byte_of_wf hw 2
  have b3 := byte_of_wf hw 3
  rw [← e0] at b0
  rw [← e1] at b1
  rw [← e2] at b2
  rw [← e3] at b3
  obtain ⟨W1, hW1⟩ : ∃ W1, W1 = w.alloc (.cells ((zs.take len).map (Value.int .u8)).toArray 5) := ⟨_, rfl⟩
  have hcl := clone_some x len cap zs w hl hlen hz CL.out
  rw [← hW1] at hcl
  have hcc : ∀ j, j < len → W1.cell? ⟨w.heap.size, j, none⟩ = some (.int .u8 (zs.getD j 0)) := fun j hj => by rw [hW1]; exact cell_clone w zs len j hj (by omega)
  have k0 := hcc 0 (by omega)
  have k1 := hcc 1 (by omega)
  have k2 := hcc 2 (by omega)
  have k3 := hcc 3 (by omega)
  rw [← e0] at k0
  rw [← e1] at k1
  rw [← e2] at k2
  rw [← e3] at k3
  have hb : Below w.heap.size w W1 := by rw [hW1]; exact (Below.refl _ _).alloc (Nat.le_refl _) _
  have hh := zzhex4_of _ _ _ _ (hex4_ok w.heap.size 0 len len (fun i => zs.getD i 0) W1 h4 (Nat.le_refl _) (by unfold maxLen; omega) (fun i hi => by rw [Nat.zero_add]; exact hcc i (by omega)) hgood)
  have g0 : 0 ≤ hx y0 := by rw [e0]; exact hgood 0 (by omega)
  have g1 : 0 ≤ hx y1 := by rw [e1]; exact hgood 1 (by omega)
  have g2 : 0 ≤ hx y2 := by rw [e2]; exact hgood 2 (by omega)
  have g3 : 0 ≤ hx y3 := by rw [e3]; exact hgood 3 (by omega)
  have hval : hv (fun i => zs.getD i 0) 4 = ((hx y0 * 16 + hx y1) * 16 + hx y2) * 16 + hx y3 := by simp only [hv, e0, e1, e2, e3]; omega
  rw [hval] at hh
  have t0 := hx_hi y0
  have t1 := hx_hi y1
  have t2 := hx_hi y2
  have t3 := hx_hi y3
  have d0 := dg_hx y0 g0
  have d1 := dg_hx y1 g1
  have d2 := dg_hx y2 g2
  have d3 := dg_hx y3 g3
  have c0 := hex_any y0 b0.1 b0.2 W1
  have c1 := hex_any y1 b1.1 b1.2 W1
  have c2 := hex_any y2 b2.1 b2.2 W1
  have c3 := hex_any y3 b3.1 b3.2 W1
  rw [isHex_true g0] at c0
  rw [isHex_true g1] at c1
  rw [isHex_true g2] at c2
  rw [isHex_true g3] at c3
  obtain ⟨n0, h0⟩ : ∃ n, n = hx y0 := ⟨_, rfl⟩
  obtain ⟨n1, h1⟩ : ∃ n, n = hx y1 := ⟨_, rfl⟩
  obtain ⟨n2, h2⟩ : ∃ n, n = hx y2 := ⟨_, rfl⟩
  obtain ⟨n3, h3⟩ : ∃ n, n = hx y3 := ⟨_, rfl⟩
  rw [← h0] at g0 t0 d0
  rw [← h1] at g1 t1 d1
  rw [← h2] at g2 t2 d2
  rw [← h3] at g3 t3 d3
  rw [← h0, ← h1, ← h2, ← h3] at hh
  obtain ⟨R, hR⟩ : ∃ R, R = ((n0 * 16 + n1) * 16 + n2) * 16 + n3 := ⟨_, rfl⟩
  rw [← hR] at hh
  have C0 : Hid (Calls Try.prog 11 #[.int .u8 y0] W1 fun e w' => e = .returned (.bool true) ∧ w' = W1) := c0
  have C1 : Hid (Calls Try.prog 11 #[.int .u8 y1] W1 fun e w' => e = .returned (.bool true) ∧ w' = W1) := c1
  have C2 : Hid (Calls Try.prog 11 #[.int .u8 y2] W1 fun e w' => e = .returned (.bool true) ∧ w' = W1) := c2
  have C3 : Hid (Calls Try.prog 11 #[.int .u8 y3] W1 fun e w' => e = .returned (.bool true) ∧ w' = W1) := c3
  have HH : Hid (Calls Try.prog 10 #[.slice (some ⟨w.heap.size, 0, none⟩) len len] W1 fun e w' => e = .returned (.tuple #[.int .i32 R, .bool true]) ∧ w' = W1) := hh
  have HC : Hid (Calls Try.prog 9 #[.slice (some x) len cap] w fun e w' => e = .returned (.slice (some ⟨w.heap.size, 0, none⟩) len len) ∧ w' = W1) := hcl
  have HB : Hid (Below w.heap.size w W1) := hb
  have HR : Hid (R = ((n0 * 16 + n1) * 16 + n2) * 16 + n3) := hR
  have D : Hid (dg n0 = lowerI y0 ∧ dg n1 = lowerI y1 ∧ dg n2 = lowerI y2 ∧ dg n3 = lowerI y3) := ⟨d0, d1, d2, d3⟩
  have r0 : 0 ≤ R := by omega
  have r1 : R ≤ 65535 := by omega
  clear hh hcl hb hcc hW1 hgood e0 e1 e2 e3 hw hz CL hR c0 c1 c2 c3 h0 h1 h2 h3 d0 d1 d2 d3 hval
  go_enter Try.func3, Try.ntmps3
  go_wp2_with (first | (go_at_call 8; refine (bytes8_ok _ len cap _ (by omega)).mono ?_; rintro e w' ⟨rfl, hw'⟩; replace hw' := hw'.symm; subst hw') | (go_at_call 9; refine HC.out.mono ?_; rintro e w' ⟨rfl, hw'⟩; replace hw' := hw'.symm; subst hw') | (go_at_call 10; refine HH.out.mono ?_; rintro e w' ⟨rfl, hw'⟩; replace hw' := hw'.symm; subst hw') | (go_at_call_of 11 (Value.int IntKind.u8 y0); refine C0.out.mono ?_; rintro e w' ⟨rfl, hw'⟩; replace hw' := hw'.symm; subst hw') | (go_at_call_of 11 (Value.int IntKind.u8 y1); refine C1.out.mono ?_; rintro e w' ⟨rfl, hw'⟩; replace hw' := hw'.symm; subst hw') | (go_at_call_of 11 (Value.int IntKind.u8 y2); refine C2.out.mono ?_; rintro e w' ⟨rfl, hw'⟩; replace hw' := hw'.symm; subst hw') | (go_at_call_of 11 (Value.int IntKind.u8 y3); refine C3.out.mono ?_; rintro e w' ⟨rfl, hw'⟩; replace hw' := hw'.symm; subst hw'))
  go_loopw [6, 7] (fun v i wr => ∃ (V I : Int) (q : Nat), v = .int .i64 V ∧ i = .int .i64 I ∧ wr = W1.drewN q ∧ ((I = 3 ∧ V = R) ∨ (I = 2 ∧ V = R / 16) ∨ (I = 1 ∧ V = R / 256) ∨ (I = 0 ∧ V = R / 4096) ∨ I = -1)) (fun _ i _ => (intOf i + 1).toNat)
  case atStart => exact ⟨R, 3, 0, rfl, rfl, rfl, .inl ⟨rfl, rfl⟩⟩
  case round =>
    obtain ⟨V, I, q, rfl, rfl, hwr, hh⟩ := hrel
    clear C0 C1 C2 C3 HH HC
    have HW : Hid (wr = W1.drewN q) := hwr
    have k0' : wr.cell? ⟨w.heap.size, 0, none⟩ = some (.int .u8 y0) := by rw [hwr]; exact k0
    have k1' : wr.cell? ⟨w.heap.size, 1, none⟩ = some (.int .u8 y1) := by rw [hwr]; exact k1
    have k2' : wr.cell? ⟨w.heap.size, 2, none⟩ = some (.int .u8 y2) := by rw [hwr]; exact k2
    have k3' : wr.cell? ⟨w.heap.size, 3, none⟩ = some (.int .u8 y3) := by rw [hwr]; exact k3
    clear hwr k0 k1 k2 k3
    have step : ∀ (n y : Int), 0 ≤ n → n ≤ 15 → dg n = lowerI y → ∀ w, (Instr.index 9 (.string (ByteArray.mk #[48, 49, 50, 51, 52, 53, 54, 55, 56, 57, 97, 98, 99, 100, 101, 102])) (.int .i64 n)).run Try.prog w = .ok (.int .u8 (lowerI y)) w := by
      intro n y h0 h1 h2 w
      rw [← h2]
      exact dg_index64 n h0 (by omega) w
    have ST : Hid (∀ (n y : Int), 0 ≤ n → n ≤ 15 → dg n = lowerI y → ∀ w, (Instr.index 9 (.string (ByteArray.mk #[48, 49, 50, 51, 52, 53, 54, 55, 56, 57, 97, 98, 99, 100, 101, 102])) (.int .i64 n)).run Try.prog w = .ok (.int .u8 (lowerI y)) w) := step
    clear step
    rcases hh with ⟨rfl, hV⟩ | ⟨rfl, hV⟩ | ⟨rfl, hV⟩ | ⟨rfl, hV⟩ | rfl
    · have ha : bits .and .i64 V 15 = n3 := by rw [i64_and15 V (by omega) (by omega)]; have := HR.out; omega
      have hx := ST.out n3 y3 g3 t3 D.out.2.2.2
      have V0 : 0 ≤ V := by omega
      have V1 : V ≤ 65535 := by omega
      have HV : Hid (V = R) := hV
      clear hV k0' k1' k2' b0 b1 b2
      go_wp2_with fail
      go_quiet ((go_at_call 12; exact Calls.quiet_of_same (lower_any y3 b3.1 b3.2 _)))
      go_wp2
      go_roundw
      case rel => exact ⟨V / 16, 2, q + nq, rfl, rfl, by rw [HW.out]; simp, .inr (.inl ⟨rfl, by have := HV.out; omega⟩)⟩
      case measure => simp [intOf]
    · have ha : bits .and .i64 V 15 = n2 := by rw [i64_and15 V (by omega) (by omega)]; have := HR.out; omega
      have hx := ST.out n2 y2 g2 t2 D.out.2.2.1
      have V0 : 0 ≤ V := by omega
      have V1 : V ≤ 65535 := by omega
      have HV : Hid (V = R / 16) := hV
      clear hV k0' k1' k3' b0 b1 b3
      go_wp2_with fail
      go_quiet ((go_at_call 12; exact Calls.quiet_of_same (lower_any y2 b2.1 b2.2 _)))
      go_wp2
      go_roundw
      case rel => exact ⟨V / 16, 1, q + nq, rfl, rfl, by rw [HW.out]; simp, .inr (.inr (.inl ⟨rfl, by have := HV.out; omega⟩))⟩
      case measure => simp [intOf]
    · have ha : bits .and .i64 V 15 = n1 := by rw [i64_and15 V (by omega) (by omega)]; have := HR.out; omega
      have hx := ST.out n1 y1 g1 t1 D.out.2.1
      have V0 : 0 ≤ V := by omega
      have V1 : V ≤ 65535 := by omega
      have HV : Hid (V = R / 256) := hV
      clear hV k0' k2' k3' b0 b2 b3
      go_wp2_with fail
      go_quiet ((go_at_call 12; exact Calls.quiet_of_same (lower_any y1 b1.1 b1.2 _)))
      go_wp2
      go_roundw
      case rel => exact ⟨V / 16, 0, q + nq, rfl, rfl, by rw [HW.out]; simp, .inr (.inr (.inr (.inl ⟨rfl, by have := HV.out; omega⟩)))⟩
      case measure => simp [intOf]
    · have ha : bits .and .i64 V 15 = n0 := by rw [i64_and15 V (by omega) (by omega)]; have := HR.out; omega
      have hx := ST.out n0 y0 g0 t0 D.out.1
      have V0 : 0 ≤ V := by omega
      have V1 : V ≤ 65535 := by omega
      have HV : Hid (V = R / 4096) := hV
      clear hV k1' k2' k3' b1 b2 b3
      go_wp2_with fail
      go_quiet ((go_at_call 12; exact Calls.quiet_of_same (lower_any y0 b0.1 b0.2 _)))
      go_wp2
      go_roundw
      case rel => exact ⟨V / 16, -1, q + nq, rfl, rfl, by rw [HW.out]; simp, .inr (.inr (.inr (.inr rfl)))⟩
      case measure => simp [intOf]
    · clear ST k0' k1' k2' k3'
      go_wp2
      go_ret
      exact ⟨rfl, by rw [HW.out]; exact below_drewN HB.out _⟩

theorem modelWalk (a0 : Option Addr) (len0 cap0 : Nat) (z0 : List Int) (w : World) (w0 : IsRow .u8 w a0 len0 cap0 z0) :
    Calls Try.prog 3 #[.slice a0 len0 cap0] w fun e w' => e = .returned (.bool true) ∧ Below w.heap.size w w' := by
  rcases w0 with ⟨rfl, rfl, rfl, rfl⟩ | ⟨x, rfl, hl, hm, hz, hc, hw⟩
  · exact model_nil w
  · by_cases h1 : 1048576 < len0
    · exact model_big _ _ _ w h1 (by unfold maxLen at hm; omega)
    · by_cases h4 : len0 < 4
      · exact model_short x len0 cap0 z0 w hl h4 hz hc
      · by_cases hg : ∃ i, i < 4 ∧ hx (z0.getD i 0) = -1
        · exact model_bad x len0 cap0 z0 w hl (by omega) (by omega) hz hc hw hg
        · refine model_ok x len0 cap0 z0 w hl (by omega) (by omega) hz hc hw (fun i hi => ?_)
          rcases hx_ge (z0.getD i 0) with h | h
          · exact absurd ⟨i, hi, h⟩ hg
          · exact h
end Go.Proofs.Qxb6000049a
