import Derived.Test.Qxb6600348aRows
import Derived.WalkKit
import Derived.WalkSpells
import Derived.WalkSmall
import Derived.OpenShut
import Derived.Deep.OwnRows
import Derived.Laws.CopyOwn
namespace Go.Proofs.Qxb6600348a
open Go.RowKit

def isDig (z : Int) : Prop := 48 ≤ z ∧ z ≤ 57

/-- The number that k digits from place i on write. -/
def val (z : Nat → Int) (i : Nat) : Nat → Int
  | 0 => 0
  | k + 1 => val z i k * 10 + (z (i + k) - 48)

theorem val_bd (z : Nat → Int) (i : Nat) : ∀ k, (∀ j, j < k → isDig (z (i + j))) → 0 ≤ val z i k ∧ val z i k < (10 ^ k : Nat) := by
  intro k
  induction k with
  | zero => intro _; simp [val]
  | succ k ih =>
    intro h
    have h1 := ih (fun j hj => h j (by omega))
    have h2 := h k (by omega)
    unfold isDig at h2
    rw [val, Nat.pow_succ]
    omega

theorem val_head (z : Nat → Int) : ∀ k i, val z i (k + 1) = (z i - 48) * (10 ^ k : Nat) + val z (i + 1) k := by
  intro k
  induction k with
  | zero => intro i; simp [val]
  | succ k ih =>
    intro i
    have e : i + (k + 1) = i + 1 + k := by omega
    rw [val, ih i, e, val, Nat.pow_succ]
    generalize val z (i + 1) k = v
    generalize z (i + 1 + k) = u
    have : ((10 ^ k * 10 : Nat) : Int) = ((10 ^ k : Nat) : Int) * 10 := by omega
    rw [this, ← Int.mul_assoc]
    generalize (z i - 48) * ((10 ^ k : Nat) : Int) = m
    omega

/-- How far the digits go. -/
theorem run_exists (z : Nat → Int) (len : Nat) : ∀ m i, i + m = len → ∃ r, i + r ≤ len ∧ (∀ j, j < r → isDig (z (i + j))) ∧ (i + r < len → ¬ isDig (z (i + r))) := by
  intro m
  induction m with
  | zero => intro i h; exact ⟨0, by omega, by omega, by omega⟩
  | succ m ih =>
    intro i h
    by_cases hd : isDig (z i)
    · obtain ⟨r, h1, h2, h3⟩ := ih (i + 1) (by omega)
      refine ⟨r + 1, by omega, fun j hj => ?_, fun hlt => ?_⟩
      · cases j with
        | zero => exact hd
        | succ j => have := h2 j (by omega); rwa [show i + (j + 1) = i + 1 + j from by omega]
      · rw [show i + (r + 1) = i + 1 + r from by omega]; exact h3 (by omega)
    · exact ⟨0, by omega, by omega, fun _ => hd⟩

theorem pow_le (k : Nat) (h : k ≤ 9) : 10 ^ k ≤ 1000000000 := Nat.pow_le_pow_right (by omega) h

theorem ret_tup {a b c d : Int} (h1 : a = c) (h2 : b = d) : Ending.returned (.tuple #[.int .i64 a, .int .i64 b]) = .returned (.tuple #[.int .i64 c, .int .i64 d]) := by rw [h1, h2]

theorem isDigit_any (c : Int) (w : World) (r : Bool) (h : r = decide (48 ≤ c ∧ c ≤ 57)) :
    Calls Try.prog 9 #[.int .u8 c] w fun e w' => e = .returned (.bool r) ∧ w' = w := by
  by_cases h1 : 48 ≤ c
  · by_cases h2 : c ≤ 57
    · obtain rfl : r = true := by rw [h]; simp [h1, h2]
      clear h
      go_enter Try.func9, Try.ntmps9
      go_wp2
      go_ret
      exact ⟨rfl, rfl⟩
    · obtain rfl : r = false := by rw [h]; simp [h2]
      clear h
      go_enter Try.func9, Try.ntmps9
      go_wp2
      go_ret
      exact ⟨rfl, rfl⟩
  · obtain rfl : r = false := by rw [h]; simp [h1]
    clear h
    go_enter Try.func9, Try.ntmps9
    go_wp2
    go_ret
    exact ⟨rfl, rfl⟩

/-- Beyond the end: nothing is read. -/
theorem scan_past (a : Option Addr) (len cap : Nat) (i : Int) (w : World) (h : (len : Int) ≤ i) :
    Calls Try.prog 8 #[.slice a len cap, .int .i64 i] w fun e w' => e = .returned (.tuple #[.int .i64 0, .int .i64 i]) ∧ w' = w := by
  go_enter Try.func8, Try.ntmps8
  go_wp2
  refine wp_loop_rounds 1 ?_
  rw [rounds_succ]
  go_wp2
  go_ret2
  exact ⟨rfl, rfl⟩

theorem model_past (a : Option Addr) (len cap : Nat) (i : Int) (w : World) (h : (len : Int) ≤ i) :
    Calls Try.prog 7 #[.slice a len cap, .int .i64 i] w fun e w' => e = .returned (.tuple #[.int .i64 0, .int .i64 i]) ∧ w' = w := by
  go_enter Try.func7, Try.ntmps7
  go_wp2
  go_ret2
  exact ⟨rfl, rfl⟩

set_option maxHeartbeats 400000 in
theorem scan_any (b len cap i r : Nat) (z : Nat → Int) (w : World) (hil : i < len) (hl : len ≤ 1048576) (hz : ∀ j, j < len → 0 ≤ z j ∧ z j ≤ 255) (hc : ∀ j, j < len → w.cell? ⟨b, j, none⟩ = some (.int .u8 (z j)))
    (h1 : i + r ≤ len) (h2 : ∀ j, j < r → isDig (z (i + j))) (h3 : i + r < len → ¬ isDig (z (i + r))) (v e' : Int) (hv : (r ≤ 9 ∧ v = val z i r ∧ e' = ((i + r : Nat) : Int)) ∨ (9 < r ∧ v = 0 ∧ e' = i)) :
    Calls Try.prog 8 #[.slice (some ⟨b, 0, none⟩) len cap, .int .i64 (i : Int)] w fun e w' => e = .returned (.tuple #[.int .i64 v, .int .i64 e']) ∧ w' = w := by
  have HC : Hid (∀ j, j < len → w.cell? ⟨b, j, none⟩ = some (.int .u8 (z j))) := hc
  have HZ : Hid (∀ j, j < len → 0 ≤ z j ∧ z j ≤ 255) := hz
  have H2 : Hid (∀ j, j < r → isDig (z (i + j))) := h2
  have H3 : Hid (i + r < len → ¬ isDig (z (i + r))) := h3
  have HV : Hid ((r ≤ 9 ∧ v = val z i r ∧ e' = ((i + r : Nat) : Int)) ∨ (9 < r ∧ v = 0 ∧ e' = i)) := hv
  clear hc hz h2 h3 hv
  go_enter Try.func8, Try.ntmps8
  go_wp2
  go_loop [6, 7] (fun x y => ∃ k : Nat, k ≤ r ∧ k ≤ 9 ∧ x = .int .i64 (val z i k) ∧ y = .int .i64 ((i + k : Nat) : Int)) (fun _ y => len - (intOf y).toNat)
  case atStart => exact ⟨0, by omega, by omega, rfl, by simp⟩
  case round =>
    obtain ⟨k, hkr, hk9, rfl, rfl⟩ := hrel
    have hb := val_bd z i k (fun j hj => H2.out j (by omega))
    have hp := pow_le k hk9
    have hb1 := hb.1
    have hb2 : val z i k < 1000000000 := by omega
    obtain ⟨V, hV⟩ : ∃ V, V = val z i k := ⟨_, rfl⟩
    rw [← hV] at hb1 hb2 ⊢
    have HVV : Hid (V = val z i k) := hV
    clear hb hp hV
    by_cases hk : k < r
    · have hc := HC.out (i + k) (by omega)
      have hd := H2.out k hk
      unfold isDig at hd
      obtain ⟨u, hu⟩ : ∃ u, u = z (i + k) := ⟨_, rfl⟩
      rw [← hu] at hc hd
      have HU : Hid (u = z (i + k)) := hu
      obtain ⟨d1, d2⟩ := hd
      clear hu
      by_cases h9 : k = 9
      · subst h9
        go_wp2
        go_ret2
        have HW : v = 0 ∧ e' = i := by
          rcases HV.out with ⟨q, _⟩ | ⟨_, q2, q3⟩
          · omega
          · exact ⟨q2, q3⟩
        exact ⟨ret_tup HW.1.symm HW.2.symm, rfl⟩
      · have h9' : k < 9 := by omega
        go_wp2
        go_round
        case rel =>
          have e : val z i (k + 1) = V * 10 + (u - 48) := by rw [val, ← HVV.out, ← HU.out]
          exact ⟨k + 1, by omega, by omega, by rw [e], by go_num⟩
        case measure => simp [intOf]; omega
    · obtain rfl : k = r := by omega
      have HE : Hid (v = V ∧ e' = ((i + k : Nat) : Int)) := by
        rcases HV.out with ⟨_, q2, q3⟩ | ⟨q, _⟩
        · exact ⟨by rw [q2, HVV.out], q3⟩
        · omega
      by_cases hend : i + k < len
      · have hc := HC.out (i + k) hend
        have hnd := H3.out hend
        have hz := HZ.out (i + k) hend
        unfold isDig at hnd
        obtain ⟨u, hu⟩ : ∃ u, u = z (i + k) := ⟨_, rfl⟩
        rw [← hu] at hc hnd hz
        clear hu
        rcases (show u < 48 ∨ 57 < u from by omega) with hu | hu
        all_goals
          clear hnd
          go_wp2
          go_ret2
          exact ⟨ret_tup HE.out.1.symm (by rw [HE.out.2]; omega), rfl⟩
      · go_wp2
        go_ret2
        exact ⟨ret_tup HE.out.1.symm (by rw [HE.out.2]; omega), rfl⟩

/-- The model's first loop, at its head. -/
def At1 (i r : Nat) (y : Value) : Prop := ∃ k : Nat, k ≤ r ∧ y = .int .i64 ((i + k : Nat) : Int)
/-- The model's second loop, at its head: t digits are added up. -/
def At2 (z : Nat → Int) (i k : Nat) (v p q : Value) : Prop := ∃ t : Nat, t ≤ k ∧ v = .int .i64 (val z (i + k - t) t) ∧ p = .int .i64 ((10 ^ t : Nat) : Int) ∧ q = .int .i64 ((i : Int) + k - 1 - t)

set_option maxHeartbeats 400000 in
theorem model_any (b len cap i r : Nat) (z : Nat → Int) (w : World) (hil : i < len) (hl : len ≤ 1048576) (hz : ∀ j, j < len → 0 ≤ z j ∧ z j ≤ 255) (hc : ∀ j, j < len → w.cell? ⟨b, j, none⟩ = some (.int .u8 (z j)))
    (h1 : i + r ≤ len) (h2 : ∀ j, j < r → isDig (z (i + j))) (h3 : i + r < len → ¬ isDig (z (i + r))) (v e' : Int) (hv : (r ≤ 9 ∧ v = val z i r ∧ e' = ((i + r : Nat) : Int)) ∨ (9 < r ∧ v = 0 ∧ e' = i)) :
    Calls Try.prog 7 #[.slice (some ⟨b, 0, none⟩) len cap, .int .i64 (i : Int)] w fun e w' => e = .returned (.tuple #[.int .i64 v, .int .i64 e']) ∧ w' = w := by
  have HC : Hid (∀ j, j < len → w.cell? ⟨b, j, none⟩ = some (.int .u8 (z j))) := hc
  have HZ : Hid (∀ j, j < len → 0 ≤ z j ∧ z j ≤ 255) := hz
  have H2 : Hid (∀ j, j < r → isDig (z (i + j))) := h2
  have H3 : Hid (i + r < len → ¬ isDig (z (i + r))) := h3
  have HV : Hid ((r ≤ 9 ∧ v = val z i r ∧ e' = ((i + r : Nat) : Int)) ∨ (9 < r ∧ v = 0 ∧ e' = i)) := hv
  clear hc hz h2 h3 hv
  have hd1 : decide ((len : Int) ≤ (i : Int)) = false := by simp; omega
  have hd2 : decide (len ≤ i) = false := by simp; omega
  go_enter Try.func7, Try.ntmps7
  go_wp2
  go_loop [6] (fun y => At1 i r y) (fun y => len - (intOf y).toNat)
  case atStart => exact ⟨0, by omega, by simp⟩
  case round =>
    obtain ⟨k, hkr, rfl⟩ := hrel
    by_cases hk : k < r
    · have hc := HC.out (i + k) (by omega)
      have hd := H2.out k hk
      have hz := HZ.out (i + k) (by omega)
      unfold isDig at hd
      obtain ⟨u, hu⟩ : ∃ u, u = z (i + k) := ⟨_, rfl⟩
      rw [← hu] at hc hd hz
      have HD : Hid (Calls Try.prog 9 #[.int .u8 u] w fun e w' => e = .returned (.bool true) ∧ w' = w) := isDigit_any u w true (by simp [hd])
      clear hu hd
      go_wp2_with (go_at_call 9; refine HD.out.mono ?_; rintro e w' ⟨rfl, hw'⟩; replace hw' := hw'.symm; subst hw')
      go_round
      case rel => exact ⟨k + 1, by omega, by go_num⟩
      case measure => simp [intOf]; omega
    · obtain rfl : k = r := by omega
      have fin : ∀ (t : Bool), (t = true → False) → True := fun _ _ => trivial
      clear fin
      by_cases h9 : 9 < k
      · have HE : Hid (v = 0 ∧ e' = i) := by
          rcases HV.out with ⟨q, _⟩ | ⟨_, q2, q3⟩
          · omega
          · exact ⟨q2, q3⟩
        by_cases hend : i + k < len
        · have hc := HC.out (i + k) hend
          have hnd := H3.out hend
          have hz := HZ.out (i + k) hend
          unfold isDig at hnd
          obtain ⟨u, hu⟩ : ∃ u, u = z (i + k) := ⟨_, rfl⟩
          rw [← hu] at hc hnd hz
          have HD : Hid (Calls Try.prog 9 #[.int .u8 u] w fun e w' => e = .returned (.bool false) ∧ w' = w) := isDigit_any u w false (by simp; omega)
          clear hu hnd
          go_wp2_with (go_at_call 9; refine HD.out.mono ?_; rintro e w' ⟨rfl, hw'⟩; replace hw' := hw'.symm; subst hw')
          go_ret2
          exact ⟨ret_tup HE.out.1.symm HE.out.2.symm, rfl⟩
        · go_wp2
          go_ret2
          exact ⟨ret_tup HE.out.1.symm HE.out.2.symm, rfl⟩
      · have HE : Hid (v = val z i k ∧ e' = ((i + k : Nat) : Int)) := by
          rcases HV.out with ⟨_, q2, q3⟩ | ⟨q, _⟩
          · exact ⟨q2, q3⟩
          · omega
        have rest : ∀ t : Nat, t ≤ k → 0 ≤ val z (i + k - t) t ∧ val z (i + k - t) t < 1000000000 ∧ 10 ^ t ≤ 1000000000 := by
          intro t ht
          have hb := val_bd z (i + k - t) t (fun j hj => by have := H2.out (k - t + j) (by omega); rwa [show i + (k - t + j) = i + k - t + j from by omega] at this)
          have hp := pow_le t (by omega)
          omega
        have HREST : Hid (∀ t : Nat, t ≤ k → 0 ≤ val z (i + k - t) t ∧ val z (i + k - t) t < 1000000000 ∧ 10 ^ t ≤ 1000000000) := rest
        clear rest
        have hstep : ∀ t : Nat, t < k → val z (i + k - (t + 1)) (t + 1) = val z (i + k - t) t + (z (i + k - (t + 1)) - 48) * ((10 ^ t : Nat) : Int) := by
          intro t ht
          rw [val_head, show i + k - (t + 1) + 1 = i + k - t from by omega]
          omega
        have HSTEP : Hid (∀ t : Nat, t < k → val z (i + k - (t + 1)) (t + 1) = val z (i + k - t) t + (z (i + k - (t + 1)) - 48) * ((10 ^ t : Nat) : Int)) := hstep
        clear hstep
        by_cases hend : i + k < len
        · have hc := HC.out (i + k) hend
          have hnd := H3.out hend
          have hz := HZ.out (i + k) hend
          unfold isDig at hnd
          obtain ⟨u, hu⟩ : ∃ u, u = z (i + k) := ⟨_, rfl⟩
          rw [← hu] at hc hnd hz
          have HD : Hid (Calls Try.prog 9 #[.int .u8 u] w fun e w' => e = .returned (.bool false) ∧ w' = w) := isDigit_any u w false (by simp; omega)
          clear hu hnd
          go_wp2_with (go_at_call 9; refine HD.out.mono ?_; rintro e w' ⟨rfl, hw'⟩; replace hw' := hw'.symm; subst hw')
          go_loop [7, 8, 9] (fun v p q => At2 z i k v p q) (fun _ _ q => (intOf q + 1 - i).toNat)
          case atStart => exact ⟨0, by omega, rfl, rfl, by go_num⟩
          case round =>
            obtain ⟨t, ht, rfl, rfl, rfl⟩ := hrel
            by_cases htk : t < k
            · have hb := HREST.out t ht
              have hb' := HREST.out (t + 1) (by omega)
              have hs := HSTEP.out t htk
              have hc := HC.out (i + k - (t + 1)) (by omega)
              have hd := H2.out (k - (t + 1)) (by omega)
              rw [show i + (k - (t + 1)) = i + k - (t + 1) from by omega] at hd
              unfold isDig at hd
              obtain ⟨u, hu⟩ : ∃ u, u = z (i + k - (t + 1)) := ⟨_, rfl⟩
              obtain ⟨V, hV⟩ : ∃ V, V = val z (i + k - t) t := ⟨_, rfl⟩
              obtain ⟨V', hV'⟩ : ∃ V', V' = val z (i + k - (t + 1)) (t + 1) := ⟨_, rfl⟩
              obtain ⟨T, hT⟩ : ∃ T : Int, T = ((10 ^ t : Nat) : Int) := ⟨_, rfl⟩
              rw [← hu] at hc hd
              rw [← hV, ← hu, ← hV', ← hT] at hs
              rw [← hV] at hb
              rw [← hV'] at hb'
              have T1 : 1 ≤ T := by rw [hT]; have := Nat.pow_pos (n := t) (show 0 < 10 from by omega); omega
              have T2 : T ≤ 1000000000 := by rw [hT]; omega
              have hm1 : 0 ≤ (u - 48) * T := Int.mul_nonneg (by omega) (by omega)
              have hm2 : (u - 48) * T ≤ 1000000000 := by omega
              have hck : w.cell? ⟨b, i + k - 1 - t, none⟩ = some (.int .u8 u) := by rw [show i + k - 1 - t = i + k - (t + 1) from by omega]; exact hc
              obtain ⟨b1, b2, b3⟩ := hb
              obtain ⟨d1, d2⟩ := hd
              rw [← hV, ← hT]
              have HS : Hid (V' = V + (u - 48) * T) := hs
              have HT : Hid (T = ((10 ^ t : Nat) : Int)) := hT
              have HV' : Hid (V' = val z (i + k - (t + 1)) (t + 1)) := hV'
              clear hu hV hV' hT hs hc hb' HREST HSTEP HE HC HZ H2 H3 HV
              go_wp2
              go_round
              case rel =>
                refine ⟨t + 1, by omega, by rw [← HV'.out, HS.out], ?_, by go_num⟩
                rw [Nat.pow_succ, HT.out]
                go_num
              case measure => simp [intOf]; omega
            · obtain rfl : t = k := by omega
              go_wp2
              go_ret2
              exact ⟨ret_tup HE.out.1.symm (by rw [HE.out.2]; omega), rfl⟩
        · go_wp2
          go_loop [7, 8, 9] (fun v p q => At2 z i k v p q) (fun _ _ q => (intOf q + 1 - i).toNat)
          case atStart => exact ⟨0, by omega, rfl, rfl, by go_num⟩
          case round =>
            obtain ⟨t, ht, rfl, rfl, rfl⟩ := hrel
            by_cases htk : t < k
            · have hb := HREST.out t ht
              have hb' := HREST.out (t + 1) (by omega)
              have hs := HSTEP.out t htk
              have hc := HC.out (i + k - (t + 1)) (by omega)
              have hd := H2.out (k - (t + 1)) (by omega)
              rw [show i + (k - (t + 1)) = i + k - (t + 1) from by omega] at hd
              unfold isDig at hd
              obtain ⟨u, hu⟩ : ∃ u, u = z (i + k - (t + 1)) := ⟨_, rfl⟩
              obtain ⟨V, hV⟩ : ∃ V, V = val z (i + k - t) t := ⟨_, rfl⟩
              obtain ⟨V', hV'⟩ : ∃ V', V' = val z (i + k - (t + 1)) (t + 1) := ⟨_, rfl⟩
              obtain ⟨T, hT⟩ : ∃ T : Int, T = ((10 ^ t : Nat) : Int) := ⟨_, rfl⟩
              rw [← hu] at hc hd
              rw [← hV, ← hu, ← hV', ← hT] at hs
              rw [← hV] at hb
              rw [← hV'] at hb'
              have T1 : 1 ≤ T := by rw [hT]; have := Nat.pow_pos (n := t) (show 0 < 10 from by omega); omega
              have T2 : T ≤ 1000000000 := by rw [hT]; omega
              have hm1 : 0 ≤ (u - 48) * T := Int.mul_nonneg (by omega) (by omega)
              have hm2 : (u - 48) * T ≤ 1000000000 := by omega
              have hck : w.cell? ⟨b, i + k - 1 - t, none⟩ = some (.int .u8 u) := by rw [show i + k - 1 - t = i + k - (t + 1) from by omega]; exact hc
              obtain ⟨b1, b2, b3⟩ := hb
              obtain ⟨d1, d2⟩ := hd
              rw [← hV, ← hT]
              have HS : Hid (V' = V + (u - 48) * T) := hs
              have HT : Hid (T = ((10 ^ t : Nat) : Int)) := hT
              have HV' : Hid (V' = val z (i + k - (t + 1)) (t + 1)) := hV'
              clear hu hV hV' hT hs hc hb' HREST HSTEP HE HC HZ H2 H3 HV
              go_wp2
              go_round
              case rel =>
                refine ⟨t + 1, by omega, by rw [← HV'.out, HS.out], ?_, by go_num⟩
                rw [Nat.pow_succ, HT.out]
                go_num
              case measure => simp [intOf]; omega
            · obtain rfl : t = k := by omega
              go_wp2
              go_ret2
              exact ⟨ret_tup HE.out.1.symm (by rw [HE.out.2]; omega), rfl⟩

theorem info5 : (Try.prog.info? 5).map (fun i => (i.zero, i.size, i.bytes)) = some (some (.int .u8 0), 1, 1) := by kernel_rfl
theorem size5 : (Try.prog.info? 5).map (·.size) = some 1 := by kernel_rfl

theorem clone_nil (w : World) : Calls Try.prog 5 #[.slice none 0 0] w fun e w' => e = .returned (.slice none 0 0) ∧ w' = w := by
  have hq := fun w => Lib.run_eql_slice_nil (P := Try.prog) w 22 5 none 0 0 0 0 Try.underlying22
  go_enter Try.func5, Try.ntmps5
  go_wp2
  go_ret
  exact ⟨rfl, rfl⟩

/-- What zzb1Clone leaves of a slice that is not nil. -/
def Cloned (w : World) (zs : List Int) (len : Nat) (e : Ending) (w' : World) : Prop :=
  e = .returned (.slice (some ⟨w.heap.size, 0, none⟩) len len) ∧ Below w.heap.size w w' ∧ ∀ j, j < len → w'.cell? ⟨w.heap.size, j, none⟩ = some (.int .u8 (zs.getD j 0))

set_option maxHeartbeats 400000 in
theorem clone_some (x : Addr) (len cap : Nat) (zs : List Int) (w : World) (hl : len ≤ cap) (hlen : len ≤ 1048576) (hz : zs.length = cap) (hc : ∀ i, i < zs.length → w.cell? (x.add i) = some (.int .u8 (zs.getD i 0))) :
    Calls Try.prog 5 #[.slice (some x) len cap] w (Cloned w zs len) := by
  have hq := fun w => Lib.run_eql_slice_nil (P := Try.prog) w 22 5 (some x) len cap 0 0 Try.underlying22
  have hmk := fun w => run_make_row' (P := Try.prog) 22 5 (.int .u8 0) 1 Try.underlying22 info5 rfl .i64 .i64 len (by omega) (by omega) w
  have HC : Hid (∀ i, i < zs.length → w.cell? (x.add i) = some (.int .u8 (zs.getD i 0))) := hc
  clear hc
  have hrow : (w.alloc (.cells (madeCells #[.int .u8 0] len) 5)).heap[w.heap.size]? = some (.cells (List.replicate len (Value.int .u8 0)).toArray 5 (0, 0)) := by
    rw [heap_alloc_new]
    congr 2
    apply Array.ext'
    rw [toList_madeCells_one]
  have HRow : Hid ((w.alloc (.cells (madeCells #[.int .u8 0] len) 5)).heap[w.heap.size]? = some (.cells (List.replicate len (Value.int .u8 0)).toArray 5 (0, 0))) := hrow
  clear hrow
  have hsrc : ∀ j v, ((zs.take len).map (Value.int .u8))[j]? = some v → (w.alloc (.cells (madeCells #[.int .u8 0] len) 5)).cell? (x.add j) = some v := by
    intro j v hv
    have hj : j < len := by
      have := (List.getElem?_eq_some_iff.1 hv).1
      simp at this; omega
    have hcj := HC.out j (by omega)
    have hv' : v = .int .u8 (zs.getD j 0) := by
      have h2 : j < zs.length := by omega
      simp [hj, h2] at hv
      rw [← hv]
      simp [List.getD, h2]
    have hb : (x.add j).block < w.heap.size := World.block_lt_of_cell? w _ hcj
    rw [World.cell?_alloc_lt _ _ _ hb, hcj, hv']
  have HSrc : Hid (∀ j v, ((zs.take len).map (Value.int .u8))[j]? = some v → (w.alloc (.cells (madeCells #[.int .u8 0] len) 5)).cell? (x.add j) = some v) := hsrc
  clear hsrc
  have hlen2 : ((zs.take len).map (Value.int .u8)).length = len := by simp; omega
  have HL2 : Hid (((zs.take len).map (Value.int .u8)).length = len) := hlen2
  clear hlen2
  go_enter Try.func5, Try.ntmps5
  go_wp2_with (refine wpList_copy_splice rfl (.tmp 9) (.tmp 10) 22 22 rfl 5 Try.underlying22 size5 (some ⟨w.heap.size, 0, none⟩) (some x) len len len cap rfl rfl w.heap.size 0 (List.replicate len (Value.int .u8 0)) 5 HRow.out ((zs.take len).map (Value.int .u8)) (by rw [HL2.out]; exact (Nat.min_self _).symm) (fun _ => ⟨rfl, x, rfl, HSrc.out⟩) (by rw [HL2.out]; simp) (by intro v hv; obtain ⟨_, _, rfl⟩ := List.mem_map.1 hv; rfl) w.heap.size w ((Below.refl _ _).alloc (Nat.le_refl _) _) (Nat.le_refl _) ?_; intro w2 HG2 hB2)
  go_ret
  refine ⟨rfl, hB2, fun j hj => ?_⟩
  have hg := HG2.out
  rw [World.cell?, hg]
  have h2 : j < zs.length := by omega
  have h3 : (splice (List.replicate len (Value.int .u8 0)) 0 ((zs.take len).map (Value.int .u8)))[j]? = some (.int .u8 (zs.getD j 0)) := by
    simp only [splice, List.take_zero, List.nil_append]
    rw [List.getElem?_append_left (by rw [HL2.out]; exact hj)]
    simp [hj, h2, List.getD]
  simpa using h3

def IsRow (k : IntKind) (w : World) (a : Option Addr) (len cap : Nat) (zs : List Int) : Prop :=
  (a = none ∧ len = 0 ∧ cap = 0 ∧ zs = []) ∨
  ∃ x, a = some x ∧ len ≤ cap ∧ cap ≤ maxLen ∧ zs.length = cap ∧ (∀ i, i < zs.length → w.cell? (x.add i) = some (.int k (zs.getD i 0))) ∧ ∀ n ∈ zs, (Lit.int k n).wf = true

theorem byte_of_wf {zs : List Int} (h : ∀ n ∈ zs, (Lit.int .u8 n).wf = true) (j : Nat) : 0 ≤ zs.getD j 0 ∧ zs.getD j 0 ≤ 255 := by
  by_cases hj : j < zs.length
  · have := bounds_u8 (h zs[j] (List.getElem_mem hj))
    simpa [List.getD, hj] using this
  · simp [List.getD, List.getElem?_eq_none (by omega : zs.length ≤ j)]

theorem bytes_big (a : Option Addr) (len cap : Nat) (i : Int) (w : World) (h : 1048576 < len) (h2 : len ≤ 9223372036854775807) :
    Calls Try.prog 4 #[.slice a len cap, .int .i64 i] w fun e w' => e = .returned (.bool false) ∧ w' = w := by
  go_enter Try.func4, Try.ntmps4
  go_wp2
  go_ret
  exact ⟨rfl, rfl⟩

theorem bytes_ok (a : Option Addr) (len cap : Nat) (i : Int) (w : World) (h : len ≤ 1048576) :
    Calls Try.prog 4 #[.slice a len cap, .int .i64 i] w fun e w' => e = .returned (.bool true) ∧ w' = w := by
  go_enter Try.func4, Try.ntmps4
  go_wp2
  go_ret
  exact ⟨rfl, rfl⟩

/-- ZZScanDigits: scanDigits under another name. -/
theorem zz_of (v : Value) (i : Int) (w : World) (r s : Int)
    (h : Calls Try.prog 8 #[v, .int .i64 i] w fun e w' => e = .returned (.tuple #[.int .i64 r, .int .i64 s]) ∧ w' = w) :
    Calls Try.prog 6 #[v, .int .i64 i] w fun e w' => e = .returned (.tuple #[.int .i64 r, .int .i64 s]) ∧ w' = w := by
  have H : Hid (Calls Try.prog 8 #[v, .int .i64 i] w fun e w' => e = .returned (.tuple #[.int .i64 r, .int .i64 s]) ∧ w' = w) := h
  clear h
  go_enter Try.func6, Try.ntmps6
  go_wp2_with fail
  refine H.out.mono ?_
  rintro e w' ⟨rfl, rfl⟩
  go_wp2
  go_ret2
  exact ⟨rfl, rfl⟩

/-- Both read the same behind the clone: then the law says true. -/
theorem law_same (a : Option Addr) (len cap : Nat) (i : Int) (w w1 : World) (c : Value) (r s : Int) (hlen : len ≤ 1048576) (hi : 0 ≤ i)
    (hc : Calls Try.prog 5 #[.slice a len cap] w fun e w' => e = .returned c ∧ w' = w1) (hb : Below w.heap.size w w1)
    (h6 : Calls Try.prog 6 #[c, .int .i64 i] w1 fun e w' => e = .returned (.tuple #[.int .i64 r, .int .i64 s]) ∧ w' = w1)
    (h7 : Calls Try.prog 7 #[c, .int .i64 i] w1 fun e w' => e = .returned (.tuple #[.int .i64 r, .int .i64 s]) ∧ w' = w1) :
    Calls Try.prog 3 #[.slice a len cap, .int .i64 i] w fun e w' => e = .returned (.bool true) ∧ Below w.heap.size w w' := by
  have HC : Hid (Calls Try.prog 5 #[.slice a len cap] w fun e w' => e = .returned c ∧ w' = w1) := hc
  have HB : Hid (Below w.heap.size w w1) := hb
  have H6 : Hid (Calls Try.prog 6 #[c, .int .i64 i] w1 fun e w' => e = .returned (.tuple #[.int .i64 r, .int .i64 s]) ∧ w' = w1) := h6
  have H7 : Hid (Calls Try.prog 7 #[c, .int .i64 i] w1 fun e w' => e = .returned (.tuple #[.int .i64 r, .int .i64 s]) ∧ w' = w1) := h7
  clear hc hb h6 h7
  go_enter Try.func3, Try.ntmps3
  go_wp2_with (first | (go_at_call 4; refine (bytes_ok _ len cap i _ hlen).mono ?_; rintro e w' ⟨rfl, hw'⟩; replace hw' := hw'.symm; subst hw') | (go_at_call 5; refine HC.out.mono ?_; rintro e w' ⟨rfl, hw'⟩; replace hw' := hw'.symm; subst hw') | (go_at_call 6; refine H6.out.mono ?_; rintro e w' ⟨rfl, hw'⟩; replace hw' := hw'.symm; subst hw') | (go_at_call 7; refine H7.out.mono ?_; rintro e w' ⟨rfl, hw'⟩; replace hw' := hw'.symm; subst hw'))
  go_ret
  exact ⟨by simp, HB.out⟩

theorem law_big (a : Option Addr) (len cap : Nat) (i : Int) (w : World) (h : 1048576 < len) (h2 : len ≤ 9223372036854775807) :
    Calls Try.prog 3 #[.slice a len cap, .int .i64 i] w fun e w' => e = .returned (.bool true) ∧ Below w.heap.size w w' := by
  go_enter Try.func3, Try.ntmps3
  go_wp2_with (go_at_call 4; refine (bytes_big _ len cap i _ h h2).mono ?_; rintro e w' ⟨rfl, rfl⟩)
  go_ret
  exact ⟨rfl, Below.refl _ _⟩

theorem law_neg (a : Option Addr) (len cap : Nat) (i : Int) (w : World) (h : len ≤ 1048576) (hi : i < 0) :
    Calls Try.prog 3 #[.slice a len cap, .int .i64 i] w fun e w' => e = .returned (.bool true) ∧ Below w.heap.size w w' := by
  go_enter Try.func3, Try.ntmps3
  go_wp2_with (go_at_call 4; refine (bytes_ok _ len cap i _ h).mono ?_; rintro e w' ⟨rfl, rfl⟩)
  go_ret
  exact ⟨rfl, Below.refl _ _⟩

/-- A call whose answer and world are known up to a fact, taken apart. -/
theorem law_of (a : Option Addr) (len cap : Nat) (i : Int) (w : World) (P : Value → World → Prop) (hlen : len ≤ 1048576) (hi : 0 ≤ i)
    (hc : Calls Try.prog 5 #[.slice a len cap] w fun e w' => ∃ c, e = .returned c ∧ P c w')
    (hp : ∀ c w1, P c w1 → Below w.heap.size w w1 ∧ ∃ r s : Int, (Calls Try.prog 6 #[c, .int .i64 i] w1 fun e w' => e = .returned (.tuple #[.int .i64 r, .int .i64 s]) ∧ w' = w1) ∧
      (Calls Try.prog 7 #[c, .int .i64 i] w1 fun e w' => e = .returned (.tuple #[.int .i64 r, .int .i64 s]) ∧ w' = w1)) :
    Calls Try.prog 3 #[.slice a len cap, .int .i64 i] w fun e w' => e = .returned (.bool true) ∧ Below w.heap.size w w' := by
  have HC : Hid (Calls Try.prog 5 #[.slice a len cap] w fun e w' => ∃ c, e = .returned c ∧ P c w') := hc
  have HP : Hid (∀ c w1, P c w1 → Below w.heap.size w w1 ∧ ∃ r s : Int, (Calls Try.prog 6 #[c, .int .i64 i] w1 fun e w' => e = .returned (.tuple #[.int .i64 r, .int .i64 s]) ∧ w' = w1) ∧
      (Calls Try.prog 7 #[c, .int .i64 i] w1 fun e w' => e = .returned (.tuple #[.int .i64 r, .int .i64 s]) ∧ w' = w1)) := hp
  clear hc hp
  go_enter Try.func3, Try.ntmps3
  go_wp2_with (go_at_call 4; refine (bytes_ok _ len cap i _ hlen).mono ?_; rintro e w' ⟨rfl, hw'⟩; replace hw' := hw'.symm; subst hw')
  refine HC.out.mono ?_
  rintro e w1 ⟨c, rfl, hpc⟩
  obtain ⟨hb, r, s, h6, h7⟩ := HP.out c w1 hpc
  have HB : Hid (Below w.heap.size w w1) := hb
  have H6 : Hid (Calls Try.prog 6 #[c, .int .i64 i] w1 fun e w' => e = .returned (.tuple #[.int .i64 r, .int .i64 s]) ∧ w' = w1) := h6
  have H7 : Hid (Calls Try.prog 7 #[c, .int .i64 i] w1 fun e w' => e = .returned (.tuple #[.int .i64 r, .int .i64 s]) ∧ w' = w1) := h7
  clear hb h6 h7 hpc HP HC
  go_wp2_with (first | (go_at_call 6; refine H6.out.mono ?_; rintro e w' ⟨rfl, hw'⟩; replace hw' := hw'.symm; subst hw') | (go_at_call 7; refine H7.out.mono ?_; rintro e w' ⟨rfl, hw'⟩; replace hw' := hw'.symm; subst hw'))
  go_ret
  exact ⟨by simp, HB.out⟩

theorem scanWalk (a0 : Option Addr) (len0 cap0 : Nat) (z0 : List Int) (a1 : Int) (w : World) (w0 : IsRow .u8 w a0 len0 cap0 z0) (w1 : (Lit.int .i64 a1).wf = true) :
    Calls Try.prog 3 #[.slice a0 len0 cap0, .int .i64 a1] w fun e w' => e = .returned (.bool true) ∧ Below w.heap.size w w' := by
  have hb := bounds_i64 w1
  by_cases h1 : 1048576 < len0
  · refine law_big _ _ _ _ w h1 ?_
    rcases w0 with ⟨rfl, rfl, rfl, rfl⟩ | ⟨x, rfl, hl, hm, hz, hc, hw⟩
    · omega
    · unfold maxLen at hm; omega
  · by_cases h2 : a1 < 0
    · exact law_neg _ _ _ _ w (by omega) h2
    · rcases w0 with ⟨rfl, rfl, rfl, rfl⟩ | ⟨x, rfl, hl, hm, hz, hc, hw⟩
      · exact law_same none 0 0 a1 w w (.slice none 0 0) 0 a1 (by omega) (by omega) (clone_nil w) (Below.refl _ _) (zz_of _ _ _ _ _ (scan_past none 0 0 a1 w (by omega))) (model_past none 0 0 a1 w (by omega))
      · refine law_of (some x) len0 cap0 a1 w (fun c w' => c = .slice (some ⟨w.heap.size, 0, none⟩) len0 len0 ∧ Below w.heap.size w w' ∧ ∀ j, j < len0 → w'.cell? ⟨w.heap.size, j, none⟩ = some (.int .u8 (z0.getD j 0))) (by omega) (by omega) ?_ ?_
        · refine (clone_some x len0 cap0 z0 w hl (by omega) hz hc).mono ?_
          rintro e w' ⟨h3, h4, h5⟩
          exact ⟨_, h3, rfl, h4, h5⟩
        · rintro c w' ⟨rfl, hbel, hcell⟩
          refine ⟨hbel, ?_⟩
          by_cases hin : (len0 : Int) ≤ a1
          · exact ⟨0, a1, zz_of _ _ _ _ _ (scan_past _ len0 len0 a1 w' hin), model_past _ len0 len0 a1 w' hin⟩
          · obtain ⟨i, rfl⟩ := Int.eq_ofNat_of_zero_le (by omega : 0 ≤ a1)
            obtain ⟨r, r1, r2, r3⟩ := run_exists (fun j => z0.getD j 0) len0 (len0 - i) i (by omega)
            have hby : ∀ j, j < len0 → 0 ≤ z0.getD j 0 ∧ z0.getD j 0 ≤ 255 := fun j _ => byte_of_wf hw j
            by_cases h9 : r ≤ 9
            · exact ⟨val (fun j => z0.getD j 0) i r, ((i + r : Nat) : Int), zz_of _ _ _ _ _ (scan_any w.heap.size len0 len0 i r (fun j => z0.getD j 0) w' (by omega) (by omega) hby hcell r1 r2 r3 _ _ (.inl ⟨h9, rfl, rfl⟩)),
                model_any w.heap.size len0 len0 i r (fun j => z0.getD j 0) w' (by omega) (by omega) hby hcell r1 r2 r3 _ _ (.inl ⟨h9, rfl, rfl⟩)⟩
            · exact ⟨0, i, zz_of _ _ _ _ _ (scan_any w.heap.size len0 len0 i r (fun j => z0.getD j 0) w' (by omega) (by omega) hby hcell r1 r2 r3 _ _ (.inr ⟨by omega, rfl, rfl⟩)),
                model_any w.heap.size len0 len0 i r (fun j => z0.getD j 0) w' (by omega) (by omega) hby hcell r1 r2 r3 _ _ (.inr ⟨by omega, rfl, rfl⟩)⟩
end Go.Proofs.Qxb6600348a
