import Derived.Test.Qxb6000049aRows
import Derived.WalkKit
import Derived.WalkSpells
namespace Go.Proofs.Qxb6000049a
open Go.RowKit

/-- The value of a hex digit's byte; -1: no hex digit. -/
def hx (c : Int) : Int := if 48 ≤ c ∧ c ≤ 57 then c - 48 else if 97 ≤ c ∧ c ≤ 102 then c - 87 else if 65 ≤ c ∧ c ≤ 70 then c - 55 else -1
/-- The number that the first k digits write. -/
def hv (z : Nat → Int) : Nat → Int
  | 0 => 0
  | k + 1 => hv z k * 16 + hx (z k)

theorem hx_cases (c : Int) : (48 ≤ c ∧ c ≤ 57 ∧ hx c = c - 48) ∨ (97 ≤ c ∧ c ≤ 102 ∧ hx c = c - 87) ∨ (65 ≤ c ∧ c ≤ 70 ∧ hx c = c - 55) ∨
    (¬ (48 ≤ c ∧ c ≤ 57) ∧ ¬ (97 ≤ c ∧ c ≤ 102) ∧ ¬ (65 ≤ c ∧ c ≤ 70) ∧ hx c = -1) := by
  unfold hx
  split
  · omega
  · split
    · omega
    · split <;> omega


theorem hx_hi (c : Int) : hx c ≤ 15 := by rcases hx_cases c with h | h | h | h <;> omega
theorem hv_bd (z : Nat → Int) (k : Nat) (h : ∀ i, i < k → 0 ≤ hx (z i)) : 0 ≤ hv z k ∧ hv z k < (16 ^ k : Nat) := by
  induction k with
  | zero => simp [hv]
  | succ k ih =>
    have h1 := ih (fun i hi => h i (by omega))
    have h2 := h k (by omega)
    have h3 := hx_hi (z k)
    rw [hv, Nat.pow_succ]
    omega


theorem i32_or16 (x d : Int) (h1 : 0 ≤ x) (h2 : x < 4096) (h3 : 0 ≤ d) (h4 : d < 16) : bits .or .i32 (x * 16) d = x * 16 + d := by
  obtain ⟨X, rfl⟩ := Int.eq_ofNat_of_zero_le h1
  obtain ⟨D, rfl⟩ := Int.eq_ofNat_of_zero_le h3
  have e : ((X : Int) * 16) = ((X * 16 : Nat) : Int) := by omega
  rw [e]
  show IntKind.i32.wrap ((BitVec.ofInt 32 ((X * 16 : Nat) : Int) ||| BitVec.ofInt 32 (D : Int)).toNat : Int) = _
  rw [BitVec.toNat_or, BitVec.ofInt_natCast, BitVec.ofInt_natCast, BitVec.toNat_ofNat, BitVec.toNat_ofNat, Nat.mod_eq_of_lt (by omega), Nat.mod_eq_of_lt (by omega),
    nat_join 4 (X * 16) D (by omega) (by omega), IntKind.wrap_i32]
  omega

theorem hv_step (z : Nat → Int) (k : Nat) (d : Int) (h1 : 0 ≤ hv z k) (h2 : hv z k < 4096) (h3 : hx (z k) = d) (h4 : 0 ≤ d) :
    Value.int .i32 (bits .or .i32 (hv z k * 16) d) = .int .i32 (hv z (k + 1)) := by
  have h5 := hx_hi (z k)
  rw [i32_or16 _ _ h1 h2 h4 (by omega), hv, h3]

set_option maxHeartbeats 400000 in
theorem hex4_ok (b off len cap : Nat) (z : Nat → Int) (w : World) (hl : 4 ≤ len) (hlc : len ≤ cap) (hm : cap ≤ maxLen)
    (hc : ∀ i, i < 4 → w.cell? ⟨b, off + i, none⟩ = some (.int .u8 (z i))) (hz : ∀ i, i < 4 → 0 ≤ hx (z i)) :
    Calls Try.prog 19 #[.slice (some ⟨b, off, none⟩) len cap] w fun e w' => e = .returned (.tuple #[.int .i32 (hv z 4), .bool true]) ∧ w' = w := by
  unfold maxLen at hm
  go_enter Try.func19, Try.ntmps19
  go_wp2
  go_loop [4, 13] (fun r i => ∃ k : Nat, k ≤ 4 ∧ i = .int .i64 k ∧ r = .int .i32 (hv z k)) (fun _ i => 4 - (intOf i).toNat)
  case atStart => exact ⟨0, by omega, rfl, rfl⟩
  case round =>
    obtain ⟨k, hk, rfl, rfl⟩ := hrel
    by_cases hlt : k < 4
    · have hb := hv_bd z k (fun i hi => hz i (by omega))
      have hp : 16 ^ k ≤ 16 ^ 3 := Nat.pow_le_pow_right (by omega) (by omega)
      have hb2 : hv z k < 4096 := by omega
      have hb1 := hb.1
      clear hb hp
      have hck := hc k hlt
      have hzk := hz k hlt
      rcases hx_cases (z k) with ⟨h1, h2, h3⟩ | ⟨h1, h2, h3⟩ | ⟨h1, h2, h3⟩ | ⟨h1, h2, h4, h3⟩
      · have HS : Hid (hx (z k) = z k - 48) := h3
        clear h3
        go_wp2
        go_round
        case rel => exact ⟨k + 1, by omega, by go_num, hv_step z k _ hb1 hb2 HS.out (by omega)⟩
        case measure => simp [intOf]; omega
      · have HS : Hid (hx (z k) = z k - 87) := h3
        clear h3
        go_wp2
        go_round
        case rel => exact ⟨k + 1, by omega, by go_num, hv_step z k _ hb1 hb2 HS.out (by omega)⟩
        case measure => simp [intOf]; omega
      · have HS : Hid (hx (z k) = z k - 55) := h3
        clear h3
        go_wp2
        go_round
        case rel => exact ⟨k + 1, by omega, by go_num, hv_step z k _ hb1 hb2 HS.out (by omega)⟩
        case measure => simp [intOf]; omega
      · omega
    · obtain rfl : k = 4 := by omega
      go_wp2
      go_ret2
      exact ⟨rfl, rfl⟩

set_option maxHeartbeats 400000 in
theorem hex4_bad (b off len cap : Nat) (z : Nat → Int) (w : World) (hl : 4 ≤ len) (hlc : len ≤ cap) (hm : cap ≤ maxLen)
    (hc : ∀ i, i < 4 → w.cell? ⟨b, off + i, none⟩ = some (.int .u8 (z i))) (hby : ∀ i, i < 4 → 0 ≤ z i ∧ z i ≤ 255) (hz : ∃ i, i < 4 ∧ hx (z i) = -1) :
    Calls Try.prog 19 #[.slice (some ⟨b, off, none⟩) len cap] w fun e w' => e = .returned (.tuple #[.int .i32 0, .bool false]) ∧ w' = w := by
  unfold maxLen at hm
  go_enter Try.func19, Try.ntmps19
  go_wp2
  go_loop [4, 13] (fun r i => ∃ k : Nat, k ≤ 4 ∧ i = .int .i64 k ∧ r = .int .i32 (hv z k) ∧ ∀ j, j < k → 0 ≤ hx (z j)) (fun _ i => 4 - (intOf i).toNat)
  case atStart => exact ⟨0, by omega, rfl, rfl, by omega⟩
  case round =>
    obtain ⟨k, hk, rfl, rfl, hg⟩ := hrel
    by_cases hlt : k < 4
    · have hb := hv_bd z k hg
      have hp : 16 ^ k ≤ 16 ^ 3 := Nat.pow_le_pow_right (by omega) (by omega)
      have hb2 : hv z k < 4096 := by omega
      have hb1 := hb.1
      clear hb hp
      have hck := hc k hlt
      have hbk := hby k hlt
      have hG : Hid (∀ j, j < k → 0 ≤ hx (z j)) := hg
      have hZ : Hid (∃ i, i < 4 ∧ hx (z i) = -1) := hz
      clear hg hz
      have next : ∀ d, hx (z k) = d → 0 ≤ d → ∀ j, j < k + 1 → 0 ≤ hx (z j) := by
        intro d h1 h2 j hj
        by_cases e : j = k
        · subst e; omega
        · exact hG.out j (by omega)
      have NX : Hid (∀ d, hx (z k) = d → 0 ≤ d → ∀ j, j < k + 1 → 0 ≤ hx (z j)) := next
      clear next
      rcases hx_cases (z k) with ⟨h1, h2, h3⟩ | ⟨h1, h2, h3⟩ | ⟨h1, h2, h3⟩ | ⟨h1, h2, h4, h3⟩
      · have HS : Hid (hx (z k) = z k - 48) := h3
        clear h3
        go_wp2
        go_round
        case rel => exact ⟨k + 1, by omega, by go_num, hv_step z k _ hb1 hb2 HS.out (by omega), NX.out _ HS.out (by omega)⟩
        case measure => simp [intOf]; omega
      · have HS : Hid (hx (z k) = z k - 87) := h3
        clear h3
        go_wp2
        go_round
        case rel => exact ⟨k + 1, by omega, by go_num, hv_step z k _ hb1 hb2 HS.out (by omega), NX.out _ HS.out (by omega)⟩
        case measure => simp [intOf]; omega
      · have HS : Hid (hx (z k) = z k - 55) := h3
        clear h3
        go_wp2
        go_round
        case rel => exact ⟨k + 1, by omega, by go_num, hv_step z k _ hb1 hb2 HS.out (by omega), NX.out _ HS.out (by omega)⟩
        case measure => simp [intOf]; omega
      · have HS : Hid (hx (z k) = -1) := h3
        clear h3
        rcases (show (z k < 48) ∨ (57 < z k ∧ z k < 65) ∨ (70 < z k ∧ z k < 97) ∨ 102 < z k from by omega) with h5 | h5 | h5 | h5
        all_goals
          clear h1 h2 h4
          go_wp2
          go_ret2
          exact ⟨rfl, rfl⟩
    · obtain rfl : k = 4 := by omega
      obtain ⟨i, hi, hbad⟩ := hz
      have := hg i hi
      omega

theorem hex4_short (a : Option Addr) (len cap : Nat) (w : World) (hl : len < 4) :
    Calls Try.prog 19 #[.slice a len cap] w fun e w' => e = .returned (.tuple #[.int .i32 0, .bool false]) ∧ w' = w := by
  go_enter Try.func19, Try.ntmps19
  go_wp2
  go_ret2
  exact ⟨rfl, rfl⟩

/-- ZZHex4: hex4 under another name. -/
theorem zzhex4_of (v : Value) (w : World) (e0 : Value) (e1 : Value)
    (h : Calls Try.prog 19 #[v] w fun e w' => e = .returned (.tuple #[e0, e1]) ∧ w' = w) :
    Calls Try.prog 10 #[v] w fun e w' => e = .returned (.tuple #[e0, e1]) ∧ w' = w := by
  have H : Hid (Calls Try.prog 19 #[v] w fun e w' => e = .returned (.tuple #[e0, e1]) ∧ w' = w) := h
  clear h
  go_enter Try.func10, Try.ntmps10
  go_wp2_with fail
  refine H.out.mono ?_
  rintro e w' ⟨rfl, rfl⟩
  go_wp2
  go_ret2
  exact ⟨rfl, rfl⟩
end Go.Proofs.Qxb6000049a
