import Derived.Test.Qxb6000049aHexWalk
import Derived.WalkKit
import Derived.WalkSpells
import Derived.WalkSmall
import Derived.OpenShut
namespace Go.Proofs.Qxb6000049a
open Go.RowKit

theorem ret_bool {a b : Bool} (h : a = b) : Ending.returned (.bool a) = .returned (.bool b) := by rw [h]

def isHexB (c : Int) : Bool := decide (0 ≤ hx c)
def isLowB (c : Int) : Bool := decide ((48 ≤ c ∧ c ≤ 57) ∨ (97 ≤ c ∧ c ≤ 102))

theorem hex_in : ∀ k : Fin 22, isHexB ((ByteArray.mk #[48, 49, 50, 51, 52, 53, 54, 55, 56, 57, 97, 98, 99, 100, 101, 102, 65, 66, 67, 68, 69, 70])[k.val].toNat : Int) = true := by decide

theorem hex_out_all : ∀ c : Fin 256, isHexB (c.val : Int) = true → ∃ k : Fin 22, ((ByteArray.mk #[48, 49, 50, 51, 52, 53, 54, 55, 56, 57, 97, 98, 99, 100, 101, 102, 65, 66, 67, 68, 69, 70])[k.val].toNat : Int) = c.val := by decide +kernel

theorem hex_out (c : Int) (c0 : 0 ≤ c) (c1 : c ≤ 255) (h : ∀ k : Fin 22, ((ByteArray.mk #[48, 49, 50, 51, 52, 53, 54, 55, 56, 57, 97, 98, 99, 100, 101, 102, 65, 66, 67, 68, 69, 70])[k.val].toNat : Int) ≠ c) : isHexB c = false := by
  obtain ⟨C, rfl⟩ := Int.eq_ofNat_of_zero_le c0
  cases e : isHexB (C : Int) with
  | false => rfl
  | true =>
    obtain ⟨k, hk⟩ := hex_out_all ⟨C, by omega⟩ e
    exact absurd hk (h k)

set_option maxHeartbeats 400000 in
theorem hex_any (c : Int) (c0 : 0 ≤ c) (c1 : c ≤ 255) (w : World) :
    Calls Try.prog 11 #[.int .u8 c] w fun e w' => e = .returned (.bool (isHexB c)) ∧ w' = w := by
  obtain ⟨r, hr⟩ : ∃ r, r = isHexB c := ⟨_, rfl⟩
  rw [← hr]
  have HR : Hid (r = isHexB c) := hr
  clear hr
  go_enter Try.func11, Try.ntmps11
  go_wp2
  go_loop [3] (fun i => ∃ k : Nat, k ≤ 22 ∧ i = .int .i64 k ∧ ∀ j : Fin 22, j.val < k → ((ByteArray.mk #[48, 49, 50, 51, 52, 53, 54, 55, 56, 57, 97, 98, 99, 100, 101, 102, 65, 66, 67, 68, 69, 70])[j.val].toNat : Int) ≠ c) (fun i => 22 - (intOf i).toNat)
  case atStart => exact ⟨0, by omega, rfl, fun j hj => by omega⟩
  case round =>
    obtain ⟨k, hk, rfl, hd⟩ := hrel
    have HD : Hid (∀ j : Fin 22, j.val < k → ((ByteArray.mk #[48, 49, 50, 51, 52, 53, 54, 55, 56, 57, 97, 98, 99, 100, 101, 102, 65, 66, 67, 68, 69, 70])[j.val].toNat : Int) ≠ c) := hd
    clear hd
    by_cases hlt : k < 22
    · have hix : ∀ w, (Instr.index 9 (.string (ByteArray.mk #[48, 49, 50, 51, 52, 53, 54, 55, 56, 57, 97, 98, 99, 100, 101, 102, 65, 66, 67, 68, 69, 70])) (.int .i64 (k : Int))).run Try.prog w = .ok (.int .u8 ((ByteArray.mk #[48, 49, 50, 51, 52, 53, 54, 55, 56, 57, 97, 98, 99, 100, 101, 102, 65, 66, 67, 68, 69, 70])[k]'(by show k < 22; omega)).toNat) w := by
        intro w
        rw [run_index_string w 9 _ .i64 _ Try.underlying9, dif_pos ⟨by omega, by show (k : Int) < 22; omega⟩]
        simp only [Int.toNat_natCast]
      obtain ⟨y, hy⟩ : ∃ y : Int, y = ((ByteArray.mk #[48, 49, 50, 51, 52, 53, 54, 55, 56, 57, 97, 98, 99, 100, 101, 102, 65, 66, 67, 68, 69, 70])[k]'(by show k < 22; omega)).toNat := ⟨_, rfl⟩
      rw [← hy] at hix
      have HY : Hid (y = ((ByteArray.mk #[48, 49, 50, 51, 52, 53, 54, 55, 56, 57, 97, 98, 99, 100, 101, 102, 65, 66, 67, 68, 69, 70])[k]'(by show k < 22; omega)).toNat) := hy
      clear hy
      by_cases hyc : y = c
      · have hyb : (y == c) = true := by simpa using hyc
        have HC : Hid (y = c) := hyc
        clear hyc
        go_wp2
        go_ret
        exact ⟨ret_bool (by rw [HR.out, ← HC.out, HY.out, hex_in ⟨k, hlt⟩]), rfl⟩
      · have hyb : (y == c) = false := by simpa using hyc
        have HC : Hid (¬ y = c) := hyc
        clear hyc
        go_wp2
        go_round
        case rel =>
          refine ⟨k + 1, by omega, by go_num, fun j hj => ?_⟩
          by_cases e : j.val = k
          · have e2 : j = ⟨k, hlt⟩ := Fin.ext e
            subst e2
            intro h2
            exact HC.out (HY.out.trans h2)
          · exact HD.out j (by omega)
        case measure => simp [intOf]; omega
    · go_wp2
      go_ret
      exact ⟨ret_bool (by rw [HR.out, hex_out c c0 c1 (fun j => HD.out j (by omega))]), rfl⟩

theorem low_in : ∀ k : Fin 16, isLowB ((ByteArray.mk #[48, 49, 50, 51, 52, 53, 54, 55, 56, 57, 97, 98, 99, 100, 101, 102])[k.val].toNat : Int) = true := by decide

theorem low_out_all : ∀ c : Fin 256, isLowB (c.val : Int) = true → ∃ k : Fin 16, ((ByteArray.mk #[48, 49, 50, 51, 52, 53, 54, 55, 56, 57, 97, 98, 99, 100, 101, 102])[k.val].toNat : Int) = c.val := by decide +kernel

theorem low_out (c : Int) (c0 : 0 ≤ c) (c1 : c ≤ 255) (h : ∀ k : Fin 16, ((ByteArray.mk #[48, 49, 50, 51, 52, 53, 54, 55, 56, 57, 97, 98, 99, 100, 101, 102])[k.val].toNat : Int) ≠ c) : isLowB c = false := by
  obtain ⟨C, rfl⟩ := Int.eq_ofNat_of_zero_le c0
  cases e : isLowB (C : Int) with
  | false => rfl
  | true =>
    obtain ⟨k, hk⟩ := low_out_all ⟨C, by omega⟩ e
    exact absurd hk (h k)

set_option maxHeartbeats 400000 in
theorem low_any (c : Int) (c0 : 0 ≤ c) (c1 : c ≤ 255) (w : World) :
    Calls Try.prog 17 #[.int .u8 c] w fun e w' => e = .returned (.bool (isLowB c)) ∧ w' = w := by
  obtain ⟨r, hr⟩ : ∃ r, r = isLowB c := ⟨_, rfl⟩
  rw [← hr]
  have HR : Hid (r = isLowB c) := hr
  clear hr
  go_enter Try.func17, Try.ntmps17
  go_wp2
  go_loop [3] (fun i => ∃ k : Nat, k ≤ 16 ∧ i = .int .i64 k ∧ ∀ j : Fin 16, j.val < k → ((ByteArray.mk #[48, 49, 50, 51, 52, 53, 54, 55, 56, 57, 97, 98, 99, 100, 101, 102])[j.val].toNat : Int) ≠ c) (fun i => 16 - (intOf i).toNat)
  case atStart => exact ⟨0, by omega, rfl, fun j hj => by omega⟩
  case round =>
    obtain ⟨k, hk, rfl, hd⟩ := hrel
    have HD : Hid (∀ j : Fin 16, j.val < k → ((ByteArray.mk #[48, 49, 50, 51, 52, 53, 54, 55, 56, 57, 97, 98, 99, 100, 101, 102])[j.val].toNat : Int) ≠ c) := hd
    clear hd
    by_cases hlt : k < 16
    · have hix : ∀ w, (Instr.index 9 (.string (ByteArray.mk #[48, 49, 50, 51, 52, 53, 54, 55, 56, 57, 97, 98, 99, 100, 101, 102])) (.int .i64 (k : Int))).run Try.prog w = .ok (.int .u8 ((ByteArray.mk #[48, 49, 50, 51, 52, 53, 54, 55, 56, 57, 97, 98, 99, 100, 101, 102])[k]'(by show k < 16; omega)).toNat) w := by
        intro w
        rw [run_index_string w 9 _ .i64 _ Try.underlying9, dif_pos ⟨by omega, by show (k : Int) < 16; omega⟩]
        simp only [Int.toNat_natCast]
      obtain ⟨y, hy⟩ : ∃ y : Int, y = ((ByteArray.mk #[48, 49, 50, 51, 52, 53, 54, 55, 56, 57, 97, 98, 99, 100, 101, 102])[k]'(by show k < 16; omega)).toNat := ⟨_, rfl⟩
      rw [← hy] at hix
      have HY : Hid (y = ((ByteArray.mk #[48, 49, 50, 51, 52, 53, 54, 55, 56, 57, 97, 98, 99, 100, 101, 102])[k]'(by show k < 16; omega)).toNat) := hy
      clear hy
      by_cases hyc : y = c
      · have hyb : (y == c) = true := by simpa using hyc
        have HC : Hid (y = c) := hyc
        clear hyc
        go_wp2
        go_ret
        exact ⟨ret_bool (by rw [HR.out, ← HC.out, HY.out, low_in ⟨k, hlt⟩]), rfl⟩
      · have hyb : (y == c) = false := by simpa using hyc
        have HC : Hid (¬ y = c) := hyc
        clear hyc
        go_wp2
        go_round
        case rel =>
          refine ⟨k + 1, by omega, by go_num, fun j hj => ?_⟩
          by_cases e : j.val = k
          · have e2 : j = ⟨k, hlt⟩ := Fin.ext e
            subst e2
            intro h2
            exact HC.out (HY.out.trans h2)
          · exact HD.out j (by omega)
        case measure => simp [intOf]; omega
    · go_wp2
      go_ret
      exact ⟨ret_bool (by rw [HR.out, low_out c c0 c1 (fun j => HD.out j (by omega))]), rfl⟩

def lowerI (c : Int) : Int := if 65 ≤ c ∧ c ≤ 90 then c + 32 else c

theorem lower_any (c : Int) (c0 : 0 ≤ c) (c1 : c ≤ 255) (w : World) :
    Calls Try.prog 12 #[.int .u8 c] w fun e w' => e = .returned (.int .u8 (lowerI c)) ∧ w' = w := by
  by_cases h1 : 65 ≤ c
  · by_cases h2 : c ≤ 90
    · have e : lowerI c = c + 32 := by simp [lowerI, h1, h2]
      rw [e]
      go_enter Try.func12, Try.ntmps12
      go_wp2
      go_ret
      exact ⟨rfl, rfl⟩
    · have e : lowerI c = c := by simp [lowerI, h2]
      rw [e]
      go_enter Try.func12, Try.ntmps12
      go_wp2
      go_ret
      exact ⟨rfl, rfl⟩
  · have e : lowerI c = c := by simp [lowerI, h1]
    rw [e]
    go_enter Try.func12, Try.ntmps12
    go_wp2
    go_ret
    exact ⟨rfl, rfl⟩
end Go.Proofs.Qxb6000049a
