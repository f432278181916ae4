import Derived.Test.Qxb6000049aHexWalk
import Derived.WalkKit
import Derived.OpenShut
namespace Go.Proofs.Qxb6000049a.HexReads
open Go.RowKit

theorem dig_all : ∀ n : Fin 16, hx ((ByteArray.mk #[48, 49, 50, 51, 52, 53, 54, 55, 56, 57, 97, 98, 99, 100, 101, 102])[n.val].toNat : Int) = n.val ∧
    (97 ≤ ((ByteArray.mk #[48, 49, 50, 51, 52, 53, 54, 55, 56, 57, 97, 98, 99, 100, 101, 102])[n.val].toNat : Int) → hx (((ByteArray.mk #[48, 49, 50, 51, 52, 53, 54, 55, 56, 57, 97, 98, 99, 100, 101, 102])[n.val].toNat - 32 : Int) % 256) = n.val) := by decide

theorem dig_lo (x : Int) (h : 0 ≤ x ∧ x < 16) (p : x.toNat < (ByteArray.mk #[48, 49, 50, 51, 52, 53, 54, 55, 56, 57, 97, 98, 99, 100, 101, 102]).size) :
    hx ((ByteArray.mk #[48, 49, 50, 51, 52, 53, 54, 55, 56, 57, 97, 98, 99, 100, 101, 102])[x.toNat].toNat : Int) = x := by
  have := (dig_all ⟨x.toNat, by omega⟩).1
  simp only [] at this
  rw [this]; omega

theorem dig_up (x : Int) (h : 0 ≤ x ∧ x < 16) (p : x.toNat < (ByteArray.mk #[48, 49, 50, 51, 52, 53, 54, 55, 56, 57, 97, 98, 99, 100, 101, 102]).size)
    (g : 97 ≤ ((ByteArray.mk #[48, 49, 50, 51, 52, 53, 54, 55, 56, 57, 97, 98, 99, 100, 101, 102])[x.toNat].toNat : Int)) :
    hx (((ByteArray.mk #[48, 49, 50, 51, 52, 53, 54, 55, 56, 57, 97, 98, 99, 100, 101, 102])[x.toNat].toNat - 32 : Int) % 256) = x := by
  have := (dig_all ⟨x.toNat, by omega⟩).2 g
  simp only [] at this
  rw [this]; omega

theorem and15 (x : Int) (h0 : 0 ≤ x) (h1 : x ≤ 65535) : bits .and .u16 x 15 = x % 16 := by
  rw [u16_and x 15 h0 (by omega) (by omega) (by omega)]
  obtain ⟨X, rfl⟩ := Int.eq_ofNat_of_zero_le h0
  simp [nat_mask4]

def zz (z0 z1 z2 z3 : Int) : Nat → Int
  | 0 => z0
  | 1 => z1
  | 2 => z2
  | _ => z3

theorem whole (a0 z0 z1 z2 z3 : Int) (v0 : 0 ≤ a0) (v1 : a0 ≤ 65535) (h : hx z3 = a0 % 16 ∧ hx z2 = a0 / 16 % 16 ∧ hx z1 = a0 / 256 % 16 ∧ hx z0 = a0 / 4096 % 16) (w : World) :
    Calls Try.prog 10 #[.slice (some ⟨w.heap.size, 0, none⟩) 4 4] (w.alloc (.cells #[.int .u8 z0, .int .u8 z1, .int .u8 z2, .int .u8 z3] 31)) fun e w' =>
      e = .returned (.tuple #[.int .i32 a0, .bool true]) ∧ w' = w.alloc (.cells #[.int .u8 z0, .int .u8 z1, .int .u8 z2, .int .u8 z3] 31) := by
  obtain ⟨h3, h2, h1, h0⟩ := h
  have e : hv (zz z0 z1 z2 z3) 4 = a0 := by simp only [hv, zz, h0, h1, h2, h3]; omega
  rw [← e]
  refine zzhex4_of _ _ _ _ (hex4_ok _ 0 4 4 (zz z0 z1 z2 z3) _ (by omega) (by omega) (by unfold maxLen; omega) ?_ ?_)
  · intro i hi
    match i, hi with
    | 0, _ => simp [zz, go_sem]
    | 1, _ => simp [zz, go_sem]
    | 2, _ => simp [zz, go_sem]
    | 3, _ => simp [zz, go_sem]
  · intro i hi
    match i, hi with
    | 0, _ => simp only [zz, h0]; omega
    | 1, _ => simp only [zz, h1]; omega
    | 2, _ => simp only [zz, h2]; omega
    | 3, _ => simp only [zz, h3]; omega

set_option maxHeartbeats 800000 in
theorem walk (a0 : Int) (a1 : Int) (w0 : (Lit.int .u16 a0).wf = true) (w1 : (Lit.int .u8 a1).wf = true) (w : World) :
    Calls Try.prog 4 #[.int .u16 a0, .int .u8 a1] w fun e w' => e = .returned (.bool true) ∧ Grown w w' := by
  obtain ⟨v0, v1⟩ := bounds_u16 w0
  have hv1 := bounds_u8 w1
  clear w0 w1
  go_enter Try.func4, Try.ntmps4
  go_wp2
  go_loopw [6, 7] (fun x i wr => ∃ k : Nat, ∃ X z0 z1 z2 z3 : Int, x = .int .u16 X ∧ i = .int .i64 (3 - (k : Int)) ∧
      wr = w.alloc (.cells #[.int .u8 z0, .int .u8 z1, .int .u8 z2, .int .u8 z3] 31) ∧ 
      ((k = 0 ∧ X = a0) ∨ (k = 1 ∧ X = a0 / 16 ∧ hx z3 = a0 % 16) ∨ (k = 2 ∧ X = a0 / 256 ∧ hx z3 = a0 % 16 ∧ hx z2 = a0 / 16 % 16) ∨ (k = 3 ∧ X = a0 / 4096 ∧ hx z3 = a0 % 16 ∧ hx z2 = a0 / 16 % 16 ∧ hx z1 = a0 / 256 % 16) ∨
       (k = 4 ∧ hx z3 = a0 % 16 ∧ hx z2 = a0 / 16 % 16 ∧ hx z1 = a0 / 256 % 16 ∧ hx z0 = a0 / 4096 % 16))) (fun _ i _ => (intOf i + 1).toNat)
  case atStart => exact ⟨0, a0, 0, 0, 0, 0, rfl, rfl, rfl, Or.inl ⟨rfl, rfl⟩⟩
  case round =>
    obtain ⟨k, X, z0, z1, z2, z3, rfl, rfl, rfl, hh⟩ := hrel
    rcases hh with ⟨rfl, rfl⟩ | ⟨rfl, hX, h3⟩ | ⟨rfl, hX, h3⟩ | ⟨rfl, hX, h3⟩ | ⟨rfl, h3, h2, h1, h0⟩
    · have ha := and15 X v0 v1
      go_wp2
      all_goals
        go_round
        case rel => exact ⟨1, X / 16, _, _, _, _, rfl, rfl, rfl, Or.inr (Or.inl ⟨rfl, rfl, by first | exact dig_up _ (by omega) _ (by assumption) | exact dig_lo _ (by omega) _⟩)⟩
        case measure => simp [intOf]
    · have ha := and15 X (by omega) (by omega)
      have b0 : 0 ≤ X := by omega
      have b1 : X ≤ 65535 := by omega
      have HX : Hid (X = a0 / 16) := hX
      have H : Hid (hx z3 = a0 % 16) := h3
      clear hX h3
      go_wp2
      all_goals
        go_round
        case rel =>
          have hX := HX.out
          refine ⟨2, X / 16, _, _, _, _, rfl, rfl, rfl, ?_⟩
          have HD : ∀ y, y = X % 16 → y = a0 / 16 % 16 := by omega
          first
            | (have HD := HD _ (dig_up (X % 16) (by omega) (by show _ < 16; omega) (by assumption)); exact Or.inr (Or.inr (Or.inl ⟨rfl, by omega, H.out, HD⟩)))
            | (have HD := HD _ (dig_lo (X % 16) (by omega) (by show _ < 16; omega)); exact Or.inr (Or.inr (Or.inl ⟨rfl, by omega, H.out, HD⟩)))
        case measure => simp [intOf]
    · have ha := and15 X (by omega) (by omega)
      have b0 : 0 ≤ X := by omega
      have b1 : X ≤ 65535 := by omega
      have HX : Hid (X = a0 / 256) := hX
      have H : Hid (hx z3 = a0 % 16 ∧ hx z2 = a0 / 16 % 16) := h3
      clear hX h3
      go_wp2
      all_goals
        go_round
        case rel =>
          have hX := HX.out
          refine ⟨3, X / 16, _, _, _, _, rfl, rfl, rfl, ?_⟩
          have HD : ∀ y, y = X % 16 → y = a0 / 256 % 16 := by omega
          first
            | (have HD := HD _ (dig_up (X % 16) (by omega) (by show _ < 16; omega) (by assumption)); exact Or.inr (Or.inr (Or.inr (Or.inl ⟨rfl, by omega, H.out.1, H.out.2, HD⟩))))
            | (have HD := HD _ (dig_lo (X % 16) (by omega) (by show _ < 16; omega)); exact Or.inr (Or.inr (Or.inr (Or.inl ⟨rfl, by omega, H.out.1, H.out.2, HD⟩))))
        case measure => simp [intOf]
    · have ha := and15 X (by omega) (by omega)
      have b0 : 0 ≤ X := by omega
      have b1 : X ≤ 65535 := by omega
      have HX : Hid (X = a0 / 4096) := hX
      have H : Hid (hx z3 = a0 % 16 ∧ hx z2 = a0 / 16 % 16 ∧ hx z1 = a0 / 256 % 16) := h3
      clear hX h3
      go_wp2
      all_goals
        go_round
        case rel =>
          have hX := HX.out
          refine ⟨4, X / 16, _, _, _, _, rfl, rfl, rfl, ?_⟩
          have HD : ∀ y, y = X % 16 → y = a0 / 4096 % 16 := by omega
          first
            | (have HD := HD _ (dig_up (X % 16) (by omega) (by show _ < 16; omega) (by assumption)); exact Or.inr (Or.inr (Or.inr (Or.inr ⟨rfl, H.out.1, H.out.2.1, H.out.2.2, HD⟩))))
            | (have HD := HD _ (dig_lo (X % 16) (by omega) (by show _ < 16; omega)); exact Or.inr (Or.inr (Or.inr (Or.inr ⟨rfl, H.out.1, H.out.2.1, H.out.2.2, HD⟩))))
        case measure => simp [intOf]
    · have H : Hid (hx z3 = a0 % 16 ∧ hx z2 = a0 / 16 % 16 ∧ hx z1 = a0 / 256 % 16 ∧ hx z0 = a0 / 4096 % 16) := ⟨h3, h2, h1, h0⟩
      clear h3 h2 h1 h0
      go_wp2_with fail
      refine (whole a0 z0 z1 z2 z3 v0 v1 H.out w).mono ?_
      rintro e w' ⟨rfl, rfl⟩
      go_wp2
      go_ret
      exact ⟨by simp, (Grown.refl _).alloc _ _⟩
end Go.Proofs.Qxb6000049a.HexReads
