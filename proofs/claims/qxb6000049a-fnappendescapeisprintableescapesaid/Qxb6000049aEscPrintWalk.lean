import Derived.Test.Qxb6000049aEscInjWalk
import Derived.WalkKit
import Derived.WalkSmall
import Derived.OpenShut
import Derived.Deep.QuietTactic
import Derived.BigQuiet
namespace Go.Proofs.Qxb6000049a
open Go.RowKit

/-- The letters that may stand behind an escape's backslash. -/
def letterB (x : Int) : Bool := decide (x = 34 ∨ x = 92 ∨ x = 98 ∨ x = 102 ∨ x = 110 ∨ x = 114 ∨ x = 116 ∨ x = 117)

theorem letter_any (x : Int) (w : World) (h : letterB x = true) :
    Calls Try.prog 18 #[.int .u8 x] w fun e w' => e = .returned (.bool true) ∧ w' = w := by
  simp only [letterB, decide_eq_true_eq] at h
  rcases h with rfl | rfl | rfl | rfl | rfl | rfl | rfl | rfl
  all_goals
    go_enter Try.func18, Try.ntmps18
    go_wp2
    go_ret
    exact ⟨rfl, rfl⟩

/-- What the law asks of an escape. -/
def goodEsc (l : List Int) : Bool := (l.length == 2 || l.length == 6) && (l.getD 0 0 == 92) && letterB (l.getD 1 0) && l.all (fun x => decide (32 ≤ x ∧ x ≤ 126)) && (l.drop 2).all (fun x => decide (x ≠ 34 ∧ x ≠ 92))

theorem esc_good_all : ∀ c : Fin 256, goodEsc (esc c.val) = true := by decide +kernel

theorem esc_good (c : Int) (c0 : 0 ≤ c) (c1 : c ≤ 255) : (esc c).getD 0 0 = 92 ∧ letterB ((esc c).getD 1 0) = true ∧ (∀ j, j < (esc c).length → 32 ≤ (esc c).getD j 0 ∧ (esc c).getD j 0 ≤ 126) ∧
    (∀ j, 2 ≤ j → j < (esc c).length → (esc c).getD j 0 ≠ 34 ∧ (esc c).getD j 0 ≠ 92) := by
  obtain ⟨C, rfl⟩ := Int.eq_ofNat_of_zero_le c0
  have h := esc_good_all ⟨C, by omega⟩
  simp only [goodEsc, Bool.and_eq_true, beq_iff_eq, List.all_eq_true, decide_eq_true_eq] at h
  obtain ⟨⟨⟨⟨_, h0⟩, h1⟩, h2⟩, h3⟩ := h
  refine ⟨h0, h1, fun j hj => ?_, fun j h2j hj => ?_⟩
  · have := h2 ((esc (C : Int))[j]) (List.getElem_mem hj)
    simpa [List.getD, hj] using this
  · have := h3 ((esc (C : Int))[j]) (by
      rw [List.mem_iff_getElem]
      exact ⟨j - 2, by simp; omega, by simp [show 2 + (j - 2) = j from by omega]⟩)
    simpa [List.getD, hj] using this

set_option maxHeartbeats 800000 in
theorem printWalk (a0 : Int) (w0 : (Lit.int .u8 a0).wf = true) (w : World) :
    Calls Try.prog 7 #[.int .u8 a0] w fun e w' => e = .returned (.bool true) ∧ Below w.heap.size w w' := by
  obtain ⟨p0, p1⟩ := bounds_u8 w0
  clear w0
  obtain ⟨g0, g1, g2, g3⟩ := esc_good a0 p0 p1
  have hl1 := esc_len a0
  have GG : Hid ((∀ j, j < (esc a0).length → 32 ≤ (esc a0).getD j 0 ∧ (esc a0).getD j 0 ≤ 126) ∧
    (∀ j, 2 ≤ j → j < (esc a0).length → (esc a0).getD j 0 ≠ 34 ∧ (esc a0).getD j 0 ≠ 92)) := ⟨g2, g3⟩
  have G0 : Hid ((esc a0).getD 0 0 = 92 ∧ letterB ((esc a0).getD 1 0) = true) := ⟨g0, g1⟩
  clear g0 g1 g2 g3
  go_enter Try.func7, Try.ntmps7
  go_wp2_with fail
  refine (zzesc_any (.slice none 0 0) 0 [] w w.heap.size (World.ownsRow_nil _ _ _ _) (by omega) (Nat.le_refl _) a0 p0 p1).mono ?_
  rintro e w1 ⟨v1, rfl, ho1, hg1⟩
  have hb1 := below_of_grown hg1
  simp only [Nat.zero_add, List.nil_append] at ho1
  obtain ⟨g, cap1, rfl, hg1b, hg1s, hn1, hm1, hc1⟩ := own_open ho1 (by omega)
  have BB : Hid (Below w.heap.size w w1) := hb1
  have C1 : Hid (∀ j, j < (esc a0).length → w1.cell? ⟨g, j, none⟩ = some (.int .u8 ((esc a0).getD j 0))) := hc1
  unfold maxLen at hm1
  clear ho1 hg1 hb1 hc1
  obtain ⟨E1, hE1⟩ : ∃ E1, E1 = esc a0 := ⟨_, rfl⟩
  rw [← hE1] at C1 hl1 hn1 GG G0 ⊢
  clear hE1
  have c0 : w1.cell? ⟨g, 0, none⟩ = some (.int .u8 92) := by rw [← G0.out.1]; exact C1.out 0 (by omega)
  obtain ⟨x, hx⟩ : ∃ x, x = E1.getD 1 0 := ⟨_, rfl⟩
  have c1 : w1.cell? ⟨g, 1, none⟩ = some (.int .u8 x) := by rw [hx]; exact C1.out 1 (by omega)
  have HX : Hid (letterB x = true) := by rw [hx]; exact G0.out.2
  clear hx
  have hl2 : 2 ≤ E1.length := by omega
  go_wp2_with fail
  refine (letter_any x _ HX.out).mono ?_
  rintro e w' ⟨rfl, rfl⟩
  clear c0 c1
  go_wp2
  go_loop [4] (fun i => ∃ k : Nat, k ≤ E1.length ∧ i = .int .i64 k) (fun i => E1.length - (intOf i).toNat)
  case atStart => exact ⟨0, by omega, rfl⟩
  case round =>
    obtain ⟨k, hk, rfl⟩ := hrel
    by_cases hlt : k < E1.length
    · obtain ⟨y, hy⟩ : ∃ y, y = E1.getD k 0 := ⟨_, rfl⟩
      have c2 : w'.cell? ⟨g, k, none⟩ = some (.int .u8 y) := by rw [hy]; exact C1.out k hlt
      have hy1 : 32 ≤ y := by rw [hy]; exact (GG.out.1 k hlt).1
      have hy2 : y ≤ 126 := by rw [hy]; exact (GG.out.1 k hlt).2
      have hy3 : 2 ≤ k → (y == 34) = false ∧ (y == 92) = false := by
        intro h2; rw [hy]; simpa using GG.out.2 k h2 hlt
      clear hy
      by_cases h2 : 2 ≤ k
      · obtain ⟨hy4, hy5⟩ := hy3 h2
        clear hy3
        go_wp2
        go_round
        case rel => exact ⟨k + 1, by omega, by go_num⟩
        case measure => simp [intOf]; omega
      · clear hy3
        have hd : decide ((2 : Int) ≤ (k : Int)) = false := by simp; omega
        go_wp2
        go_round
        case rel => exact ⟨k + 1, by omega, by go_num⟩
        case measure => simp [intOf]; omega
    · go_wp2
      go_ret
      exact ⟨rfl, BB.out⟩
end Go.Proofs.Qxb6000049a
