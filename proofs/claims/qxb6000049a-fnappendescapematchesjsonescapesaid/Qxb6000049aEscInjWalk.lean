import Derived.Test.Qxb6000049aEscWalk
import Derived.WalkKit
import Derived.WalkSmall
import Derived.OpenShut
import Derived.Deep.QuietTactic
import Derived.BigQuiet
namespace Go.Proofs.Qxb6000049a
open Go.RowKit

theorem below_of_grown {w w' : World} (h : w.grownBy w' none) : Below w.heap.size w w' := (Below.refl w.heap.size w).grown h (Nat.le_refl _) (by intro k hk; cases hk)

theorem own_open {w : World} {base n : Nat} {v : Value} {zs : List Int} (h : w.ownsRow base 5 1 v n (zs.map (Value.int .u8))) (hn : 0 < n) :
    ∃ g cap, v = .slice (some ⟨g, 0, none⟩) n cap ∧ base ≤ g ∧ g < w.heap.size ∧ n ≤ cap ∧ cap ≤ maxLen ∧ ∀ j, j < n → w.cell? ⟨g, j, none⟩ = some (.int .u8 (zs.getD j 0)) := by
  obtain ⟨h1, h2⟩ := h
  rcases h2 with ⟨_, h0⟩ | ⟨g, cap, cur, rfl, hb, hg, h3, h4, h5, h6⟩
  · omega
  · refine ⟨g, cap, rfl, hb, (Array.getElem?_eq_some_iff.1 hg).1, h3, h4, fun j hj => ?_⟩
    have ho : w.ownsRow base 5 1 (.slice (some ⟨g, 0, none⟩) n cap) n (zs.map (Value.int .u8)) := ⟨h1, Or.inr ⟨g, cap, cur, rfl, hb, hg, h3, h4, h5, h6⟩⟩
    rw [ho.cellAt j (by omega)]
    have : j < zs.length := by simpa using (by simpa using h1 : zs.length = n) ▸ hj
    simp [this]

theorem esc_len (c : Int) : (esc c).length = 2 ∨ (esc c).length = 6 := by
  unfold esc
  repeat' split
  all_goals simp

theorem dg_inj (a b : Int) (a0 : 0 ≤ a) (a1 : a < 16) (b0 : 0 ≤ b) (b1 : b < 16) (h : dg a = dg b) : a = b := by
  unfold dg at h
  split at h <;> split at h <;> omega

theorem esc_inj (a b : Int) (a0 : 0 ≤ a) (a1 : a ≤ 255) (b0 : 0 ≤ b) (b1 : b ≤ 255) (h : esc a = esc b) : a = b := by
  have key : ∀ x y : Int, 0 ≤ x → x ≤ 255 → 0 ≤ y → y ≤ 255 → dg (x / 16) = dg (y / 16) → dg (x % 16) = dg (y % 16) → x = y := by
    intro x y x0 x1 y0 y1 e1 e2
    have := dg_inj (x / 16) (y / 16) (by omega) (by omega) (by omega) (by omega) e1
    have := dg_inj (x % 16) (y % 16) (by omega) (by omega) (by omega) (by omega) e2
    omega
  unfold esc at h
  repeat' split at h
  all_goals first
    | omega
    | (simp at h; done)
    | (simp only [List.cons.injEq, true_and, and_true] at h; exact key a b a0 a1 b0 b1 h.1 h.2)

theorem list_eq_of_getD (a b : List Int) (hl : a.length = b.length) (h : ∀ j, j < a.length → a.getD j 0 = b.getD j 0) : a = b := by
  apply List.ext_getElem hl
  intro i h1 h2
  have := h i h1
  simpa [List.getD, h1, h2] using this

set_option maxHeartbeats 800000 in
theorem injWalk (a0 : Int) (a1 : Int) (w0 : (Lit.int .u8 a0).wf = true) (w1 : (Lit.int .u8 a1).wf = true) (w : World) :
    Calls Try.prog 6 #[.int .u8 a0, .int .u8 a1] w fun e w' => e = .returned (.bool true) ∧ Below w.heap.size w w' := by
  obtain ⟨p0, p1⟩ := bounds_u8 w0
  obtain ⟨q0, q1⟩ := bounds_u8 w1
  clear w0 w1
  by_cases he : a0 = a1
  · subst he
    go_enter Try.func6, Try.ntmps6
    go_wp2
    go_ret
    exact ⟨rfl, Below.refl _ _⟩
  · have hne : (a0 == a1) = false := by simpa using he
    have hinj : Hid (esc a0 ≠ esc a1) := fun h => he (esc_inj a0 a1 p0 p1 q0 q1 h)
    clear he
    go_enter Try.func6, Try.ntmps6
    go_wp2_with fail
    refine (zzesc_any (.slice none 0 0) 0 [] w w.heap.size (World.ownsRow_nil _ _ _ _) (by omega) (Nat.le_refl _) a0 p0 p1).mono ?_
    rintro e w1 ⟨v1, rfl, ho1, hg1⟩
    have hb1 := below_of_grown hg1
    simp only [Nat.zero_add, List.nil_append] at ho1
    have hl1 := esc_len a0
    obtain ⟨g1, cap1, rfl, hg1b, hg1s, hn1, hm1, hc1⟩ := own_open ho1 (by omega)
    go_wp2_with fail
    refine (zzesc_any (.slice none 0 0) 0 [] w1 w1.heap.size (World.ownsRow_nil _ _ _ _) (by omega) (Nat.le_refl _) a1 q0 q1).mono ?_
    rintro e w2 ⟨v2, rfl, ho2, hg2⟩
    have hb2 := below_of_grown hg2
    simp only [Nat.zero_add, List.nil_append] at ho2
    have hl2 := esc_len a1
    obtain ⟨g2, cap2, rfl, hg2b, hg2s, hn2, hm2, hc2⟩ := own_open ho2 (by omega)
    have hc1' : ∀ j, j < (esc a0).length → w2.cell? ⟨g1, j, none⟩ = some (.int .u8 ((esc a0).getD j 0)) := fun j hj => (hb2.cell (p := ⟨g1, j, none⟩) hg1s).trans (hc1 j hj)
    have hbb : Below w.heap.size w w2 := hb1.trans (hb2.mono hb1.size)
    have BB : Hid (Below w.heap.size w w2) := hbb
    have C1 : Hid (∀ j, j < (esc a0).length → w2.cell? ⟨g1, j, none⟩ = some (.int .u8 ((esc a0).getD j 0))) := hc1'
    have C2 : Hid (∀ j, j < (esc a1).length → w2.cell? ⟨g2, j, none⟩ = some (.int .u8 ((esc a1).getD j 0))) := hc2
    unfold maxLen at hm1 hm2
    clear ho1 hg1 hb1 ho2 hg2 hb2 hc1 hc2 hc1' hbb
    obtain ⟨E1, hE1⟩ : ∃ E1, E1 = esc a0 := ⟨_, rfl⟩
    obtain ⟨E2, hE2⟩ : ∃ E2, E2 = esc a1 := ⟨_, rfl⟩
    rw [← hE1] at C1 hl1 hn1 hinj ⊢
    rw [← hE2] at C2 hl2 hn2 hinj ⊢
    clear hE1 hE2
    by_cases hlen : E1.length = E2.length
    · have hLb : ((E1.length : Int) != (E2.length : Int)) = false := by simpa using (by omega : (E1.length : Int) = (E2.length : Int))
      have HL : Hid (E1.length = E2.length) := hlen
      have hl12 : E1.length ≤ E2.length := by omega
      clear hlen
      go_wp2
      go_loopw [7] (fun i wr => ∃ k q : Nat, k ≤ E1.length ∧ i = .int .i64 k ∧ wr = w2.drewN q ∧ ∀ j, j < k → E1.getD j 0 = E2.getD j 0) (fun i _ => E1.length - (intOf i).toNat)
      case atStart => exact ⟨0, 0, by omega, rfl, rfl, by omega⟩
      case round =>
        obtain ⟨k, q, hk, rfl, rfl, hsame⟩ := hrel
        by_cases hlt : k < E1.length
        · have c1 := C1.out k hlt
          have c2 := C2.out k (by omega)
          have hlt2 : k < E2.length := by omega
          have HS : Hid (∀ j, j < k → E1.getD j 0 = E2.getD j 0) := hsame
          clear hsame
          obtain ⟨x, hx⟩ : ∃ x, x = E1.getD k 0 := ⟨_, rfl⟩
          obtain ⟨y, hy⟩ : ∃ y, y = E2.getD k 0 := ⟨_, rfl⟩
          rw [← hx] at c1
          rw [← hy] at c2
          have HX : Hid (x = E1.getD k 0 ∧ y = E2.getD k 0) := ⟨hx, hy⟩
          clear hx hy
          by_cases hxy : x = y
          · subst hxy
            go_wp2_with fail
            go_quiet (fail)
            go_wp2
            go_roundw
            case rel =>
              refine ⟨k + 1, q + nq, by omega, by go_num, by simp, fun j hj => ?_⟩
              by_cases e : j = k
              · subst e; rw [← HX.out.1, ← HX.out.2]
              · exact HS.out j (by omega)
            case measure => simp [intOf]; omega
          · have hb : (x != y) = true := by simpa using hxy
            go_wp2_with fail
            go_quiet (fail)
            go_wp2
            go_ret
            exact ⟨rfl, below_drewN (below_drewN BB.out _) _⟩
        · exfalso
          exact hinj.out (list_eq_of_getD E1 E2 HL.out (fun j hj => hsame j (by omega)))
    · have hLb : ((E1.length : Int) != (E2.length : Int)) = true := by simpa using (by omega : ¬ (E1.length : Int) = (E2.length : Int))
      clear hlen
      go_wp2
      go_ret
      exact ⟨rfl, BB.out⟩
end Go.Proofs.Qxb6000049a
