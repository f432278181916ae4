import Derived.Test.Qxb6600314aGraphWalk
import Derived.Deep.Matrix
namespace Go.Proofs.Qxb6600314a
open Go.RowKit

theorem add_none {b o : Nat} (i : Nat) : ((⟨b, o, none⟩ : Addr).add i) = ⟨b, o + i, none⟩ := by cases i <;> simp [Addr.add]

/-- An argument '[][]int', opened by the kit's law, is a graph in memory. -/
theorem gat_of_rows (w : World) (a : Addr) (len cap : Nat) (A : Nat → Option Addr) (L C : Nat → Nat) (Z : Nat → List Int) (hl : len ≤ cap)
    (h : ∀ r, r < cap → w.cell? (a.add r) = some (.slice (A r) (L r) (C r)) ∧ L r ≤ C r ∧ C r ≤ maxLen ∧ (Z r).length = C r ∧ (∀ n ∈ Z r, (Lit.int .i64 n).wf = true) ∧ (A r = none → C r = 0) ∧
        ∀ a', A r = some a' → 0 ≤ a'.block ∧ ∀ c, c < C r → w.cell? (a'.add c) = some (.int .i64 ((Z r).getD c 0))) :
    ∃ g : List (List Int), g.length = len ∧ GAt w w.heap.size (some a) g := by
  refine ⟨(List.range len).map fun r => (Z r).take (L r), by simp, ?_, ?_⟩
  · intro i
    simp only [rw', List.getD, List.getElem?_map]
    by_cases hi : i < len
    · have := h i (by omega)
      simp [List.getElem?_range hi]
      omega
    · simp [List.getElem?_eq_none (by simp; omega : (List.range len).length ≤ i)]
  · intro i hi
    have hi' : i < len := by simpa using hi
    have er : rw' ((List.range len).map fun r => (Z r).take (L r)) i = (Z i).take (L i) := by
      simp [rw', List.getD, List.getElem?_range hi']
    obtain ⟨h1, h2, h3, h4, h5, h6, h7⟩ := h i (by omega)
    obtain ⟨b, o, spot⟩ := a
    have hs : spot = none := by simpa [Addr.add] using World.cell?_spot (h 0 (by omega)).1
    subst hs
    rw [add_none] at h1
    have el : ((Z i).take (L i)).length = L i := by simp; omega
    refine ⟨b, o, A i, C i, rfl, World.block_lt_of_cell? w _ h1, by rw [er, el]; exact h1, h6, h3, by rw [er, el]; exact h2, fun k hk => ?_⟩
    rw [er, el] at hk
    cases ha : A i with
    | none => have := h6 ha; omega
    | some x =>
      obtain ⟨_, hc⟩ := h7 x ha
      obtain ⟨b', o', spot'⟩ := x
      have hs' : spot' = none := by simpa [Addr.add] using World.cell?_spot (hc 0 (by omega))
      subst hs'
      have hck := hc k (by omega)
      rw [add_none] at hck
      refine ⟨b', o', rfl, World.block_lt_of_cell? w _ hck, ?_⟩
      rw [er, hck]
      simp [List.getD, hk]
end Go.Proofs.Qxb6600314a
