import Derived.Test.Qxb6600314aBackPlain
namespace Go.Proofs.Qxb6600314a

/-- v is among the dependencies of u. -/
def Edge (g : List (List Nat)) (u v : Nat) : Prop := u < g.length ∧ v ∈ rowN g u
def WF (g : List (List Nat)) : Prop := ∀ u v, Edge g u v → v < g.length

def Path (g : List (List Nat)) : Nat → Nat → Nat → Prop
  | 0, u, v => u = v
  | k + 1, u, v => ∃ m, Edge g u m ∧ Path g k m v
/-- u leads to v. -/
def R (g : List (List Nat)) (u v : Nat) : Prop := ∃ k, Path g k u v

theorem R.refl (g : List (List Nat)) (u : Nat) : R g u u := ⟨0, rfl⟩
theorem R.edge {g : List (List Nat)} {u v : Nat} (h : Edge g u v) : R g u v := ⟨1, v, h, rfl⟩
theorem Path.trans {g : List (List Nat)} : ∀ (k : Nat) {j u v w : Nat}, Path g k u v → Path g j v w → Path g (k + j) u w := by
  intro k
  induction k with
  | zero => intro j u v w h1 h2; have e : u = v := h1; subst e; rw [Nat.zero_add]; exact h2
  | succ k ih =>
    intro j u v w h1 h2
    obtain ⟨m, he, hp⟩ := h1
    rw [Nat.succ_add]
    exact ⟨m, he, ih hp h2⟩
theorem R.trans {g : List (List Nat)} {u v w : Nat} (h1 : R g u v) (h2 : R g v w) : R g u w := by
  obtain ⟨k, hk⟩ := h1
  obtain ⟨j, hj⟩ := h2
  exact ⟨k + j, Path.trans k hk hj⟩

/-- A set that no edge leaves, no path leaves. -/
theorem R.closed {g : List (List Nat)} {S : Nat → Prop} (hS : ∀ u v, S u → Edge g u v → S v) {u v : Nat} (h : R g u v) (hu : S u) : S v := by
  obtain ⟨k, hk⟩ := h
  have key : ∀ (k u : Nat), Path g k u v → S u → S v := by
    intro k
    induction k with
    | zero => intro u hk hu; have e : u = v := hk; subst e; exact hu
    | succ k ih =>
      intro u hk hu
      obtain ⟨m, he, hp⟩ := hk
      exact ih m hp (hS u m hu he)
  exact key k u hk hu

theorem edge_of_at {g : List (List Nat)} {u k : Nat} (hu : u < g.length) (hk : k < (rowN g u).length) : Edge g u ((rowN g u).getD k 0) := by
  refine ⟨hu, ?_⟩
  simp only [List.getD, List.getElem?_eq_getElem hk, Option.getD_some]
  exact List.getElem_mem hk
theorem at_of_edge {g : List (List Nat)} {u v : Nat} (h : Edge g u v) : ∃ k, k < (rowN g u).length ∧ (rowN g u).getD k 0 = v := by
  obtain ⟨k, hk, e⟩ := List.getElem_of_mem h.2
  exact ⟨k, hk, by simp [List.getD, hk, e]⟩

theorem getD_out {α : Type} (l : List α) (i : Nat) (d : α) (h : l.length ≤ i) : l.getD i d = d := by
  simp [List.getD, List.getElem?_eq_none h]

theorem count_set_ne {l : List Nat} {i x y : Nat} (h : i < l.length) (hx : l.getD i 0 = x) (hy : y ≠ x) : (l.set i y).count x + 1 = l.count x := by
  have hx' : l[i] = x := by simpa [List.getD, h] using hx
  rw [List.count_set h]
  have hpos : 0 < l.count x := by
    rw [List.count_pos_iff]
    rw [← hx']
    exact List.getElem_mem h
  simp [hx', hy]
  omega
end Go.Proofs.Qxb6600314a
