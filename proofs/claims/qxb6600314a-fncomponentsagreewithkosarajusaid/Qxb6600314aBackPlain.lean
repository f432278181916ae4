import Derived.Test.Qxb6600314aPlain
namespace Go.Proofs.Qxb6600314a

/-- Every position depends only on earlier ones. -/
def Back (g : List (List Nat)) : Prop := ∀ i k, i < g.length → k < (rowN g i).length → (rowN g i).getD k 0 < i

/-- The state ahead of root r. -/
structure BS (n r : Nat) (s : TS) : Prop where
  lo : s.order.length = n
  ll : s.low.length = n
  ls : s.onS.length = n
  lc : s.comp.length = n
  old : ∀ j, j < r → s.order.getD j 0 ≠ 0
  new : ∀ j, r ≤ j → j < n → s.order.getD j 0 = 0
  off : ∀ j, s.onS.getD j false = false
  comp : ∀ j, j < r → s.comp.getD j 0 = j
  stack : s.stack = []
  calls : s.calls = []
  met : s.met = r
  found : s.found = r

theorem getD_set_self {α : Type} (l : List α) (i : Nat) (x d : α) (h : i < l.length) : (l.set i x).getD i d = x := by
  simp [List.getD, h]
theorem getD_set_ne {α : Type} (l : List α) (i j : Nat) (x d : α) (h : i ≠ j) : (l.set i x).getD j d = l.getD j d := by
  simp [List.getD, List.getElem?_set_ne h]

theorem back_inner (g : List (List Nat)) (hg : Back g) (hr : ∀ i, (rowN g i).length ≤ 1048576) (r : Nat) (hrn : r < g.length) (hn : g.length ≤ 65536) (s : TS) (hs : BS g.length r s) :
    ∃ fin, BS g.length (r + 1) fin ∧ ∀ k nx, nx + k = (rowN g r).length → Inner g (k + 1) { meetS s r with calls := [(r, nx)] } fin := by
  refine ⟨{ meetS s r with calls := [], stack := [], onS := (s.onS.set r true).set r false, comp := s.comp.set r s.found, found := s.found + 1 }, ?_, ?_⟩
  · refine ⟨by simp [meetS, hs.lo], by simp [meetS, hs.ll], by simp [hs.ls], by simp [hs.lc], ?_, ?_, ?_, ?_, rfl, rfl, by simp [meetS, hs.met], by simp [hs.found]⟩
    · intro j hj
      simp only [meetS]
      by_cases e : r = j
      · subst e; rw [getD_set_self _ _ _ _ (by rw [hs.lo]; exact hrn)]; omega
      · rw [getD_set_ne _ _ _ _ _ e]; exact hs.old j (by omega)
    · intro j h1 h2
      simp only [meetS]
      rw [getD_set_ne _ _ _ _ _ (by omega)]
      exact hs.new j (by omega) h2
    · intro j
      by_cases e : r = j
      · subst e; rw [getD_set_self _ _ _ _ (by simp [hs.ls]; exact hrn)]
      · rw [getD_set_ne _ _ _ _ _ e, getD_set_ne _ _ _ _ _ e]; exact hs.off j
    · intro j hj
      by_cases e : r = j
      · subst e; rw [getD_set_self _ _ _ _ (by rw [hs.lc]; exact hrn)]; exact hs.found
      · rw [getD_set_ne _ _ _ _ _ e]; exact hs.comp j (by omega)
  · intro k
    induction k with
    | zero =>
      intro nx hnx
      refine ⟨_, ⟨r, nx, [], rfl, hrn, by have := hr r; omega, by simp, Or.inr ⟨by omega, trivial, Or.inr ⟨?_, ?_, [], (s.onS.set r true).set r false, s.comp.set r s.found, ?_, rfl⟩⟩⟩, rfl, rfl⟩
      · simp only [lowOf, meetS]
        rw [getD_set_self _ _ _ _ (by rw [hs.ll]; exact hrn), getD_set_self _ _ _ _ (by rw [hs.lo]; exact hrn)]
      · simp only [meetS, hs.found]; omega
      · simp [meetS, popTo, hrn, hs.stack]
    | succ k ih =>
      intro nx hnx
      have hlt : nx < (rowN g r).length := by omega
      have hd := hg r nx hrn hlt
      refine ⟨{ meetS s r with calls := [(r, nx + 1)] }, ⟨r, nx, [], rfl, hrn, by have := hr r; omega, by simp, Or.inl ⟨hlt, by omega, Or.inr (Or.inr ⟨?_, ?_, rfl⟩)⟩⟩, ih (nx + 1) (by omega)⟩
      · simp only [meetS]
        rw [getD_set_ne _ _ _ _ _ (by omega)]
        exact hs.old _ hd
      · simp only [meetS]
        rw [getD_set_ne _ _ _ _ _ (by omega)]
        exact hs.off _

theorem back_outer (g : List (List Nat)) (hg : Back g) (hr : ∀ i, (rowN g i).length ≤ 1048576) (hn : g.length ≤ 65536) :
    ∀ j r s, r + j = g.length → BS g.length r s → ∃ fin, BS g.length g.length fin ∧ Outer g j r s fin := by
  intro j
  induction j with
  | zero =>
    intro r s h hs
    have e : r = g.length := by omega
    exact ⟨s, by rw [← e] at hs ⊢; exact hs, rfl⟩
  | succ j ih =>
    intro r s h hs
    obtain ⟨m, hm, hin⟩ := back_inner g hg hr r (by omega) hn s hs
    obtain ⟨fin, hf, ho⟩ := ih (r + 1) m (by omega) hm
    refine ⟨fin, hf, Or.inr ⟨hs.new r (Nat.le_refl _) (by omega), ⟨by omega, by rw [hs.met]; omega, by rw [hs.stack]; simp, by rw [hs.calls]; simp⟩, (rowN g r).length + 1, m, ?_, ho⟩⟩
    have := hin (rowN g r).length 0 (by omega)
    have e : { meetS s r with calls := [(r, 0)] } = meetS s r := by simp [meetS, hs.calls]
    rwa [e] at this

theorem back_start (n : Nat) : BS n 0 (startS n) := by
  refine ⟨by simp [startS], by simp [startS], by simp [startS], by simp [startS], by omega, ?_, ?_, by omega, rfl, rfl, rfl, rfl⟩
  · intro j _ hj
    simp [startS, List.getD, hj]
  · intro j
    simp only [startS, List.getD, List.getElem?_replicate]
    split <;> rfl

theorem back_all (g : List (List Nat)) (hg : Back g) (hr : ∀ i, (rowN g i).length ≤ 1048576) (hn : g.length ≤ 65536) :
    ∃ fin, BS g.length g.length fin ∧ Outer g g.length 0 (startS g.length) fin :=
  back_outer g hg hr hn g.length 0 _ (by omega) (back_start _)
end Go.Proofs.Qxb6600314a
