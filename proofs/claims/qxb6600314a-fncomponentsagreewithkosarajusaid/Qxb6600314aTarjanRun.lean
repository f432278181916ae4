import Derived.Test.Qxb6600314aTarjan
namespace Go.Proofs.Qxb6600314a

/-- How many rounds are to come, at most. -/
def left (g : List (List Nat)) : List (Nat × Nat) → Nat
  | [] => 0
  | p :: r => ((rowN g p.1).length - p.2 + 1) + left g r
def mu (g : List (List Nat)) (s : TS) : Nat := (g.length - s.met) * 1048578 + left g s.calls

theorem lowOf_self {g : List (List Nat)} {s : TS} (h : TI g s) {a nx : Nat} {cs : List (Nat × Nat)} (hc : s.calls = (a, nx) :: cs) : (lowOf s a cs).getD a 0 = lO s a := by
  cases cs with
  | nil => rfl
  | cons p cs' =>
    obtain ⟨b, nb⟩ := p
    have hab : oO s b < oO s a := by
      have := h.csorted
      unfold cv at this
      rw [hc] at this
      exact (List.pairwise_cons.1 this).1 b List.mem_cons_self
    have hne : b ≠ a := fun e => by rw [e] at hab; omega
    exact getD_set_ne _ _ _ _ _ hne

theorem TI_step {g : List (List Nat)} (hw : WF g) (hr : ∀ i, (rowN g i).length ≤ 1048576) (hn : g.length ≤ 65536) {s : TS} (h : TI g s) {a nx : Nat} {cs : List (Nat × Nat)} (hc : s.calls = (a, nx) :: cs) :
    ∃ s', Step g s s' ∧ TI g s' ∧ mu g s' < mu g s ∧ ∀ v, oO s v ≠ 0 → oO s' v ≠ 0 := by
  have haC : a ∈ cv s := by unfold cv; rw [hc]; exact List.mem_cons_self
  have haS := h.csub a haC
  have han := (h.inS a haS).1
  have hpa : (a, nx) ∈ s.calls := by rw [hc]; exact List.mem_cons_self
  have hidx : nx ≤ (rowN g a).length := h.idx _ hpa
  have hmn : s.met ≤ g.length := by have := h.cnt; omega
  have hcm := h.cm
  have hfm := h.fm
  have hra := hr a
  rw [hc] at hcm
  simp only [List.length_cons] at hcm
  have top : ∀ q, q ∈ cv s → oO s q ≤ oO s a := by
    intro q hq
    have hs := h.csorted
    have hcv : cv s = a :: cs.map Prod.fst := by unfold cv; rw [hc]; rfl
    rw [hcv] at hs hq
    rw [List.mem_cons] at hq
    rcases hq with rfl | hq
    · exact Nat.le_refl _
    · exact Nat.le_of_lt ((List.pairwise_cons.1 hs).1 q hq)
  have hmu : mu g s = (g.length - s.met) * 1048578 + (((rowN g a).length - nx + 1) + left g cs) := by unfold mu; rw [hc]; rfl
  by_cases hlt : nx < (rowN g a).length
  · obtain ⟨d, hd⟩ : ∃ d, d = (rowN g a).getD nx 0 := ⟨_, rfl⟩
    have hed : Edge g a d := by rw [hd]; exact edge_of_at han hlt
    have hdn := hw a d hed
    have hmapA : ((a, nx + 1) :: cs).map Prod.fst = cv s := by unfold cv; rw [hc]; rfl
    have hidxA : ∀ p, p ∈ (a, nx + 1) :: cs → p.2 ≤ (rowN g p.1).length := by
      intro p hp
      rw [List.mem_cons] at hp
      rcases hp with rfl | hp
      · exact hlt
      · exact h.idx p (by rw [hc]; exact List.mem_cons_of_mem _ hp)
    have hin : ∀ p, p ∈ (a, nx + 1) :: cs → ∀ k, k < p.2 → (rowN g p.1).getD k 0 = d ∧ p.1 = a ∨ (oO s ((rowN g p.1).getD k 0) ≠ 0 ∧ ((rowN g p.1).getD k 0 ∈ s.stack → lO s p.1 ≤ oO s ((rowN g p.1).getD k 0))) := by
      intro p hp k hk
      rw [List.mem_cons] at hp
      rcases hp with rfl | hp
      · by_cases e : k = nx
        · left; subst e; exact ⟨hd.symm, rfl⟩
        · right
          have hk' : k < nx := by have hk2 : k < nx + 1 := hk; omega
          exact ⟨h.proc _ hpa k hk', h.lowP _ hpa k hk'⟩
      · right
        have hp' : p ∈ s.calls := by rw [hc]; exact List.mem_cons_of_mem _ hp
        exact ⟨h.proc p hp' k hk, h.lowP p hp' k hk⟩
    by_cases hd0 : oO s d = 0
    · have hpos : 0 < s.order.count 0 := by
        rw [List.count_pos_iff]
        have hd' : d < s.order.length := by rw [h.lo]; exact hdn
        have e : s.order[d] = 0 := by simpa [oO, List.getD, hd'] using hd0
        rw [← e]
        exact List.getElem_mem hd'
      have hmlt : s.met < g.length := by have := h.cnt; omega
      refine ⟨meetS (adv s a nx cs) d, ⟨a, nx, cs, hc, han, by omega, by omega, Or.inl ⟨hlt, by rw [← hd]; exact hdn, Or.inl ⟨by rw [← hd]; exact hd0, by rw [← hd]; exact ⟨hdn, by omega, by omega, by rw [hc]; simp only [List.length_cons]; omega⟩, by rw [← hd]⟩⟩⟩, ?_, ?_, ?_⟩
      · refine TI_meet h hdn hd0 (fun q hq => (h.down q hq a haS (top q hq)).trans (R.edge hed)) ((a, nx + 1) :: cs) hmapA hidxA (fun p hp k hk => ?_)
        rcases hin p hp k hk with e | e
        · exact .inl e.1
        · exact .inr e
      · have e : mu g (meetS (adv s a nx cs) d) = (g.length - (s.met + 1)) * 1048578 + (((rowN g d).length - 0 + 1) + (((rowN g a).length - (nx + 1) + 1) + left g cs)) := rfl
        have hrd := hr d
        rw [hmu, e]
        have : (g.length - s.met) = (g.length - (s.met + 1)) + 1 := by omega
        rw [this, Nat.add_mul]
        omega
      · intro v hv
        show (s.order.set d (s.met + 1)).getD v 0 ≠ 0
        by_cases e : v = d
        · subst e; exact absurd hd0 hv
        · rw [getD_set_ne _ _ _ _ _ (Ne.symm e)]; exact hv
    · by_cases hon : s.onS.getD d false = true
      · have hdS := (h.on d).1 hon
        obtain ⟨l1, z, z1, z2, z3⟩ := h.lowS a haC
        have t1 : TI g { s with low := s.low.set a (min (lO s a) (oO s d)) } := by
          refine TI_low h haC (Nat.min_le_left _ _) ?_
          by_cases e : lO s a ≤ oO s d
          · exact ⟨z, z1, by rw [Nat.min_eq_left e]; exact z2, z3⟩
          · exact ⟨d, hdS, by rw [Nat.min_eq_right (by omega)], R.edge hed⟩
        have ela : lO { s with low := s.low.set a (min (lO s a) (oO s d)) } a = min (lO s a) (oO s d) := getD_set_self _ _ _ _ (by rw [h.ll]; exact han)
        have t2 := TI_calls t1 ((a, nx + 1) :: cs) hmapA hidxA (fun p hp k hk => by
          rcases hin p hp k hk with e | e
          · rw [e.1, e.2, ela]
            exact ⟨hd0, fun _ => Nat.min_le_right _ _⟩
          · refine ⟨e.1, fun hm => Nat.le_trans ?_ (e.2 hm)⟩
            by_cases e3 : p.1 = a
            · rw [e3, ela]; exact Nat.min_le_left _ _
            · have : lO { s with low := s.low.set a (min (lO s a) (oO s d)) } p.1 = lO s p.1 := getD_set_ne _ _ _ _ _ (Ne.symm e3)
              rw [this]; exact Nat.le_refl _)
        refine ⟨{ adv s a nx cs with low := s.low.set a (min (s.low.getD a 0) (s.order.getD d 0)) }, ⟨a, nx, cs, hc, han, by omega, by omega, Or.inl ⟨hlt, by rw [← hd]; exact hdn, Or.inr (Or.inl ⟨by rw [← hd]; exact hd0, by rw [← hd]; exact hon, by rw [← hd]⟩)⟩⟩, t2, ?_, fun v hv => hv⟩
        have e : mu g { adv s a nx cs with low := s.low.set a (min (s.low.getD a 0) (s.order.getD d 0)) } = (g.length - s.met) * 1048578 + (((rowN g a).length - (nx + 1) + 1) + left g cs) := rfl
        rw [hmu, e]
        omega
      · have hon' : s.onS.getD d false = false := by simpa using hon
        have hdS : d ∉ s.stack := fun hm => hon ((h.on d).2 hm)
        have t2 := TI_calls h ((a, nx + 1) :: cs) hmapA hidxA (fun p hp k hk => by
          rcases hin p hp k hk with e | e
          · rw [e.1]
            exact ⟨hd0, fun hm => absurd hm hdS⟩
          · exact e)
        refine ⟨adv s a nx cs, ⟨a, nx, cs, hc, han, by omega, by omega, Or.inl ⟨hlt, by rw [← hd]; exact hdn, Or.inr (Or.inr ⟨by rw [← hd]; exact hd0, by rw [← hd]; exact hon', rfl⟩)⟩⟩, t2, ?_, fun v hv => hv⟩
        have e : mu g (adv s a nx cs) = (g.length - s.met) * 1048578 + (((rowN g a).length - (nx + 1) + 1) + left g cs) := rfl
        rw [hmu, e]
        omega
  · have hge : (rowN g a).length ≤ nx := by omega
    have hcall : callerOk g.length cs := by
      cases cs with
      | nil => trivial
      | cons p cs' =>
        obtain ⟨b, nb⟩ := p
        exact (h.inS b (h.csub b (by unfold cv; rw [hc]; exact List.mem_cons_of_mem _ List.mem_cons_self))).1
    have hls := lowOf_self h hc
    by_cases heq : lO s a = oO s a
    · obtain ⟨e1, st, o, k, e2, e3⟩ := TI_emit h hc hge heq
      refine ⟨{ s with calls := cs, low := lowOf s a cs, stack := st, onS := o, comp := k, found := s.found + 1 }, ⟨a, nx, cs, hc, han, by omega, by omega, Or.inr ⟨hge, hcall, Or.inr ⟨by rw [hls]; exact heq, by omega, st, o, k, e2, rfl⟩⟩⟩, by rw [e1]; exact e3, ?_, fun v hv => hv⟩
      have e : mu g { s with calls := cs, low := lowOf s a cs, stack := st, onS := o, comp := k, found := s.found + 1 } = (g.length - s.met) * 1048578 + left g cs := rfl
      rw [hmu, e]
      omega
    · obtain ⟨_, e3⟩ := TI_pop h hc hge heq
      refine ⟨{ s with calls := cs, low := lowOf s a cs }, ⟨a, nx, cs, hc, han, by omega, by omega, Or.inr ⟨hge, hcall, Or.inl ⟨by rw [hls]; exact heq, rfl⟩⟩⟩, e3, ?_, fun v hv => hv⟩
      have e : mu g { s with calls := cs, low := lowOf s a cs } = (g.length - s.met) * 1048578 + left g cs := rfl
      rw [hmu, e]
      omega

theorem TI_inner {g : List (List Nat)} (hw : WF g) (hr : ∀ i, (rowN g i).length ≤ 1048576) (hn : g.length ≤ 65536) :
    ∀ m s, mu g s ≤ m → TI g s → ∃ k s', Inner g k s s' ∧ TI g s' ∧ s'.calls = [] ∧ ∀ v, oO s v ≠ 0 → oO s' v ≠ 0 := by
  intro m
  induction m with
  | zero =>
    intro s hm h
    cases hc : s.calls with
    | nil => exact ⟨0, s, ⟨hc, rfl⟩, h, hc, fun _ hv => hv⟩
    | cons p cs =>
      obtain ⟨a, nx⟩ := p
      obtain ⟨s', _, _, h3, _⟩ := TI_step hw hr hn h hc
      omega
  | succ m ih =>
    intro s hm h
    cases hc : s.calls with
    | nil => exact ⟨0, s, ⟨hc, rfl⟩, h, hc, fun _ hv => hv⟩
    | cons p cs =>
      obtain ⟨a, nx⟩ := p
      obtain ⟨s1, h1, h2, h3, h4⟩ := TI_step hw hr hn h hc
      obtain ⟨k, s', k1, k2, k3, k4⟩ := ih s1 (by omega) h2
      exact ⟨k + 1, s', ⟨s1, h1, k1⟩, k2, k3, fun v hv => k4 v (h4 v hv)⟩

theorem TI_outer {g : List (List Nat)} (hw : WF g) (hr : ∀ i, (rowN g i).length ≤ 1048576) (hn : g.length ≤ 65536) :
    ∀ j r s, r + j = g.length → TI g s → s.calls = [] → (∀ v, v < r → oO s v ≠ 0) → ∃ fin, Outer g j r s fin ∧ TI g fin ∧ fin.calls = [] ∧ ∀ v, v < g.length → oO fin v ≠ 0 := by
  intro j
  induction j with
  | zero =>
    intro r s hrj h hc hv
    exact ⟨s, rfl, h, hc, fun v hv' => hv v (by omega)⟩
  | succ j ih =>
    intro r s hrj h hc hv
    by_cases h0 : oO s r = 0
    · have hrn : r < g.length := by omega
      have hcv : cv s = [] := by unfold cv; rw [hc]; rfl
      have hst : s.stack = [] := by
        cases hs : s.stack with
        | nil => rfl
        | cons x t =>
          obtain ⟨q, h1, _⟩ := h.up x (by rw [hs]; exact List.mem_cons_self)
          rw [hcv] at h1
          cases h1
      have hmn : s.met ≤ g.length := by have := h.cnt; omega
      have t1 : TI g (meetS s r) := by
        have := TI_meet h hrn h0 (fun a ha => by rw [hcv] at ha; cases ha) [] (by rw [hcv]; rfl) (fun p hp => by cases hp) (fun p hp => by cases hp)
        have e : meetS s r = { s with met := s.met + 1, order := s.order.set r (s.met + 1), low := s.low.set r (s.met + 1), stack := r :: s.stack, onS := s.onS.set r true, calls := [(r, 0)] } := by unfold meetS; rw [hc]
        rw [e]; exact this
      obtain ⟨k, m, k1, k2, k3, k4⟩ := TI_inner hw hr hn _ (meetS s r) (Nat.le_refl _) t1
      have hord : ∀ v, v < r + 1 → oO m v ≠ 0 := by
        intro v hv'
        apply k4
        show (s.order.set r (s.met + 1)).getD v 0 ≠ 0
        by_cases e : v = r
        · subst e; rw [getD_set_self _ _ _ _ (by rw [h.lo]; exact hrn)]; omega
        · rw [getD_set_ne _ _ _ _ _ (Ne.symm e)]; exact hv v (by omega)
      obtain ⟨fin, f1, f2, f3, f4⟩ := ih (r + 1) m (by omega) k2 k3 hord
      exact ⟨fin, Or.inr ⟨h0, ⟨hrn, by omega, by rw [hst]; simp, by rw [hc]; simp⟩, k, m, k1, f1⟩, f2, f3, f4⟩
    · have hord : ∀ v, v < r + 1 → oO s v ≠ 0 := by
        intro v hv'
        by_cases e : v = r
        · subst e; exact h0
        · exact hv v (by omega)
      obtain ⟨fin, f1, f2, f3, f4⟩ := ih (r + 1) s (by omega) h hc hord
      exact ⟨fin, Or.inl ⟨h0, f1⟩, f2, f3, f4⟩

theorem startS_o (n v : Nat) : oO (startS n) v = 0 := by
  simp only [oO, startS, List.getD, List.getElem?_replicate]
  split <;> rfl

theorem TI_start (g : List (List Nat)) : TI g (startS g.length) := by
  have ho := startS_o g.length
  have hc : cv (startS g.length) = [] := rfl
  refine ⟨by simp [startS], by simp [startS], by simp [startS], by simp [startS], ?_, List.Pairwise.nil, ?_, ?_, ?_, ?_, List.Pairwise.nil, ?_, ?_, ?_, ?_, ?_, ?_, ?_, ?_, ?_, ?_, ?_, ?_, ?_⟩
  · intro v
    have : (startS g.length).onS.getD v false = false := by
      simp only [startS, List.getD, List.getElem?_replicate]
      split <;> rfl
    rw [this]
    exact ⟨(fun hh => by cases hh), fun hh => by cases hh⟩
  · intro v hv; cases hv
  · intro v; rw [ho]; exact Nat.zero_le _
  · intro a ha; rw [hc] at ha; cases ha
  · intro p hp; cases hp
  · intro p hp; cases hp
  · intro v hv; exact absurd (ho v) hv
  · intro v hv; exact absurd (ho v) hv
  · intro u v hu; exact absurd (ho u) hu
  · intro k hk; exact absurd hk (by simp [startS])
  · intro a ha; rw [hc] at ha; cases ha
  · intro y hy; cases hy
  · intro a ha; rw [hc] at ha; cases ha
  · intro p hp; cases hp
  · intro a ha; rw [hc] at ha; cases ha
  · simp [startS]
  · simp [startS]
  · simp [startS]

/-- What 'components' answers: the strongly connected components, each numbered not below what it leads to. -/
structure CompOK (g : List (List Nat)) (fin : TS) : Prop where
  len : fin.comp.length = g.length
  found : fin.found ≤ g.length
  lt : ∀ v, v < g.length → cO fin v < fin.found
  used : ∀ k, k < fin.found → ∃ v, v < g.length ∧ cO fin v = k
  same : ∀ u v, u < g.length → v < g.length → (cO fin u = cO fin v ↔ R g u v ∧ R g v u)
  edge : ∀ u v, Edge g u v → cO fin v ≤ cO fin u

theorem tarjan (g : List (List Nat)) (hw : WF g) (hr : ∀ i, (rowN g i).length ≤ 1048576) (hn : g.length ≤ 65536) :
    ∃ fin, Outer g g.length 0 (startS g.length) fin ∧ CompOK g fin := by
  obtain ⟨fin, f1, f2, f3, f4⟩ := TI_outer hw hr hn g.length 0 (startS g.length) (by omega) (TI_start g) rfl (by omega)
  have hst : ∀ v, v ∉ fin.stack := by
    intro v hv
    obtain ⟨q, h1, _⟩ := f2.up v hv
    unfold cv at h1
    rw [f3] at h1
    cases h1
  refine ⟨fin, f1, f2.lc, ?_, fun v hv => (f2.asg v (f4 v hv) (hst v)).1, fun k hk => ?_, fun u v hu hv => f2.asgEq u v (f4 u hu) (hst u) (f4 v hv) (hst v), fun u v he => ((f2.asg u (f4 u he.1) (hst u)).2 v he).2.2⟩
  · have h1 := f2.fm
    have h2 := f2.cnt
    omega
  · obtain ⟨v, h1, _, _, h4⟩ := f2.used k hk
    exact ⟨v, h1, h4⟩
end Go.Proofs.Qxb6600314a
