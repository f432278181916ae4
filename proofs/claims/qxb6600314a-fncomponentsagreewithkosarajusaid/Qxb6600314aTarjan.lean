import Derived.Test.Qxb6600314aReach
namespace Go.Proofs.Qxb6600314a

def oO (s : TS) (v : Nat) : Nat := s.order.getD v 0
def lO (s : TS) (v : Nat) : Nat := s.low.getD v 0
def cO (s : TS) (v : Nat) : Nat := s.comp.getD v 0
/-- The positions that are being walked, the topmost first. -/
def cv (s : TS) : List Nat := s.calls.map Prod.fst

/-- What holds at the head of every round of 'components'' inner loop. -/
structure TI (g : List (List Nat)) (s : TS) : Prop where
  lo : s.order.length = g.length
  ll : s.low.length = g.length
  ls : s.onS.length = g.length
  lc : s.comp.length = g.length
  on : ∀ v, s.onS.getD v false = true ↔ v ∈ s.stack
  sorted : s.stack.Pairwise (fun x y => oO s y < oO s x)
  inS : ∀ v, v ∈ s.stack → v < g.length ∧ oO s v ≠ 0
  ordLe : ∀ v, oO s v ≤ s.met
  csub : ∀ a, a ∈ cv s → a ∈ s.stack
  idx : ∀ p, p ∈ s.calls → p.2 ≤ (rowN g p.1).length
  csorted : (cv s).Pairwise (fun x y => oO s y < oO s x)
  proc : ∀ p, p ∈ s.calls → ∀ k, k < p.2 → oO s ((rowN g p.1).getD k 0) ≠ 0
  black : ∀ v, oO s v ≠ 0 → v ∉ cv s → ∀ y, Edge g v y → oO s y ≠ 0
  asg : ∀ v, oO s v ≠ 0 → v ∉ s.stack → cO s v < s.found ∧ ∀ y, Edge g v y → y ∉ s.stack ∧ oO s y ≠ 0 ∧ cO s y ≤ cO s v
  asgEq : ∀ u v, oO s u ≠ 0 → u ∉ s.stack → oO s v ≠ 0 → v ∉ s.stack → (cO s u = cO s v ↔ R g u v ∧ R g v u)
  used : ∀ k, k < s.found → ∃ v, v < g.length ∧ oO s v ≠ 0 ∧ v ∉ s.stack ∧ cO s v = k
  down : ∀ a, a ∈ cv s → ∀ y, y ∈ s.stack → oO s a ≤ oO s y → R g a y
  up : ∀ y, y ∈ s.stack → ∃ a, a ∈ cv s ∧ oO s a ≤ oO s y ∧ R g y a
  lowS : ∀ a, a ∈ cv s → lO s a ≤ oO s a ∧ ∃ z, z ∈ s.stack ∧ oO s z = lO s a ∧ R g a z
  lowP : ∀ p, p ∈ s.calls → ∀ k, k < p.2 → (rowN g p.1).getD k 0 ∈ s.stack → lO s p.1 ≤ oO s ((rowN g p.1).getD k 0)
  lowB : ∀ a, a ∈ cv s → ∀ x, x ∈ s.stack → x ∉ cv s → oO s a < oO s x → (∀ q, q ∈ cv s → oO s a < oO s q → oO s x < oO s q) → ∀ y, Edge g x y → y ∈ s.stack → lO s a ≤ oO s y
  cnt : s.order.count 0 + s.met = g.length
  cm : s.calls.length ≤ s.met
  fm : s.found + s.stack.length ≤ s.met

theorem mem_cv {s : TS} {p : Nat × Nat} (h : p ∈ s.calls) : p.1 ∈ cv s := List.mem_map_of_mem h

/-- Meeting a new position. -/
theorem TI_meet {g : List (List Nat)} {s : TS} (h : TI g s) {d : Nat} (hd : d < g.length) (hd0 : oO s d = 0) (hr : ∀ a, a ∈ cv s → R g a d) (calls' : List (Nat × Nat)) (hmap : calls'.map Prod.fst = cv s)
    (hidx : ∀ p, p ∈ calls' → p.2 ≤ (rowN g p.1).length)
    (hproc : ∀ p, p ∈ calls' → ∀ k, k < p.2 → (rowN g p.1).getD k 0 = d ∨ (oO s ((rowN g p.1).getD k 0) ≠ 0 ∧ ((rowN g p.1).getD k 0 ∈ s.stack → lO s p.1 ≤ oO s ((rowN g p.1).getD k 0)))) :
    TI g { s with met := s.met + 1, order := s.order.set d (s.met + 1), low := s.low.set d (s.met + 1), stack := d :: s.stack, onS := s.onS.set d true, calls := (d, 0) :: calls' } := by
  obtain ⟨s', hs'⟩ : ∃ s', s' = ({ s with met := s.met + 1, order := s.order.set d (s.met + 1), low := s.low.set d (s.met + 1), stack := d :: s.stack, onS := s.onS.set d true, calls := (d, 0) :: calls' } : TS) := ⟨_, rfl⟩
  have hod : oO s' d = s.met + 1 := by rw [hs']; exact getD_set_self _ _ _ _ (by rw [h.lo]; exact hd)
  have hoe : ∀ v, v ≠ d → oO s' v = oO s v := fun v hv => by rw [hs']; exact getD_set_ne _ _ _ _ _ (Ne.symm hv)
  have hld : lO s' d = s.met + 1 := by rw [hs']; exact getD_set_self _ _ _ _ (by rw [h.ll]; exact hd)
  have hle : ∀ v, v ≠ d → lO s' v = lO s v := fun v hv => by rw [hs']; exact getD_set_ne _ _ _ _ _ (Ne.symm hv)
  have hce : ∀ v, cO s' v = cO s v := fun v => by rw [hs']; rfl
  have hst : s'.stack = d :: s.stack := by rw [hs']
  have hcl : s'.calls = (d, 0) :: calls' := by rw [hs']
  have hcv : cv s' = d :: cv s := by unfold cv; rw [hcl, List.map_cons, hmap]; rfl
  have hdS : d ∉ s.stack := fun hm => (h.inS d hm).2 hd0
  have hdC : d ∉ cv s := fun hm => hdS (h.csub d hm)
  have neS : ∀ v, v ∈ s.stack → v ≠ d := fun v hv e => hdS (e ▸ hv)
  have neC : ∀ v, v ∈ cv s → v ≠ d := fun v hv e => hdC (e ▸ hv)
  have hop : ∀ v, oO s v ≠ 0 → oO s' v ≠ 0 := by
    intro v hv
    by_cases e : v = d
    · subst e; rw [hod]; omega
    · rw [hoe v e]; exact hv
  have hfd : s'.found = s.found := by rw [hs']
  have hmt : s'.met = s.met + 1 := by rw [hs']
  have old : ∀ v, oO s' v ≠ 0 → v ≠ d → oO s v ≠ 0 := fun v hv e => by rw [← hoe v e]; exact hv
  have mem1 : ∀ p, p ∈ calls' → p.1 ∈ cv s := fun p hp => by rw [← hmap]; exact List.mem_map_of_mem hp
  rw [← hs']
  refine ⟨by rw [hs']; simpa using h.lo, by rw [hs']; simpa using h.ll, by rw [hs']; simpa using h.ls, by rw [hs']; exact h.lc, ?_, ?_, ?_, ?_, ?_, ?_, ?_, ?_, ?_, ?_, ?_, ?_, ?_, ?_, ?_, ?_, ?_, ?_, ?_, ?_⟩
  · intro v
    rw [hst, List.mem_cons]
    by_cases e : v = d
    · subst e
      have : s'.onS.getD v false = true := by rw [hs']; exact getD_set_self _ _ _ _ (by rw [h.ls]; exact hd)
      exact ⟨fun _ => .inl rfl, fun _ => this⟩
    · have : s'.onS.getD v false = s.onS.getD v false := by rw [hs']; exact getD_set_ne _ _ _ _ _ (Ne.symm e)
      rw [this, h.on]
      simp [e]
  · rw [hst, List.pairwise_cons]
    refine ⟨fun y hy => ?_, h.sorted.imp_of_mem fun {a b} ha hb hab => ?_⟩
    · rw [hod, hoe y (neS y hy)]; have := h.ordLe y; omega
    · rw [hoe a (neS a ha), hoe b (neS b hb)]; exact hab
  · intro v hv
    rw [hst, List.mem_cons] at hv
    rcases hv with rfl | hv
    · exact ⟨hd, by rw [hod]; omega⟩
    · exact ⟨(h.inS v hv).1, hop v (h.inS v hv).2⟩
  · intro v
    rw [hmt]
    by_cases e : v = d
    · subst e; rw [hod]; omega
    · rw [hoe v e]; have := h.ordLe v; omega
  · intro a ha
    rw [hcv, List.mem_cons] at ha
    rw [hst, List.mem_cons]
    rcases ha with rfl | ha
    · exact .inl rfl
    · exact .inr (h.csub a ha)
  · intro p hp
    rw [hcl, List.mem_cons] at hp
    rcases hp with rfl | hp
    · exact Nat.zero_le _
    · exact hidx p hp
  · rw [hcv, List.pairwise_cons]
    refine ⟨fun y hy => ?_, h.csorted.imp_of_mem fun {a b} ha hb hab => ?_⟩
    · rw [hod, hoe y (neC y hy)]; have := h.ordLe y; omega
    · rw [hoe a (neC a ha), hoe b (neC b hb)]; exact hab
  · intro p hp k hk
    rw [hcl, List.mem_cons] at hp
    rcases hp with rfl | hp
    · exact absurd hk (by simp)
    · rcases hproc p hp k hk with e | ⟨e, _⟩
      · rw [e, hod]; omega
      · exact hop _ e
  · intro v hv hvc y he
    rw [hcv, List.mem_cons, not_or] at hvc
    exact hop y (h.black v (old v hv hvc.1) hvc.2 y he)
  · intro v hv hvs
    rw [hst, List.mem_cons, not_or] at hvs
    obtain ⟨h1, h2⟩ := h.asg v (old v hv hvs.1) hvs.2
    refine ⟨by rw [hce, hfd]; exact h1, fun y he => ?_⟩
    obtain ⟨k1, k2, k3⟩ := h2 y he
    have hyd : y ≠ d := fun e => k2 (e ▸ hd0)
    refine ⟨by rw [hst, List.mem_cons, not_or]; exact ⟨hyd, k1⟩, hop y k2, by rw [hce, hce]; exact k3⟩
  · intro u v hu hus hv hvs
    rw [hst, List.mem_cons, not_or] at hus hvs
    rw [hce, hce]
    exact h.asgEq u v (old u hu hus.1) hus.2 (old v hv hvs.1) hvs.2
  · intro k hk
    rw [hfd] at hk
    obtain ⟨v, h1, h2, h3, h4⟩ := h.used k hk
    have hvd : v ≠ d := fun e => h2 (e ▸ hd0)
    exact ⟨v, h1, hop v h2, by rw [hst, List.mem_cons, not_or]; exact ⟨hvd, h3⟩, by rw [hce]; exact h4⟩
  · intro a ha y hy hay
    rw [hcv, List.mem_cons] at ha
    rw [hst, List.mem_cons] at hy
    rcases ha with rfl | ha
    · rcases hy with rfl | hy
      · exact R.refl _ _
      · rw [hod, hoe y (neS y hy)] at hay
        have := h.ordLe y; omega
    · rcases hy with rfl | hy
      · exact hr a ha
      · rw [hoe a (neC a ha), hoe y (neS y hy)] at hay
        exact h.down a ha y hy hay
  · intro y hy
    rw [hst, List.mem_cons] at hy
    rw [hcv]
    rcases hy with rfl | hy
    · exact ⟨y, List.mem_cons_self, Nat.le_refl _, R.refl _ _⟩
    · obtain ⟨a, h1, h2, h3⟩ := h.up y hy
      exact ⟨a, List.mem_cons_of_mem _ h1, by rw [hoe a (neC a h1), hoe y (neS y hy)]; exact h2, h3⟩
  · intro a ha
    rw [hcv, List.mem_cons] at ha
    rw [hst]
    rcases ha with rfl | ha
    · exact ⟨by rw [hld, hod]; exact Nat.le_refl _, a, List.mem_cons_self, by rw [hld, hod], R.refl _ _⟩
    · obtain ⟨h1, z, h2, h3, h4⟩ := h.lowS a ha
      exact ⟨by rw [hle a (neC a ha), hoe a (neC a ha)]; exact h1, z, List.mem_cons_of_mem _ h2, by rw [hoe z (neS z h2), hle a (neC a ha)]; exact h3, h4⟩
  · intro p hp k hk hm
    rw [hcl, List.mem_cons] at hp
    rcases hp with rfl | hp
    · exact absurd hk (by simp)
    · have hpc := mem1 p hp
      rw [hle p.1 (neC _ hpc)]
      by_cases e : (rowN g p.1).getD k 0 = d
      · rw [e, hod]
        have h1 := (h.lowS p.1 hpc).1
        have h2 := h.ordLe p.1
        omega
      · rw [hst, List.mem_cons] at hm
        rcases hm with hm | hm
        · exact absurd hm e
        · rcases hproc p hp k hk with e' | ⟨_, e'⟩
          · exact absurd e' e
          · rw [hoe _ e]; exact e' hm
  · intro a ha x hx hxc hax hq y he hy
    rw [hcv, List.mem_cons] at ha
    rw [hst, List.mem_cons] at hx hy
    rw [hcv, List.mem_cons, not_or] at hxc
    rcases hx with rfl | hx
    · exact absurd rfl hxc.1
    · rcases ha with rfl | ha
      · rw [hod, hoe x (neS x hx)] at hax
        have := h.ordLe x; omega
      · rw [hle a (neC a ha)]
        rcases hy with rfl | hy
        · rw [hod]
          have h1 := (h.lowS a ha).1
          have h2 := h.ordLe a
          omega
        · rw [hoe y (neS y hy)]
          rw [hoe a (neC a ha), hoe x (neS x hx)] at hax
          refine h.lowB a ha x hx hxc.2 hax (fun q hq1 hq2 => ?_) y he hy
          have := hq q (by rw [hcv]; exact List.mem_cons_of_mem _ hq1) (by rw [hoe a (neC a ha), hoe q (neC q hq1)]; exact hq2)
          rwa [hoe x (neS x hx), hoe q (neC q hq1)] at this
  · have := count_set_ne (l := s.order) (i := d) (x := 0) (y := s.met + 1) (by rw [h.lo]; exact hd) hd0 (by omega)
    have h2 := h.cnt
    rw [hs']
    simp only
    omega
  · have : calls'.length = s.calls.length := by have := congrArg List.length hmap; simpa [cv] using this
    have h2 := h.cm
    rw [hcl, hmt]
    simp only [List.length_cons]
    omega
  · rw [hst, hfd, hmt]
    have := h.fm
    simp only [List.length_cons]
    omega

/-- The calls' indices go on: the positions stay. -/
theorem TI_calls {g : List (List Nat)} {s : TS} (h : TI g s) (calls' : List (Nat × Nat)) (hmap : calls'.map Prod.fst = cv s) (hidx : ∀ p, p ∈ calls' → p.2 ≤ (rowN g p.1).length)
    (hproc : ∀ p, p ∈ calls' → ∀ k, k < p.2 → oO s ((rowN g p.1).getD k 0) ≠ 0 ∧ ((rowN g p.1).getD k 0 ∈ s.stack → lO s p.1 ≤ oO s ((rowN g p.1).getD k 0))) :
    TI g { s with calls := calls' } := by
  have hcv : cv { s with calls := calls' } = cv s := hmap
  have hlen : calls'.length = s.calls.length := by have := congrArg List.length hmap; simpa [cv] using this
  refine ⟨h.lo, h.ll, h.ls, h.lc, h.on, h.sorted, h.inS, h.ordLe, ?_, hidx, ?_, fun p hp k hk => (hproc p hp k hk).1, ?_, h.asg, h.asgEq, h.used, ?_, ?_, ?_, fun p hp k hk hm => (hproc p hp k hk).2 hm, ?_, h.cnt, ?_, h.fm⟩
  · rw [hcv]; exact h.csub
  · rw [hcv]; exact h.csorted
  · rw [hcv]; exact h.black
  · rw [hcv]; exact h.down
  · rw [hcv]; exact h.up
  · rw [hcv]; exact h.lowS
  · rw [hcv]; exact h.lowB
  · have := h.cm; show calls'.length ≤ s.met; omega

/-- The low of one of the calls sinks to that of a position on the stack to which it leads. -/
theorem TI_low {g : List (List Nat)} {s : TS} (h : TI g s) {a m : Nat} (ha : a ∈ cv s) (hm : m ≤ lO s a) (hz : ∃ z, z ∈ s.stack ∧ oO s z = m ∧ R g a z) :
    TI g { s with low := s.low.set a m } := by
  obtain ⟨s', hs'⟩ : ∃ s', s' = ({ s with low := s.low.set a m } : TS) := ⟨_, rfl⟩
  have han : a < g.length := (h.inS a (h.csub a ha)).1
  have hla : lO s' a = m := by rw [hs']; exact getD_set_self _ _ _ _ (by rw [h.ll]; exact han)
  have hle : ∀ v, v ≠ a → lO s' v = lO s v := fun v hv => by rw [hs']; exact getD_set_ne _ _ _ _ _ (Ne.symm hv)
  have hl : ∀ v, lO s' v ≤ lO s v := by
    intro v
    by_cases e : v = a
    · subst e; rw [hla]; exact hm
    · rw [hle v e]; exact Nat.le_refl _
  have ho : ∀ v, oO s' v = oO s v := fun v => by rw [hs']; rfl
  rw [← hs']
  have hlow : s'.low.length = g.length := by rw [hs']; simpa using h.ll
  have hcv : cv s' = cv s := by rw [hs']; rfl
  have hst : s'.stack = s.stack := by rw [hs']
  refine ⟨by rw [hs']; exact h.lo, hlow, by rw [hs']; exact h.ls, by rw [hs']; exact h.lc, by rw [hs']; exact h.on, by rw [hs']; exact h.sorted, by rw [hs']; exact h.inS, by rw [hs']; exact h.ordLe, by rw [hs']; exact h.csub, by rw [hs']; exact h.idx,
    by rw [hs']; exact h.csorted, by rw [hs']; exact h.proc, by rw [hs']; exact h.black, by rw [hs']; exact h.asg, by rw [hs']; exact h.asgEq, by rw [hs']; exact h.used, by rw [hs']; exact h.down, by rw [hs']; exact h.up, ?_, ?_, ?_, by rw [hs']; exact h.cnt, by rw [hs']; exact h.cm, by rw [hs']; exact h.fm⟩
  · intro b hb
    rw [hcv] at hb
    rw [hst]
    obtain ⟨h1, h2⟩ := h.lowS b hb
    refine ⟨by rw [ho]; exact Nat.le_trans (hl b) h1, ?_⟩
    by_cases e : b = a
    · subst e
      obtain ⟨z, k1, k2, k3⟩ := hz
      exact ⟨z, k1, by rw [ho, hla]; exact k2, k3⟩
    · obtain ⟨z, k1, k2, k3⟩ := h2
      exact ⟨z, k1, by rw [ho, hle b e]; exact k2, k3⟩
  · intro p hp k hk hm'
    rw [hst] at hm'
    rw [ho]
    exact Nat.le_trans (hl _) (h.lowP p (by rw [hs'] at hp; exact hp) k hk hm')
  · intro b hb x hx hxc hbx hq y he hy
    rw [hcv] at hb hxc
    rw [hst] at hx hy
    rw [ho, ho] at hbx
    rw [ho]
    refine Nat.le_trans (hl _) (h.lowB b hb x hx hxc hbx (fun q hq1 hq2 => ?_) y he hy)
    have := hq q (by rw [hcv]; exact hq1) (by rw [ho, ho]; exact hq2)
    rwa [ho, ho] at this

/-- Two positions of the stack with one number are one. -/
theorem TI.inj {g : List (List Nat)} {s : TS} (h : TI g s) {x y : Nat} (hx : x ∈ s.stack) (hy : y ∈ s.stack) (e : oO s x = oO s y) : x = y := by
  have key : ∀ l : List Nat, l.Pairwise (fun x y => oO s y < oO s x) → ∀ x y, x ∈ l → y ∈ l → oO s x = oO s y → x = y := by
    intro l
    induction l with
    | nil => intro _ x y hx; cases hx
    | cons z r ih =>
      intro hp x y hx hy e
      rw [List.pairwise_cons] at hp
      rw [List.mem_cons] at hx hy
      rcases hx with rfl | hx
      · rcases hy with rfl | hy
        · rfl
        · have := hp.1 y hy; omega
      · rcases hy with rfl | hy
        · have := hp.1 x hx; omega
        · exact ih hp.2 x y hx hy e
  exact key s.stack h.sorted x y hx hy e

/-- A finished call whose low lies below its number goes; its caller's low is no higher. -/
theorem TI_drop {g : List (List Nat)} {s : TS} (h : TI g s) {a nx b nb : Nat} {cs : List (Nat × Nat)} (hc : s.calls = (a, nx) :: (b, nb) :: cs) (hend : (rowN g a).length ≤ nx) (hba : lO s b ≤ lO s a) (hla : lO s a < oO s a) :
    TI g { s with calls := (b, nb) :: cs } := by
  have hcv : cv s = a :: b :: cs.map Prod.fst := by unfold cv; rw [hc]; rfl
  have hcv' : cv { s with calls := (b, nb) :: cs } = b :: cs.map Prod.fst := rfl
  have hsub : ∀ q, q ∈ b :: cs.map Prod.fst → q ∈ cv s := fun q hq => by rw [hcv]; exact List.mem_cons_of_mem _ hq
  have hsp := h.csorted
  rw [hcv, List.pairwise_cons] at hsp
  obtain ⟨ltA, hsp'⟩ := hsp
  have ltB := (List.pairwise_cons.1 hsp').1
  have haC : a ∈ cv s := by rw [hcv]; exact List.mem_cons_self
  have hbC : b ∈ cv s := hsub b List.mem_cons_self
  have haS := h.csub a haC
  have hpa : (a, nx) ∈ s.calls := by rw [hc]; exact List.mem_cons_self
  have notA : ∀ q, q ∈ b :: cs.map Prod.fst → q ≠ a := fun q hq e => by have := ltA q hq; rw [e] at this; omega
  have edgeA : ∀ y, Edge g a y → ∃ k, k < nx ∧ (rowN g a).getD k 0 = y := fun y he => by
    obtain ⟨k, hk, e⟩ := at_of_edge he
    exact ⟨k, by omega, e⟩
  have memc : ∀ p, p ∈ (b, nb) :: cs → p ∈ s.calls := fun p hp => by rw [hc]; exact List.mem_cons_of_mem _ hp
  refine ⟨h.lo, h.ll, h.ls, h.lc, h.on, h.sorted, h.inS, h.ordLe, ?_, fun p hp => h.idx p (memc p hp), ?_, fun p hp => h.proc p (memc p hp), ?_, h.asg, h.asgEq, h.used, ?_, ?_, ?_, fun p hp => h.lowP p (memc p hp), ?_, h.cnt, ?_, h.fm⟩
  · rw [hcv']; exact fun q hq => h.csub q (hsub q hq)
  · rw [hcv']; exact hsp'
  · rw [hcv']
    intro v hv hvc y he
    by_cases e : v = a
    · subst e
      obtain ⟨k, hk, e2⟩ := edgeA y he
      rw [← e2]
      exact h.proc _ hpa k hk
    · exact h.black v hv (by rw [hcv, List.mem_cons, not_or]; exact ⟨e, hvc⟩) y he
  · rw [hcv']; exact fun q hq => h.down q (hsub q hq)
  · rw [hcv']
    intro y hy
    obtain ⟨q, h1, h2, h3⟩ := h.up y hy
    rw [hcv, List.mem_cons] at h1
    rcases h1 with rfl | h1
    · obtain ⟨_, z, k1, k2, k3⟩ := h.lowS q haC
      obtain ⟨q2, j1, j2, j3⟩ := h.up z k1
      rw [hcv, List.mem_cons] at j1
      rcases j1 with rfl | j1
      · exact absurd j2 (by rw [k2]; exact Nat.not_le_of_lt hla)
      · refine ⟨q2, j1, ?_, h3.trans (k3.trans j3)⟩
        show oO s q2 ≤ oO s y
        omega
    · exact ⟨q, h1, h2, h3⟩
  · rw [hcv']; exact fun q hq => h.lowS q (hsub q hq)
  · rw [hcv']
    intro p hp x hx hxc hpx hq y he hy
    show lO s p ≤ oO s y
    have hpx' : oO s p < oO s x := hpx
    have hq' : ∀ q, q ∈ b :: cs.map Prod.fst → oO s p < oO s q → oO s x < oO s q := hq
    have hpC := hsub p hp
    by_cases hpb : p = b
    · subst hpb
      by_cases hxa : x = a
      · subst hxa
        obtain ⟨k, hk, e2⟩ := edgeA y he
        have := h.lowP _ hpa k hk (by rw [e2]; exact hy)
        rw [e2] at this
        have t : lO s x ≤ oO s y := this
        omega
      · have hxC : x ∉ cv s := by rw [hcv, List.mem_cons, not_or]; exact ⟨hxa, hxc⟩
        rcases Nat.lt_trichotomy (oO s x) (oO s a) with h1 | h1 | h1
        · refine h.lowB p hpC x hx hxC hpx' (fun q hq1 hq2 => ?_) y he hy
          rw [hcv, List.mem_cons] at hq1
          rcases hq1 with rfl | hq1
          · exact h1
          · exact hq' q hq1 hq2
        · exact absurd (h.inj hx haS h1) hxa
        · have := h.lowB a haC x hx hxC h1 (fun q hq1 hq2 => by
            rw [hcv, List.mem_cons] at hq1
            rcases hq1 with rfl | hq1
            · omega
            · have := ltA q hq1; omega) y he hy
          omega
    · have hpc : p ∈ cs.map Prod.fst := by
        rw [List.mem_cons] at hp
        rcases hp with e | hp
        · exact absurd e hpb
        · exact hp
      have h1 := ltB p hpc
      have h2 := hq' b List.mem_cons_self h1
      have h3 := ltA b List.mem_cons_self
      have hxa : x ≠ a := fun e => by rw [e] at h2; omega
      have hxC : x ∉ cv s := by rw [hcv, List.mem_cons, not_or]; exact ⟨hxa, hxc⟩
      refine h.lowB p hpC x hx hxC hpx' (fun q hq1 hq2 => ?_) y he hy
      rw [hcv, List.mem_cons] at hq1
      rcases hq1 with rfl | hq1
      · omega
      · exact hq' q hq1 hq2
  · have := h.cm
    rw [hc] at this
    simp only [List.length_cons] at this ⊢
    omega

/-- The end of a call without a component. -/
theorem TI_pop {g : List (List Nat)} {s : TS} (h : TI g s) {a nx : Nat} {cs : List (Nat × Nat)} (hc : s.calls = (a, nx) :: cs) (hend : (rowN g a).length ≤ nx) (hne : lO s a ≠ oO s a) :
    (∃ b nb cs', cs = (b, nb) :: cs') ∧ TI g { s with calls := cs, low := lowOf s a cs } := by
  have haC : a ∈ cv s := by unfold cv; rw [hc]; exact List.mem_cons_self
  obtain ⟨l1, z, hz, hz2, hz3⟩ := h.lowS a haC
  have hlt : lO s a < oO s a := by omega
  cases cs with
  | nil =>
    obtain ⟨q, h1, h2, _⟩ := h.up z hz
    have : q = a := by unfold cv at h1; rw [hc] at h1; simpa using h1
    subst this
    omega
  | cons p cs' =>
    obtain ⟨b, nb⟩ := p
    refine ⟨⟨b, nb, cs', rfl⟩, ?_⟩
    have hbC : b ∈ cv s := by unfold cv; rw [hc]; exact List.mem_cons_of_mem _ List.mem_cons_self
    have hab : oO s b < oO s a := by
      have := h.csorted
      unfold cv at this
      rw [hc] at this
      exact (List.pairwise_cons.1 this).1 b List.mem_cons_self
    have hne' : b ≠ a := fun e => by rw [e] at hab; omega
    obtain ⟨k1, zb, kb1, kb2, kb3⟩ := h.lowS b hbC
    have t1 : TI g { s with low := s.low.set b (min (lO s b) (lO s a)) } := by
      refine TI_low h hbC (Nat.min_le_left _ _) ?_
      by_cases e : lO s b ≤ lO s a
      · exact ⟨zb, kb1, by rw [Nat.min_eq_left e]; exact kb2, kb3⟩
      · exact ⟨z, hz, by rw [Nat.min_eq_right (by omega)]; exact hz2, (h.down b hbC a (h.csub a haC) (by omega)).trans hz3⟩
    have e1 : lO { s with low := s.low.set b (min (lO s b) (lO s a)) } a = lO s a := getD_set_ne _ _ _ _ _ hne'
    have e2 : lO { s with low := s.low.set b (min (lO s b) (lO s a)) } b = min (lO s b) (lO s a) := getD_set_self _ _ _ _ (by rw [h.ll]; exact (h.inS b (h.csub b hbC)).1)
    exact TI_drop t1 (a := a) (nx := nx) (b := b) (nb := nb) (cs := cs') hc hend (by rw [e1, e2]; exact Nat.min_le_right _ _) (by rw [e1]; exact hlt)

theorem popTo_spec (a c n : Nat) : ∀ (l : List Nat) (o : List Bool) (k : List Nat), a ∈ l → (∀ x, x ∈ l → x < n) → o.length = n → k.length = n →
    ∃ pre st o' k', l = pre ++ a :: st ∧ a ∉ pre ∧ popTo a c n l o k = some (st, o', k') ∧ o'.length = n ∧ k'.length = n ∧
      (∀ v, (v ∈ pre ∨ v = a) → o'.getD v false = false ∧ k'.getD v 0 = c) ∧ (∀ v, v ∉ pre → v ≠ a → o'.getD v false = o.getD v false ∧ k'.getD v 0 = k.getD v 0) := by
  intro l
  induction l with
  | nil => intro o k h; cases h
  | cons x r ih =>
    intro o k ha hn ho hk
    have hx : x < n := hn x List.mem_cons_self
    by_cases e : x = a
    · subst e
      refine ⟨[], r, o.set x false, k.set x c, rfl, by simp, ?_, by simpa using ho, by simpa using hk, ?_, ?_⟩
      · simp [popTo, hx]
      · intro v hv
        have : v = x := by simpa using hv
        subst this
        exact ⟨getD_set_self _ _ _ _ (by omega), getD_set_self _ _ _ _ (by omega)⟩
      · intro v _ hv
        exact ⟨getD_set_ne _ _ _ _ _ (Ne.symm hv), getD_set_ne _ _ _ _ _ (Ne.symm hv)⟩
    · have har : a ∈ r := by
        rw [List.mem_cons] at ha
        rcases ha with h | h
        · exact absurd h.symm e
        · exact h
      obtain ⟨pre, st, o', k', h1, h2, h3, h4, h5, h6, h7⟩ := ih (o.set x false) (k.set x c) har (fun y hy => hn y (List.mem_cons_of_mem _ hy)) (by simpa using ho) (by simpa using hk)
      refine ⟨x :: pre, st, o', k', by rw [h1]; rfl, ?_, ?_, h4, h5, ?_, ?_⟩
      · rw [List.mem_cons, not_or]; exact ⟨fun h => e h.symm, h2⟩
      · simp only [popTo, if_pos hx, if_neg e]; exact h3
      · intro v hv
        by_cases hvp : v ∈ pre ∨ v = a
        · exact h6 v hvp
        · rw [not_or] at hvp
          have hvx : v = x := by
            rcases hv with hv | hv
            · rw [List.mem_cons] at hv
              rcases hv with hv | hv
              · exact hv
              · exact absurd hv hvp.1
            · exact absurd hv hvp.2
          subst hvx
          obtain ⟨j1, j2⟩ := h7 v hvp.1 hvp.2
          exact ⟨by rw [j1]; exact getD_set_self _ _ _ _ (by omega), by rw [j2]; exact getD_set_self _ _ _ _ (by omega)⟩
      · intro v hv hva
        rw [List.mem_cons, not_or] at hv
        obtain ⟨j1, j2⟩ := h7 v hv.2 hva
        exact ⟨by rw [j1]; exact getD_set_ne _ _ _ _ _ (Ne.symm hv.1), by rw [j2]; exact getD_set_ne _ _ _ _ _ (Ne.symm hv.1)⟩

/-- The end of a call with a component. -/
theorem TI_emit {g : List (List Nat)} {s : TS} (h : TI g s) {a nx : Nat} {cs : List (Nat × Nat)} (hc : s.calls = (a, nx) :: cs) (hend : (rowN g a).length ≤ nx) (heq : lO s a = oO s a) :
    lowOf s a cs = s.low ∧ ∃ st o k, popTo a s.found g.length s.stack s.onS s.comp = some (st, o, k) ∧ TI g { s with calls := cs, stack := st, onS := o, comp := k, found := s.found + 1 } := by
  have hcv : cv s = a :: cs.map Prod.fst := by unfold cv; rw [hc]; rfl
  have haC : a ∈ cv s := by rw [hcv]; exact List.mem_cons_self
  have haS := h.csub a haC
  have hpa : (a, nx) ∈ s.calls := by rw [hc]; exact List.mem_cons_self
  have hsp := h.csorted
  rw [hcv, List.pairwise_cons] at hsp
  obtain ⟨ltA, hsp'⟩ := hsp
  have hsub : ∀ q, q ∈ cs.map Prod.fst → q ∈ cv s := fun q hq => by rw [hcv]; exact List.mem_cons_of_mem _ hq
  have memc : ∀ p, p ∈ cs → p ∈ s.calls := fun p hp => by rw [hc]; exact List.mem_cons_of_mem _ hp
  have edgeA : ∀ y, Edge g a y → ∃ k, k < nx ∧ (rowN g a).getD k 0 = y := fun y he => by
    obtain ⟨k, hk, e⟩ := at_of_edge he
    exact ⟨k, by omega, e⟩
  refine ⟨?_, ?_⟩
  · cases cs with
    | nil => rfl
    | cons p cs' =>
      obtain ⟨b, nb⟩ := p
      have hbC := hsub b List.mem_cons_self
      have h1 := ltA b List.mem_cons_self
      have h2 := (h.lowS b hbC).1
      have hm : min (s.low.getD b 0) (s.low.getD a 0) = s.low.getD b 0 := by
        have e1 : s.low.getD b 0 = lO s b := rfl
        have e2 : s.low.getD a 0 = lO s a := rfl
        rw [e1, e2]; omega
      rw [lowOf, hm]
      have hb : b < s.low.length := by rw [h.ll]; exact (h.inS b (h.csub b hbC)).1
      simp only [List.getD, List.getElem?_eq_getElem hb, Option.getD_some]
      exact List.set_getElem_self hb
  · obtain ⟨pre, st, o', k', e1, e2, e3, e4, e5, e6, e7⟩ := popTo_spec a s.found g.length s.stack s.onS s.comp haS (fun x hx => (h.inS x hx).1) h.ls h.lc
    refine ⟨st, o', k', e3, ?_⟩
    have hsrt := h.sorted
    rw [e1, List.pairwise_append, List.pairwise_cons] at hsrt
    obtain ⟨_, ⟨ltSt, srtSt⟩, ltPre⟩ := hsrt
    have inSt : ∀ x, x ∈ st → x ∈ s.stack ∧ oO s x < oO s a := fun x hx => ⟨by rw [e1]; exact List.mem_append_right _ (List.mem_cons_of_mem _ hx), ltSt x hx⟩
    have seg : ∀ x, (x ∈ pre ∨ x = a) → x ∈ s.stack ∧ oO s a ≤ oO s x := by
      intro x hx
      rcases hx with hx | rfl
      · exact ⟨by rw [e1]; exact List.mem_append_left _ hx, Nat.le_of_lt (ltPre x hx a List.mem_cons_self)⟩
      · exact ⟨haS, Nat.le_refl _⟩
    have part : ∀ x, x ∈ s.stack → (x ∈ pre ∨ x = a) ∨ x ∈ st := by
      intro x hx
      rw [e1, List.mem_append, List.mem_cons] at hx
      rcases hx with hx | hx | hx
      · exact .inl (.inl hx)
      · exact .inl (.inr hx)
      · exact .inr hx
    have segNot : ∀ x, (x ∈ pre ∨ x = a) → x ∉ st := fun x hx hs => by have := (inSt x hs).2; have := (seg x hx).2; omega
    have ofOrd : ∀ x, x ∈ s.stack → oO s x < oO s a → x ∈ st := fun x hx hlt => by
      rcases part x hx with hs | hs
      · have := (seg x hs).2; omega
      · exact hs
    have ofOrd' : ∀ x, x ∈ s.stack → oO s a ≤ oO s x → (x ∈ pre ∨ x = a) := fun x hx hle => by
      rcases part x hx with hs | hs
      · exact hs
      · have := (inSt x hs).2; omega
    -- every edge out of the segment stays in it or leads to what is assigned
    have out : ∀ x, (x ∈ pre ∨ x = a) → ∀ y, Edge g x y → oO s y ≠ 0 ∧ (y ∈ s.stack → (y ∈ pre ∨ y = a)) := by
      intro x hx y he
      by_cases hxa : x = a
      · subst hxa
        obtain ⟨k, hk, ek⟩ := edgeA y he
        have p1 := h.proc _ hpa k hk
        have p2 := h.lowP _ hpa k hk
        rw [ek] at p1 p2
        refine ⟨p1, fun hy => ofOrd' y hy ?_⟩
        have t : lO s x ≤ oO s y := p2 hy
        omega
      · have hxC : x ∉ cv s := by
          rw [hcv, List.mem_cons, not_or]
          exact ⟨hxa, fun hm => by have := ltA x hm; have := (seg x hx).2; omega⟩
        have hxo := (h.inS x (seg x hx).1).2
        refine ⟨h.black x hxo hxC y he, fun hy => ofOrd' y hy ?_⟩
        have hlt : oO s a < oO s x := by
          have h1 := (seg x hx).2
          rcases Nat.lt_or_ge (oO s a) (oO s x) with h2 | h2
          · exact h2
          · exact absurd (h.inj (seg x hx).1 haS (by omega)) hxa
        have := h.lowB a haC x (seg x hx).1 hxC hlt (fun q hq1 hq2 => by
          rw [hcv, List.mem_cons] at hq1
          rcases hq1 with rfl | hq1
          · omega
          · have := ltA q hq1; omega) y he hy
        omega
    have asgClosed : ∀ u v, (oO s u ≠ 0 ∧ u ∉ s.stack) → Edge g u v → (oO s v ≠ 0 ∧ v ∉ s.stack) := fun u v hu he => by
      obtain ⟨_, h2⟩ := h.asg u hu.1 hu.2
      obtain ⟨j1, j2, _⟩ := h2 v he
      exact ⟨j2, j1⟩
    have closed : ∀ u v, ((u ∈ pre ∨ u = a) ∨ (oO s u ≠ 0 ∧ u ∉ s.stack)) → Edge g u v → ((v ∈ pre ∨ v = a) ∨ (oO s v ≠ 0 ∧ v ∉ s.stack)) := by
      intro u v hu he
      rcases hu with hu | hu
      · obtain ⟨j1, j2⟩ := out u hu v he
        by_cases hv : v ∈ s.stack
        · exact .inl (j2 hv)
        · exact .inr ⟨j1, hv⟩
      · exact .inr (asgClosed u v hu he)
    have toA : ∀ x, (x ∈ pre ∨ x = a) → R g x a := by
      intro x hx
      obtain ⟨q, h1, h2, h3⟩ := h.up x (seg x hx).1
      have hq := R.closed closed h3 (.inl hx)
      have hqs := h.csub q h1
      rcases hq with hq | hq
      · have hqa : q = a := by
          rw [hcv, List.mem_cons] at h1
          rcases h1 with e | h1
          · exact e
          · have := ltA q h1; have := (seg q hq).2; omega
        rw [← hqa]; exact h3
      · exact absurd hqs hq.2
    have fromA : ∀ x, (x ∈ pre ∨ x = a) → R g a x := fun x hx => h.down a haC x (seg x hx).1 (seg x hx).2
    obtain ⟨s', hs'⟩ : ∃ s', s' = ({ s with calls := cs, stack := st, onS := o', comp := k', found := s.found + 1 } : TS) := ⟨_, rfl⟩
    have ho : ∀ v, oO s' v = oO s v := fun v => by rw [hs']; rfl
    have hl : ∀ v, lO s' v = lO s v := fun v => by rw [hs']; rfl
    have hcS : ∀ v, (v ∈ pre ∨ v = a) → cO s' v = s.found := fun v hv => by rw [hs']; exact (e6 v hv).2
    have hcO : ∀ v, v ∉ s.stack → cO s' v = cO s v := fun v hv => by
      rw [hs']
      refine (e7 v (fun hp => hv (seg v (.inl hp)).1) (fun e => hv (e ▸ haS))).2
    have hcv' : cv s' = cs.map Prod.fst := by rw [hs']; rfl
    have hst' : s'.stack = st := by rw [hs']
    have hfd : s'.found = s.found + 1 := by rw [hs']
    have hcalls : s'.calls = cs := by rw [hs']
    have oldOr : ∀ v, oO s v ≠ 0 → v ∉ st → (v ∈ pre ∨ v = a) ∨ v ∉ s.stack := fun v _ hv => by
      by_cases hs : v ∈ s.stack
      · rcases part v hs with hp | hp
        · exact .inl hp
        · exact absurd hp hv
      · exact .inr hs
    rw [← hs']
    refine ⟨by rw [hs']; exact h.lo, by rw [hs']; exact h.ll, by rw [hs']; exact e4, by rw [hs']; exact e5, ?_, ?_, ?_, ?_, ?_, ?_, ?_, ?_, ?_, ?_, ?_, ?_, ?_, ?_, ?_, ?_, ?_, by rw [hs']; exact h.cnt, ?_, ?_⟩
    · intro v
      rw [hst']
      have hon : s'.onS.getD v false = o'.getD v false := by rw [hs']
      rw [hon]
      by_cases hv : v ∈ pre ∨ v = a
      · rw [(e6 v hv).1]
        exact ⟨(fun hh => by cases hh), fun hh => absurd hh (segNot v hv)⟩
      · rw [not_or] at hv
        rw [(e7 v hv.1 hv.2).1, h.on]
        refine ⟨fun hm => ?_, fun hm => (inSt v hm).1⟩
        rcases part v hm with hp | hp
        · exact absurd hp (by rw [not_or]; exact hv)
        · exact hp
    · rw [hst']
      exact srtSt.imp_of_mem fun {x y} _ _ hxy => by rw [ho, ho]; exact hxy
    · intro v hv
      rw [hst'] at hv
      rw [ho]
      exact h.inS v (inSt v hv).1
    · intro v; rw [ho]; have := h.ordLe v; rw [hs']; exact this
    · intro q hq
      rw [hcv'] at hq
      rw [hst']
      exact ofOrd q (h.csub q (hsub q hq)) (ltA q hq)
    · intro p hp; rw [hcalls] at hp; exact h.idx p (memc p hp)
    · rw [hcv']
      exact hsp'.imp_of_mem fun {x y} _ _ hxy => by rw [ho, ho]; exact hxy
    · intro p hp k hk; rw [hcalls] at hp; rw [ho]; exact h.proc p (memc p hp) k hk
    · intro v hv hvc y he
      rw [ho] at hv
      rw [hcv'] at hvc
      rw [ho]
      by_cases e : v = a
      · subst e; exact (out v (.inr rfl) y he).1
      · exact h.black v hv (by rw [hcv, List.mem_cons, not_or]; exact ⟨e, hvc⟩) y he
    · intro v hv hvs
      rw [ho] at hv
      rw [hst'] at hvs
      rcases oldOr v hv hvs with hv1 | hv1
      · refine ⟨by rw [hcS v hv1, hfd]; omega, fun y he => ?_⟩
        obtain ⟨j1, j2⟩ := out v hv1 y he
        rw [hst', ho, hcS v hv1]
        by_cases hy : y ∈ s.stack
        · have hy1 := j2 hy
          exact ⟨segNot y hy1, j1, by rw [hcS y hy1]; exact Nat.le_refl _⟩
        · exact ⟨fun hh => hy (inSt y hh).1, j1, by rw [hcO y hy]; exact Nat.le_of_lt (h.asg y j1 hy).1⟩
      · obtain ⟨j1, j2⟩ := h.asg v hv hv1
        refine ⟨by rw [hcO v hv1, hfd]; omega, fun y he => ?_⟩
        obtain ⟨i1, i2, i3⟩ := j2 y he
        rw [hst', ho, hcO v hv1, hcO y i1]
        exact ⟨fun hh => i1 (inSt y hh).1, i2, i3⟩
    · intro u v hu hus hv hvs
      rw [ho] at hu hv
      rw [hst'] at hus hvs
      rcases oldOr u hu hus with hu1 | hu1
      · rcases oldOr v hv hvs with hv1 | hv1
        · rw [hcS u hu1, hcS v hv1]
          exact ⟨fun _ => ⟨(toA u hu1).trans (fromA v hv1), (toA v hv1).trans (fromA u hu1)⟩, fun _ => rfl⟩
        · rw [hcS u hu1, hcO v hv1]
          have h1 := (h.asg v hv hv1).1
          refine ⟨fun e => by omega, fun e => ?_⟩
          have := R.closed asgClosed e.2 ⟨hv, hv1⟩
          exact absurd (seg u hu1).1 this.2
      · rcases oldOr v hv hvs with hv1 | hv1
        · rw [hcO u hu1, hcS v hv1]
          have h1 := (h.asg u hu hu1).1
          refine ⟨fun e => by omega, fun e => ?_⟩
          have := R.closed asgClosed e.1 ⟨hu, hu1⟩
          exact absurd (seg v hv1).1 this.2
        · rw [hcO u hu1, hcO v hv1]
          exact h.asgEq u v hu hu1 hv hv1
    · intro k hk
      rw [hfd] at hk
      rw [hst']
      by_cases e : k = s.found
      · exact ⟨a, (h.inS a haS).1, by rw [ho]; exact (h.inS a haS).2, segNot a (.inr rfl), by rw [hcS a (.inr rfl), e]⟩
      · obtain ⟨v, j1, j2, j3, j4⟩ := h.used k (by omega)
        exact ⟨v, j1, by rw [ho]; exact j2, fun hh => j3 (inSt v hh).1, by rw [hcO v j3]; exact j4⟩
    · intro q hq y hy hle
      rw [hcv'] at hq
      rw [hst'] at hy
      rw [ho, ho] at hle
      exact h.down q (hsub q hq) y (inSt y hy).1 hle
    · intro y hy
      rw [hst'] at hy
      rw [hcv']
      obtain ⟨q, h1, h2, h3⟩ := h.up y (inSt y hy).1
      have hlt := (inSt y hy).2
      rw [hcv, List.mem_cons] at h1
      rcases h1 with rfl | h1
      · omega
      · exact ⟨q, h1, by rw [ho, ho]; exact h2, h3⟩
    · intro q hq
      rw [hcv'] at hq
      rw [hst']
      obtain ⟨j1, z, j2, j3, j4⟩ := h.lowS q (hsub q hq)
      have := ltA q hq
      exact ⟨by rw [hl, ho]; exact j1, z, ofOrd z j2 (by omega), by rw [ho, hl]; exact j3, j4⟩
    · intro p hp k hk hm
      rw [hcalls] at hp
      rw [hst'] at hm
      rw [hl, ho]
      exact h.lowP p (memc p hp) k hk (inSt _ hm).1
    · intro q hq x hx hxc hqx hall y he hy
      rw [hcv'] at hq hxc
      rw [hst'] at hx hy
      rw [ho, ho] at hqx
      rw [hl, ho]
      have hxlt := (inSt x hx).2
      have hxa : x ≠ a := fun e => by rw [e] at hxlt; omega
      refine h.lowB q (hsub q hq) x (inSt x hx).1 (by rw [hcv, List.mem_cons, not_or]; exact ⟨hxa, hxc⟩) hqx (fun r hr1 hr2 => ?_) y he (inSt y hy).1
      rw [hcv, List.mem_cons] at hr1
      rcases hr1 with rfl | hr1
      · exact hxlt
      · have := hall r (by rw [hcv']; exact hr1) (by rw [ho, ho]; exact hr2)
        rwa [ho, ho] at this
    · have := h.cm
      rw [hc] at this
      rw [hcalls]
      have hmt : s'.met = s.met := by rw [hs']
      simp only [List.length_cons] at this
      rw [hmt]
      omega
    · have := h.fm
      have hlen : s.stack.length = pre.length + (st.length + 1) := by rw [e1]; simp
      have hmt : s'.met = s.met := by rw [hs']
      rw [hst', hfd, hmt]
      omega
end Go.Proofs.Qxb6600314a
