import Derived.Test.Qxb6600314aKosPlain
namespace Go.Proofs.Qxb6600314a

def kcv (s : KS) : List Nat := s.calls.map Prod.fst
def sn (s : KS) (v : Nat) : Bool := s.seen.getD v false

/-- Of every edge out of what has finished up to u that leads to what finishes later: its end leads to u. -/
def Key (g : List (List Nat)) (done : List Nat) : Prop :=
  ∀ l1 u l2, done = l1 ++ u :: l2 → ∀ p z, p ∈ u :: l2 → Edge g p z → z ∉ u :: l2 → R g z u

structure KI (g : List (List Nat)) (s : KS) : Prop where
  ls : s.seen.length = g.length
  cs : ∀ a, a ∈ kcv s → a < g.length ∧ sn s a = true
  ds : ∀ a, a ∈ s.done → a < g.length ∧ sn s a = true
  part : ∀ v, sn s v = true → v ∈ kcv s ∨ v ∈ s.done
  nodup : (kcv s ++ s.done).Nodup
  chain : (kcv s).Pairwise (fun x y => R g y x)
  idx : ∀ p, p ∈ s.calls → p.2 ≤ (rowN g p.1).length
  proc : ∀ p, p ∈ s.calls → ∀ k, k < p.2 → sn s ((rowN g p.1).getD k 0) = true
  black : ∀ v, v ∈ s.done → ∀ y, Edge g v y → sn s y = true
  key : Key g s.done
  cnt : s.seen.count true = s.calls.length + s.done.length

def kleft (g : List (List Nat)) : List (Nat × Nat) → Nat
  | [] => 0
  | p :: r => ((rowN g p.1).length - p.2 + 1) + kleft g r
def kmu (g : List (List Nat)) (s : KS) : Nat := (g.length - s.seen.count true) * 1048578 + kleft g s.calls

theorem count_set_true {l : List Bool} {i : Nat} (h : i < l.length) (hx : l.getD i false = false) : (l.set i true).count true = l.count true + 1 := by
  have hx' : l[i] = false := by simpa [List.getD, h] using hx
  rw [List.count_set h]
  simp [hx']

theorem count_lt {l : List Bool} {i : Nat} (h : i < l.length) (hx : l.getD i false = false) : l.count true < l.length := by
  have h1 := count_set_true h hx
  have h2 : (l.set i true).count true ≤ (l.set i true).length := List.count_le_length
  simp only [List.length_set] at h2
  omega

/-- A new position is met. -/
theorem KI_meet {g : List (List Nat)} {s : KS} (h : KI g s) {d : Nat} (hd : d < g.length) (hd0 : sn s d = false) (hr : ∀ a, a ∈ kcv s → R g a d) (calls' : List (Nat × Nat)) (hmap : calls'.map Prod.fst = kcv s)
    (hidx : ∀ p, p ∈ calls' → p.2 ≤ (rowN g p.1).length) (hproc : ∀ p, p ∈ calls' → ∀ k, k < p.2 → (rowN g p.1).getD k 0 = d ∨ sn s ((rowN g p.1).getD k 0) = true) :
    KI g { s with seen := s.seen.set d true, calls := (d, 0) :: calls' } := by
  obtain ⟨s', hs'⟩ : ∃ s', s' = ({ s with seen := s.seen.set d true, calls := (d, 0) :: calls' } : KS) := ⟨_, rfl⟩
  have hsd : sn s' d = true := by rw [hs']; exact getD_set_self _ _ _ _ (by rw [h.ls]; exact hd)
  have hse : ∀ v, v ≠ d → sn s' v = sn s v := fun v hv => by rw [hs']; exact getD_set_ne _ _ _ _ _ (Ne.symm hv)
  have hup : ∀ v, sn s v = true → sn s' v = true := by
    intro v hv
    by_cases e : v = d
    · subst e; exact hsd
    · rw [hse v e]; exact hv
  have hcv : kcv s' = d :: kcv s := by unfold kcv; rw [hs']; simp only [List.map_cons, hmap]; rfl
  have hdn : s'.done = s.done := by rw [hs']
  have hcl : s'.calls = (d, 0) :: calls' := by rw [hs']
  have hnd : d ∉ kcv s ++ s.done := by
    intro hm
    rw [List.mem_append] at hm
    rcases hm with hm | hm
    · have := (h.cs d hm).2; rw [hd0] at this; cases this
    · have := (h.ds d hm).2; rw [hd0] at this; cases this
  rw [← hs']
  refine ⟨by rw [hs']; simpa using h.ls, ?_, ?_, ?_, ?_, ?_, ?_, ?_, ?_, by rw [hdn]; exact h.key, ?_⟩
  · intro a ha
    rw [hcv, List.mem_cons] at ha
    rcases ha with rfl | ha
    · exact ⟨hd, hsd⟩
    · exact ⟨(h.cs a ha).1, hup a (h.cs a ha).2⟩
  · intro a ha
    rw [hdn] at ha
    exact ⟨(h.ds a ha).1, hup a (h.ds a ha).2⟩
  · intro v hv
    rw [hcv, hdn, List.mem_cons]
    by_cases e : v = d
    · exact .inl (.inl e)
    · rw [hse v e] at hv
      rcases h.part v hv with hp | hp
      · exact .inl (.inr hp)
      · exact .inr hp
  · rw [hcv, hdn, List.cons_append, List.nodup_cons]
    exact ⟨hnd, h.nodup⟩
  · rw [hcv, List.pairwise_cons]
    exact ⟨fun y hy => hr y hy, h.chain⟩
  · intro p hp
    rw [hcl, List.mem_cons] at hp
    rcases hp with rfl | hp
    · exact Nat.zero_le _
    · exact hidx p hp
  · intro p hp k hk
    rw [hcl, List.mem_cons] at hp
    rcases hp with rfl | hp
    · exact absurd hk (by simp)
    · rcases hproc p hp k hk with e | e
      · rw [e]; exact hsd
      · exact hup _ e
  · intro v hv y he
    rw [hdn] at hv
    exact hup y (h.black v hv y he)
  · have h1 := count_set_true (l := s.seen) (i := d) (by rw [h.ls]; exact hd) hd0
    have h2 := h.cnt
    have h3 : calls'.length = s.calls.length := by have := congrArg List.length hmap; simpa [kcv] using this
    rw [hcl, hdn]
    have h4 : s'.seen = s.seen.set d true := by rw [hs']
    rw [h4, h1, h2]
    simp only [List.length_cons]
    omega

theorem KI_calls {g : List (List Nat)} {s : KS} (h : KI g s) (calls' : List (Nat × Nat)) (hmap : calls'.map Prod.fst = kcv s) (hidx : ∀ p, p ∈ calls' → p.2 ≤ (rowN g p.1).length)
    (hproc : ∀ p, p ∈ calls' → ∀ k, k < p.2 → sn s ((rowN g p.1).getD k 0) = true) : KI g { s with calls := calls' } := by
  have hcv : kcv { s with calls := calls' } = kcv s := hmap
  have hlen : calls'.length = s.calls.length := by have := congrArg List.length hmap; simpa [kcv] using this
  refine ⟨h.ls, by rw [hcv]; exact h.cs, h.ds, by rw [hcv]; exact h.part, by rw [hcv]; exact h.nodup, by rw [hcv]; exact h.chain, hidx, hproc, h.black, h.key, ?_⟩
  have := h.cnt
  show s.seen.count true = calls'.length + s.done.length
  omega

theorem KI_done {g : List (List Nat)} {s : KS} (h : KI g s) {a nx : Nat} {cs : List (Nat × Nat)} (hc : s.calls = (a, nx) :: cs) (hend : (rowN g a).length ≤ nx) :
    KI g { s with calls := cs, done := a :: s.done } := by
  have hcv : kcv s = a :: cs.map Prod.fst := by unfold kcv; rw [hc]; rfl
  have haC : a ∈ kcv s := by rw [hcv]; exact List.mem_cons_self
  have hpa : (a, nx) ∈ s.calls := by rw [hc]; exact List.mem_cons_self
  have hch := h.chain
  rw [hcv, List.pairwise_cons] at hch
  have hnd := h.nodup
  rw [hcv, List.cons_append, List.nodup_cons] at hnd
  have edgeA : ∀ y, Edge g a y → sn s y = true := fun y he => by
    obtain ⟨k, hk, e⟩ := at_of_edge he
    rw [← e]
    exact h.proc _ hpa k (by have : k < nx := by omega
                             exact this)
  have blk : ∀ v, v ∈ a :: s.done → ∀ y, Edge g v y → sn s y = true := by
    intro v hv y he
    rw [List.mem_cons] at hv
    rcases hv with rfl | hv
    · exact edgeA y he
    · exact h.black v hv y he
  refine ⟨h.ls, ?_, ?_, ?_, ?_, hch.2, ?_, ?_, blk, ?_, ?_⟩
  · intro q hq; exact h.cs q (by rw [hcv]; exact List.mem_cons_of_mem _ hq)
  · intro q hq
    have hq' : q ∈ a :: s.done := hq
    rw [List.mem_cons] at hq'
    rcases hq' with rfl | hq'
    · exact h.cs q haC
    · exact h.ds q hq'
  · intro v hv
    show v ∈ cs.map Prod.fst ∨ v ∈ a :: s.done
    rcases h.part v hv with hp | hp
    · rw [hcv, List.mem_cons] at hp
      rcases hp with rfl | hp
      · exact .inr List.mem_cons_self
      · exact .inl hp
    · exact .inr (List.mem_cons_of_mem _ hp)
  · show (cs.map Prod.fst ++ a :: s.done).Nodup
    rw [List.nodup_append]
    have h2 := hnd.2
    rw [List.nodup_append] at h2
    refine ⟨h2.1, ?_, fun x hx y hy => ?_⟩
    · rw [List.nodup_cons]
      exact ⟨fun hm => hnd.1 (List.mem_append_right _ hm), h2.2.1⟩
    · rw [List.mem_cons] at hy
      rcases hy with rfl | hy
      · intro e; exact hnd.1 (List.mem_append_left _ (e ▸ hx))
      · exact h2.2.2 x hx y hy
  · intro p hp; exact h.idx p (by rw [hc]; exact List.mem_cons_of_mem _ hp)
  · intro p hp; exact h.proc p (by rw [hc]; exact List.mem_cons_of_mem _ hp)
  · intro l1 u l2 e p z hp he hz
    have e' : a :: s.done = l1 ++ u :: l2 := e
    cases l1 with
    | nil =>
      simp only [List.nil_append, List.cons.injEq] at e'
      obtain ⟨rfl, rfl⟩ := e'
      have hzs := blk p hp z he
      rcases h.part z hzs with hq | hq
      · rw [hcv, List.mem_cons] at hq
        rcases hq with rfl | hq
        · exact absurd List.mem_cons_self hz
        · exact hch.1 z hq
      · exact absurd (List.mem_cons_of_mem _ hq) hz
    | cons x l1' =>
      simp only [List.cons_append, List.cons.injEq] at e'
      exact h.key l1' u l2 e'.2 p z hp he hz
  · have := h.cnt
    rw [hc] at this
    show s.seen.count true = cs.length + (a :: s.done).length
    simp only [List.length_cons] at this ⊢
    omega

theorem KI_step {g : List (List Nat)} (hw : WF g) (hr : ∀ i, (rowN g i).length ≤ 1048576) {s : KS} (h : KI g s) {a nx : Nat} {cs : List (Nat × Nat)} (hc : s.calls = (a, nx) :: cs) :
    ∃ s', KStep g s s' ∧ KI g s' ∧ kmu g s' < kmu g s ∧ ∀ v, sn s v = true → sn s' v = true := by
  have hcv : kcv s = a :: cs.map Prod.fst := by unfold kcv; rw [hc]; rfl
  have haC : a ∈ kcv s := by rw [hcv]; exact List.mem_cons_self
  have han := (h.cs a haC).1
  have hpa : (a, nx) ∈ s.calls := by rw [hc]; exact List.mem_cons_self
  have hidx : nx ≤ (rowN g a).length := h.idx _ hpa
  have hcnt := h.cnt
  have hcl : s.seen.count true ≤ g.length := by have := List.count_le_length (l := s.seen) (a := true); rw [h.ls] at this; exact this
  have hra := hr a
  rw [hc] at hcnt
  simp only [List.length_cons] at hcnt
  have top : ∀ q, q ∈ kcv s → R g q a := by
    intro q hq
    have hs := h.chain
    rw [hcv, List.pairwise_cons] at hs
    rw [hcv, List.mem_cons] at hq
    rcases hq with rfl | hq
    · exact R.refl _ _
    · exact hs.1 q hq
  have hmu : kmu g s = (g.length - s.seen.count true) * 1048578 + (((rowN g a).length - nx + 1) + kleft g cs) := by unfold kmu; rw [hc]; rfl
  by_cases hlt : nx < (rowN g a).length
  · obtain ⟨d, hd⟩ : ∃ d, d = (rowN g a).getD nx 0 := ⟨_, rfl⟩
    have hed : Edge g a d := by rw [hd]; exact edge_of_at han hlt
    have hdn := hw a d hed
    have hmapA : ((a, nx + 1) :: cs).map Prod.fst = kcv s := by rw [hcv]; rfl
    have hidxA : ∀ p, p ∈ (a, nx + 1) :: cs → p.2 ≤ (rowN g p.1).length := by
      intro p hp
      rw [List.mem_cons] at hp
      rcases hp with rfl | hp
      · exact hlt
      · exact h.idx p (by rw [hc]; exact List.mem_cons_of_mem _ hp)
    have hin : ∀ p, p ∈ (a, nx + 1) :: cs → ∀ k, k < p.2 → (rowN g p.1).getD k 0 = d ∨ sn s ((rowN g p.1).getD k 0) = true := by
      intro p hp k hk
      rw [List.mem_cons] at hp
      rcases hp with rfl | hp
      · by_cases e : k = nx
        · left; subst e; exact hd.symm
        · right
          have hk' : k < nx := by have hk2 : k < nx + 1 := hk; omega
          exact h.proc _ hpa k hk'
      · exact .inr (h.proc p (by rw [hc]; exact List.mem_cons_of_mem _ hp) k hk)
    cases hsd : sn s d with
    | false =>
      have hlt2 := count_lt (l := s.seen) (i := d) (by rw [h.ls]; exact hdn) hsd
      rw [h.ls] at hlt2
      refine ⟨{ s with seen := s.seen.set d true, calls := (d, 0) :: (a, nx + 1) :: cs }, ⟨a, nx, cs, hc, han, by omega, Or.inl ⟨hlt, by rw [← hd]; exact hdn, Or.inl ⟨by rw [← hd]; exact hsd, by omega, by rw [← hd]⟩⟩⟩,
        KI_meet h hdn hsd (fun q hq => (top q hq).trans (R.edge hed)) ((a, nx + 1) :: cs) hmapA hidxA hin, ?_, ?_⟩
      · have e : kmu g { s with seen := s.seen.set d true, calls := (d, 0) :: (a, nx + 1) :: cs } = (g.length - (s.seen.set d true).count true) * 1048578 + (((rowN g d).length - 0 + 1) + (((rowN g a).length - (nx + 1) + 1) + kleft g cs)) := rfl
        have hrd := hr d
        rw [hmu, e, count_set_true (by rw [h.ls]; exact hdn) hsd]
        have : (g.length - s.seen.count true) = (g.length - (s.seen.count true + 1)) + 1 := by omega
        rw [this, Nat.add_mul]
        omega
      · intro v hv
        show (s.seen.set d true).getD v false = true
        by_cases e : v = d
        · subst e; exact getD_set_self _ _ _ _ (by rw [h.ls]; exact hdn)
        · rw [getD_set_ne _ _ _ _ _ (Ne.symm e)]; exact hv
    | true =>
      refine ⟨{ s with calls := (a, nx + 1) :: cs }, ⟨a, nx, cs, hc, han, by omega, Or.inl ⟨hlt, by rw [← hd]; exact hdn, Or.inr ⟨by rw [← hd]; exact hsd, rfl⟩⟩⟩, KI_calls h _ hmapA hidxA (fun p hp k hk => ?_), ?_, fun v hv => hv⟩
      · rcases hin p hp k hk with e | e
        · rw [e]; exact hsd
        · exact e
      · have e : kmu g { s with calls := (a, nx + 1) :: cs } = (g.length - s.seen.count true) * 1048578 + (((rowN g a).length - (nx + 1) + 1) + kleft g cs) := rfl
        rw [hmu, e]
        omega
  · refine ⟨{ s with calls := cs, done := a :: s.done }, ⟨a, nx, cs, hc, han, by omega, Or.inr ⟨by omega, by omega, by omega, rfl⟩⟩, KI_done h hc (by omega), ?_, fun v hv => hv⟩
    have e : kmu g { s with calls := cs, done := a :: s.done } = (g.length - s.seen.count true) * 1048578 + kleft g cs := rfl
    rw [hmu, e]
    omega

theorem KI_inner {g : List (List Nat)} (hw : WF g) (hr : ∀ i, (rowN g i).length ≤ 1048576) :
    ∀ m s, kmu g s ≤ m → KI g s → ∃ k s', KInner g k s s' ∧ KI g s' ∧ s'.calls = [] ∧ ∀ v, sn s v = true → sn s' v = true := by
  intro m
  induction m with
  | zero =>
    intro s hm h
    cases hc : s.calls with
    | nil => exact ⟨0, s, ⟨hc, rfl⟩, h, hc, fun _ hv => hv⟩
    | cons p cs =>
      obtain ⟨a, nx⟩ := p
      obtain ⟨s', _, _, h3, _⟩ := KI_step hw hr h hc
      omega
  | succ m ih =>
    intro s hm h
    cases hc : s.calls with
    | nil => exact ⟨0, s, ⟨hc, rfl⟩, h, hc, fun _ hv => hv⟩
    | cons p cs =>
      obtain ⟨a, nx⟩ := p
      obtain ⟨s1, h1, h2, h3, h4⟩ := KI_step hw hr h hc
      obtain ⟨k, s', k1, k2, k3, k4⟩ := ih s1 (by omega) h2
      exact ⟨k + 1, s', ⟨s1, h1, k1⟩, k2, k3, fun v hv => k4 v (h4 v hv)⟩

theorem KI_outer {g : List (List Nat)} (hw : WF g) (hr : ∀ i, (rowN g i).length ≤ 1048576) :
    ∀ j r s, r + j = g.length → KI g s → s.calls = [] → (∀ v, v < r → sn s v = true) → ∃ fin, KOuter g j r s fin ∧ KI g fin ∧ fin.calls = [] ∧ ∀ v, v < g.length → sn fin v = true := by
  intro j
  induction j with
  | zero =>
    intro r s hrj h hc hv
    exact ⟨s, ⟨hc, rfl⟩, h, hc, fun v hv' => hv v (by omega)⟩
  | succ j ih =>
    intro r s hrj h hc hv
    have hrn : r < g.length := by omega
    cases h0 : sn s r with
    | false =>
      have hcv : kcv s = [] := by unfold kcv; rw [hc]; rfl
      have t1 : KI g { s with seen := s.seen.set r true, calls := [(r, 0)] } := KI_meet h hrn h0 (fun a ha => by rw [hcv] at ha; cases ha) [] (by rw [hcv]; rfl) (fun p hp => by cases hp) (fun p hp => by cases hp)
      obtain ⟨k, m, k1, k2, k3, k4⟩ := KI_inner hw hr _ _ (Nat.le_refl _) t1
      have hord : ∀ v, v < r + 1 → sn m v = true := by
        intro v hv'
        apply k4
        show (s.seen.set r true).getD v false = true
        by_cases e : v = r
        · subst e; exact getD_set_self _ _ _ _ (by rw [h.ls]; exact hrn)
        · rw [getD_set_ne _ _ _ _ _ (Ne.symm e)]; exact hv v (by omega)
      obtain ⟨fin, f1, f2, f3, f4⟩ := ih (r + 1) m (by omega) k2 k3 hord
      exact ⟨fin, ⟨hc, Or.inr ⟨h0, k, m, k1, f1⟩⟩, f2, f3, f4⟩
    | true =>
      have hord : ∀ v, v < r + 1 → sn s v = true := by
        intro v hv'
        by_cases e : v = r
        · subst e; exact h0
        · exact hv v (by omega)
      obtain ⟨fin, f1, f2, f3, f4⟩ := ih (r + 1) s (by omega) h hc hord
      exact ⟨fin, ⟨hc, Or.inl ⟨h0, f1⟩⟩, f2, f3, f4⟩

theorem KI_start (g : List (List Nat)) : KI g (kstart g.length) := by
  have hs : ∀ v, sn (kstart g.length) v = false := by
    intro v
    simp only [sn, kstart, List.getD, List.getElem?_replicate]
    split <;> rfl
  refine ⟨by simp [kstart], (fun a ha => by cases ha), (fun a ha => by cases ha), (fun v hv => by rw [hs] at hv; cases hv), List.Pairwise.nil, List.Pairwise.nil, (fun p hp => by cases hp), (fun p hp => by cases hp), (fun v hv => by cases hv), ?_, ?_⟩
  · intro l1 u l2 e
    have e' : ([] : List Nat) = l1 ++ u :: l2 := e
    cases l1 <;> cases e'
  · simp [kstart, List.count_replicate]

/-- What the first pass leaves. -/
structure Fin1 (g : List (List Nat)) (done : List Nat) : Prop where
  len : done.length = g.length
  all : ∀ v, v < g.length → v ∈ done
  lt : ∀ v, v ∈ done → v < g.length
  nodup : done.Nodup
  key : Key g done

theorem pass1 (g : List (List Nat)) (hw : WF g) (hr : ∀ i, (rowN g i).length ≤ 1048576) : ∃ fin, KOuter g g.length 0 (kstart g.length) fin ∧ Fin1 g fin.done := by
  obtain ⟨fin, f1, f2, f3, f4⟩ := KI_outer hw hr g.length 0 (kstart g.length) (by omega) (KI_start g) rfl (by omega)
  have hcv : kcv fin = [] := by unfold kcv; rw [f3]; rfl
  have hall : ∀ v, v < g.length → v ∈ fin.done := by
    intro v hv
    rcases f2.part v (f4 v hv) with h | h
    · rw [hcv] at h; cases h
    · exact h
  refine ⟨fin, f1, ?_, hall, fun v hv => (f2.ds v hv).1, ?_, f2.key⟩
  · have h1 := f2.cnt
    rw [f3] at h1
    have h2 : fin.seen.count true = g.length := by
      rw [← f2.ls, List.count_eq_length]
      intro b hb
      obtain ⟨i, hi, e⟩ := List.getElem_of_mem hb
      have := f4 i (by rw [← f2.ls]; exact hi)
      simp only [sn, List.getD, List.getElem?_eq_getElem hi, Option.getD_some] at this
      rw [← e, this]
    simp only [List.length_nil] at h1
    omega
  · have := f2.nodup
    rw [hcv, List.nil_append] at this
    exact this
end Go.Proofs.Qxb6600314a
