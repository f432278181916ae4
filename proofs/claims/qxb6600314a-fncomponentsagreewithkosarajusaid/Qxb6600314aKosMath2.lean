import Derived.Test.Qxb6600314aKosMath
namespace Go.Proofs.Qxb6600314a

def lb (l : List Int) (v : Nat) : Int := l.getD v 0

theorem lb_set_self (l : List Int) (i : Nat) (x : Int) (h : i < l.length) : lb (l.set i x) i = x := getD_set_self _ _ _ _ h
theorem lb_set_ne (l : List Int) (i j : Nat) (x : Int) (h : i ≠ j) : lb (l.set i x) j = lb l j := getD_set_ne _ _ _ _ _ h

/-- How many positions bear no label. -/
def unl (l : List Int) : Nat := l.countP (fun x => decide (x < 0))

theorem unl_set {l : List Int} {i : Nat} {x : Int} (h : i < l.length) (h0 : lb l i < 0) (hx : 0 ≤ x) : unl (l.set i x) + 1 = unl l := by
  have h0' : l[i] < 0 := by simpa [lb, List.getD, h] using h0
  unfold unl
  rw [List.countP_set h]
  have hpos : 0 < l.countP (fun x => decide (x < 0)) := by
    rw [List.countP_pos_iff]
    exact ⟨l[i], List.getElem_mem h, by simpa using h0'⟩
  have hx' : ¬ x < 0 := by omega
  simp [h0', hx']
  omega

theorem unl_le (l : List Int) : unl l ≤ l.length := List.countP_le_length

/-- While the sweep from s runs: l: the labels when it began; c: its number. -/
structure SW (g : List (List Nat)) (l : List Int) (c s : Nat) (l2 : List Int) (p : List Nat) : Prop where
  len : l2.length = g.length
  old : ∀ v, 0 ≤ lb l v → lb l2 v = lb l v
  new : ∀ v, v < g.length → lb l v < 0 → 0 ≤ lb l2 v → lb l2 v = c ∧ R g v s
  pend : ∀ v, v ∈ p → v < g.length ∧ lb l v < 0 ∧ 0 ≤ lb l2 v
  start : s < g.length ∧ lb l s < 0 ∧ 0 ≤ lb l2 s
  cnt : p.length + unl l2 ≤ g.length

/-- One position is looked at. -/
theorem SW.scan {g : List (List Nat)} {l : List Int} {c s : Nat} {l2 : List Int} {p : List Nat} (h : SW g l c s l2 p) {u v : Nat} (he : Edge g u v) (hv : R g v s) :
    SW g l c s (scanStep c (l2, p) u).1 (scanStep c (l2, p) u).2 ∧ 0 ≤ lb (scanStep c (l2, p) u).1 u ∧ (∀ x, 0 ≤ lb l2 x → 0 ≤ lb (scanStep c (l2, p) u).1 x) ∧
      (∀ x, x ∈ p → x ∈ (scanStep c (l2, p) u).2) ∧ (∀ x, 0 ≤ lb (scanStep c (l2, p) u).1 x → 0 ≤ lb l2 x ∨ x ∈ (scanStep c (l2, p) u).2) ∧
      2 * unl (scanStep c (l2, p) u).1 + (scanStep c (l2, p) u).2.length ≤ 2 * unl l2 + p.length := by
  by_cases hu : lb l2 u < 0
  · have e : scanStep c (l2, p) u = (l2.set u (c : Int), u :: p) := by
      unfold scanStep
      exact if_pos hu
    rw [e]
    have hul : u < l2.length := by rw [h.len]; exact he.1
    have hlu : lb l u < 0 := by
      rcases Int.lt_or_le (lb l u) 0 with h1 | h1
      · exact h1
      · have := h.old u h1; omega
    have hself : lb (l2.set u (c : Int)) u = c := lb_set_self _ _ _ hul
    have hne : ∀ x, x ≠ u → lb (l2.set u (c : Int)) x = lb l2 x := fun x hx => lb_set_ne _ _ _ _ (Ne.symm hx)
    have hun := unl_set (l := l2) (i := u) (x := (c : Int)) hul hu (by omega)
    have hup : ∀ x, 0 ≤ lb l2 x → 0 ≤ lb (l2.set u (c : Int)) x := by
      intro x hx
      by_cases ex : x = u
      · subst ex; rw [hself]; omega
      · rw [hne x ex]; exact hx
    refine ⟨⟨by simpa using h.len, ?_, ?_, ?_, ⟨h.start.1, h.start.2.1, hup s h.start.2.2⟩, ?_⟩, by rw [hself]; omega, hup, fun x hx => List.mem_cons_of_mem _ hx, ?_, ?_⟩
    · intro x hx
      have hxu : x ≠ u := fun ex => by rw [ex] at hx; omega
      rw [hne x hxu]; exact h.old x hx
    · intro x hxn hx0 hx1
      by_cases ex : x = u
      · subst ex; exact ⟨hself, (R.edge he).trans hv⟩
      · rw [hne x ex] at hx1 ⊢; exact h.new x hxn hx0 hx1
    · intro x hx
      rw [List.mem_cons] at hx
      rcases hx with rfl | hx
      · exact ⟨he.1, hlu, by rw [hself]; omega⟩
      · obtain ⟨h1, h2, h3⟩ := h.pend x hx
        exact ⟨h1, h2, hup x h3⟩
    · have := h.cnt
      simp only [List.length_cons]
      omega
    · intro x hx
      by_cases ex : x = u
      · subst ex; exact .inr List.mem_cons_self
      · rw [hne x ex] at hx; exact .inl hx
    · simp only [List.length_cons]
      omega
  · have e : scanStep c (l2, p) u = (l2, p) := by
      unfold scanStep
      exact if_neg hu
    rw [e]
    exact ⟨h, (by show 0 ≤ lb l2 u; omega), fun x hx => hx, fun x hx => hx, fun x hx => .inl hx, Nat.le_refl _⟩

/-- All positions that lead straight to v are looked at. -/
theorem SW.run {g : List (List Nat)} {l : List Int} {c s : Nat} (I : List Nat) {v : Nat} (hv : R g v s) :
    ∀ (j k : Nat) (l2 : List Int) (p : List Nat), SW g l c s l2 p → (∀ i, k ≤ i → i < k + j → Edge g (I.getD i 0) v) →
      SW g l c s (scanRun I c j k (l2, p)).1 (scanRun I c j k (l2, p)).2 ∧ (∀ i, k ≤ i → i < k + j → 0 ≤ lb (scanRun I c j k (l2, p)).1 (I.getD i 0)) ∧ (∀ x, 0 ≤ lb l2 x → 0 ≤ lb (scanRun I c j k (l2, p)).1 x) ∧
      (∀ x, x ∈ p → x ∈ (scanRun I c j k (l2, p)).2) ∧ (∀ x, 0 ≤ lb (scanRun I c j k (l2, p)).1 x → 0 ≤ lb l2 x ∨ x ∈ (scanRun I c j k (l2, p)).2) ∧
      2 * unl (scanRun I c j k (l2, p)).1 + (scanRun I c j k (l2, p)).2.length ≤ 2 * unl l2 + p.length := by
  intro j
  induction j with
  | zero =>
    intro k l2 p h he
    exact ⟨h, by omega, fun x hx => hx, fun x hx => hx, fun x hx => .inl hx, Nat.le_refl _⟩
  | succ j ih =>
    intro k l2 p h he
    obtain ⟨a1, a2, a3, a4, a5, a6⟩ := h.scan (he k (Nat.le_refl _) (by omega)) hv
    obtain ⟨l3, p3, e3⟩ : ∃ l3 p3, scanStep c (l2, p) (I.getD k 0) = (l3, p3) := ⟨_, _, rfl⟩
    rw [e3] at a1 a2 a3 a4 a5 a6
    obtain ⟨b1, b2, b3, b4, b5, b6⟩ := ih (k + 1) l3 p3 a1 (fun i h1 h2 => he i (by omega) (by omega))
    have e : scanRun I c (j + 1) k (l2, p) = scanRun I c j (k + 1) (l3, p3) := by rw [scanRun, e3]
    rw [e]
    refine ⟨b1, fun i h1 h2 => ?_, fun x hx => b3 x (a3 x hx), fun x hx => b4 x (a4 x hx), fun x hx => ?_, by simp only at a6; omega⟩
    · by_cases ei : i = k
      · subst ei; exact b3 _ a2
      · exact b2 i (by omega) (by omega)
    · rcases b5 x hx with h1 | h1
      · rcases a5 x h1 with h2 | h2
        · exact .inl h2
        · exact .inr (b4 x h2)
      · exact .inr h1

/-- What is newly labelled and no longer pending has all that leads to it labelled. -/
def Shut (g : List (List Nat)) (l l2 : List Int) (p : List Nat) : Prop := ∀ v, v < g.length → lb l v < 0 → 0 ≤ lb l2 v → v ∉ p → ∀ u, Edge g u v → 0 ≤ lb l2 u

theorem sweep (g : List (List Nat)) (S I : List Nat) (ht : TransOK g S I) (hn : g.length ≤ 65536) (l : List Int) (c s : Nat) :
    ∀ m l2 p, 2 * unl l2 + p.length ≤ m → SW g l c s l2 p → Shut g l l2 p → ∃ k l', Sweep S I c g.length k (l2, p) l' ∧ SW g l c s l' [] ∧ Shut g l l' [] := by
  intro m
  induction m with
  | zero =>
    intro l2 p hm h hs
    have : p = [] := List.eq_nil_of_length_eq_zero (by omega)
    subst this
    exact ⟨0, l2, ⟨rfl, rfl⟩, h, hs⟩
  | succ m ih =>
    intro l2 p hm h hs
    cases p with
    | nil => exact ⟨0, l2, ⟨rfl, rfl⟩, h, hs⟩
    | cons v r =>
      obtain ⟨hvn, hv0, hv1⟩ := h.pend v List.mem_cons_self
      have hvR : R g v s := (h.new v hvn hv0 hv1).2
      have h' : SW g l c s l2 r := ⟨h.len, h.old, h.new, fun x hx => h.pend x (List.mem_cons_of_mem _ hx), h.start, by have := h.cnt; simp only [List.length_cons] at this; omega⟩
      have hmo := ht.mono v hvn
      obtain ⟨a1, a2, a3, a4, a5, a6⟩ := SW.run I hvR (S.getD (v + 1) 0 - S.getD v 0) (S.getD v 0) l2 r h' (fun i h1 h2 => ht.sound v hvn i h1 (by omega))
      obtain ⟨l3, p3, e3⟩ : ∃ l3 p3, scanRun I c (S.getD (v + 1) 0 - S.getD v 0) (S.getD v 0) (l2, r) = (l3, p3) := ⟨_, _, rfl⟩
      rw [e3] at a1 a2 a3 a4 a5 a6
      simp only at a1 a2 a3 a4 a5 a6
      have hs3 : Shut g l l3 p3 := by
        intro x hx1 hx2 hx3 hx4 u hu
        by_cases ex : x = v
        · subst ex
          obtain ⟨i, i1, i2, i3⟩ := ht.whole u x hu hx1
          rw [← i3]
          exact a2 i i1 (by omega)
        · rcases a5 x hx3 with h1 | h1
          · refine a3 u (hs x hx1 hx2 h1 ?_ u hu)
            rw [List.mem_cons, not_or]
            exact ⟨ex, fun hm' => hx4 (a4 x hm')⟩
          · exact absurd h1 hx4
      simp only [List.length_cons] at hm
      obtain ⟨k, l', k1, k2, k3⟩ := ih l3 p3 (by omega) a1 hs3
      refine ⟨k + 1, l', ⟨v, r, rfl, hvn, ?_, ?_⟩, k2, k3⟩
      · have := h.cnt
        show (v :: r).length ≤ 65536
        omega
      · show Sweep S I c g.length k (scanRun I c (S.getD (v + 1) 0 - S.getD v 0) (S.getD v 0) (l2, r)) l'
        rw [e3]; exact k1

/-- The first step out of a set, on a path that ends outside. -/
theorem first_out {g : List (List Nat)} {Q : Nat → Prop} {s : Nat} (hs : ¬ Q s) : ∀ k u, Path g k u s → Q u → ∃ p z j, Q p ∧ Edge g p z ∧ ¬ Q z ∧ Path g j z s ∧ j < k ∧ R g u z := by
  classical
  intro k
  induction k with
  | zero => intro u hp hu; have e : u = s := hp; subst e; exact absurd hu hs
  | succ k ih =>
    intro u hp hu
    obtain ⟨m, he, hm⟩ := hp
    by_cases hq : Q m
    · obtain ⟨p, z, j, h1, h2, h3, h4, h5, h6⟩ := ih m hm hq
      exact ⟨p, z, j, h1, h2, h3, h4, by omega, (R.edge he).trans h6⟩
    · exact ⟨u, m, k, hu, he, hq, hm, by omega, R.edge he⟩

/-- Between two roots: the labels so far. -/
structure LI (g : List (List Nat)) (l : List Int) (c : Nat) : Prop where
  len : l.length = g.length
  pred : ∀ u v, Edge g u v → v < g.length → 0 ≤ lb l v → 0 ≤ lb l u
  lt : ∀ v, v < g.length → 0 ≤ lb l v → lb l v < c
  same : ∀ u v, u < g.length → v < g.length → 0 ≤ lb l u → 0 ≤ lb l v → (lb l u = lb l v ↔ R g u v ∧ R g v u)

theorem LI.back {g : List (List Nat)} (hw : WF g) {l : List Int} {c : Nat} (h : LI g l c) {u v : Nat} (hr : R g u v) (h0 : 0 ≤ lb l v) : u < g.length → 0 ≤ lb l u := by
  intro hu
  rcases Int.lt_or_le (lb l u) 0 with hlt | hle
  · exfalso
    have := R.closed (S := fun x => x < g.length ∧ lb l x < 0) (fun x y hx he => by
      refine ⟨hw x y he, ?_⟩
      rcases Int.lt_or_le (lb l y) 0 with h1 | h1
      · exact h1
      · have := h.pred x y he (hw x y he) h1
        omega) hr ⟨hu, hlt⟩
    have h2 := this.2
    omega
  · exact hle

theorem LI.next {g : List (List Nat)} (hw : WF g) {done l1 rest : List Nat} {s : Nat} (hf : Fin1 g done) (hd : done = l1 ++ s :: rest) {l l' : List Int} {c : Nat} (h : LI g l c) (h1 : ∀ v, v ∈ l1 → 0 ≤ lb l v)
    (hs0 : lb l s < 0) (hsw : SW g l c s l' []) (hsh : Shut g l l' []) : LI g l' (c + 1) ∧ ∀ v, v ∈ l1 ++ [s] → 0 ≤ lb l' v := by
  have hsn := hsw.start.1
  have up : ∀ v, 0 ≤ lb l v → 0 ≤ lb l' v := fun v hv => by rw [hsw.old v hv]; exact hv
  have pred' : ∀ u v, Edge g u v → v < g.length → 0 ≤ lb l' v → 0 ≤ lb l' u := by
    intro u v he hv h0
    rcases Int.lt_or_le (lb l v) 0 with hlt | hle
    · exact hsh v hv hlt h0 (by simp) u he
    · exact up u (h.pred u v he hv hle)
  have inRest : ∀ v, v < g.length → lb l v < 0 → v ∈ s :: rest := by
    intro v hv h0
    have hm := hf.all v hv
    rw [hd, List.mem_append] at hm
    rcases hm with hm | hm
    · have := h1 v hm; omega
    · exact hm
  have negOn : ∀ u z, u < g.length → lb l u < 0 → R g u z → z < g.length ∧ lb l z < 0 := by
    intro u z hu h0 hr
    exact R.closed (S := fun x => x < g.length ∧ lb l x < 0) (fun x y hx he => by
      refine ⟨hw x y he, ?_⟩
      rcases Int.lt_or_le (lb l y) 0 with k1 | k1
      · exact k1
      · have := h.pred x y he (hw x y he) k1
        have := hx.2
        omega) hr ⟨hu, h0⟩
  -- what is newly labelled is just the component of s
  have toNew : ∀ u, u < g.length → lb l u < 0 → R g u s → R g s u := by
    intro u hu h0 hr
    obtain ⟨k, hk⟩ := hr
    -- every position on the way bears no label
    have key : ∀ m k u, k ≤ m → u < g.length → lb l u < 0 → Path g k u s → R g s u := by
      intro m
      induction m with
      | zero =>
        intro k u hk0 _ _ hp
        obtain rfl : k = 0 := by omega
        have e : u = s := hp
        subst e
        exact R.refl _ _
      | succ m ih =>
        intro k u hkm hu h0 hp
        by_cases e : u = s
        · subst e; exact R.refl _ _
        · have hm := inRest u hu h0
          rw [List.mem_cons] at hm
          have hur : u ∈ rest := by
            rcases hm with hm | hm
            · exact absurd hm e
            · exact hm
          obtain ⟨r1, r2, hr⟩ := List.append_of_mem hur
          have hd2 : done = (l1 ++ s :: r1) ++ u :: r2 := by rw [hd, hr]; simp
          have hsn' : ¬ (s ∈ u :: r2) := by
            intro hm'
            have hnd := hf.nodup
            rw [hd, List.nodup_append] at hnd
            have h2 := hnd.2.1
            rw [List.nodup_cons] at h2
            apply h2.1
            rw [hr]
            exact List.mem_append_right _ hm'
          obtain ⟨p, z, j, a1, a2, a3, a4, a5, a6⟩ := first_out (Q := fun x => x ∈ u :: r2) hsn' k u hp List.mem_cons_self
          have hzu : R g z u := hf.key _ u r2 hd2 p z a1 a2 a3
          have hz := negOn u z hu h0 a6
          exact (ih j z (by omega) hz.1 hz.2 a4).trans hzu
    exact key k k u (Nat.le_refl _) hu h0 hk
  have newIff : ∀ v, v < g.length → lb l v < 0 → (0 ≤ lb l' v ↔ R g v s) := by
    intro v hv h0
    refine ⟨fun hh => (hsw.new v hv h0 hh).2, fun hr => ?_⟩
    rcases Int.lt_or_le (lb l' v) 0 with hlt | hle
    · exfalso
      have := R.closed (S := fun x => x < g.length ∧ lb l' x < 0) (fun x y hx he => by
        refine ⟨hw x y he, ?_⟩
        rcases Int.lt_or_le (lb l' y) 0 with k1 | k1
        · exact k1
        · have := pred' x y he (hw x y he) k1
          have := hx.2
          omega) hr ⟨hv, hlt⟩
      have h2 := hsw.start.2.2
      have h3 := this.2
      omega
    · exact hle
  have ltOld : ∀ v, v < g.length → 0 ≤ lb l v → lb l' v < c := fun v hv h0 => by rw [hsw.old v h0]; exact h.lt v hv h0
  refine ⟨⟨hsw.len, pred', ?_, ?_⟩, ?_⟩
  · intro v hv h0
    rcases Int.lt_or_le (lb l v) 0 with hlt | hle
    · have := (hsw.new v hv hlt h0).1; omega
    · have := ltOld v hv hle; omega
  · intro u v hu hv hu0 hv0
    rcases Int.lt_or_le (lb l u) 0 with ul | ul
    · obtain ⟨u1, u2⟩ := hsw.new u hu ul hu0
      have u3 := toNew u hu ul u2
      rcases Int.lt_or_le (lb l v) 0 with vl | vl
      · obtain ⟨v1, v2⟩ := hsw.new v hv vl hv0
        have v3 := toNew v hv vl v2
        exact ⟨fun _ => ⟨u2.trans v3, v2.trans u3⟩, fun _ => by rw [u1, v1]⟩
      · have := ltOld v hv vl
        refine ⟨fun e => by omega, fun e => ?_⟩
        have := h.back hw e.1 vl hu
        omega
    · rcases Int.lt_or_le (lb l v) 0 with vl | vl
      · obtain ⟨v1, v2⟩ := hsw.new v hv vl hv0
        have := ltOld u hu ul
        refine ⟨fun e => by omega, fun e => ?_⟩
        have := h.back hw e.2 ul hv
        omega
      · rw [hsw.old u ul, hsw.old v vl]
        exact h.same u v hu hv ul vl
  · intro v hv
    rw [List.mem_append] at hv
    rcases hv with hv | hv
    · exact up v (h1 v hv)
    · have e : v = s := by simpa using hv
      subst e
      exact hsw.start.2.2

theorem roots (g : List (List Nat)) (hw : WF g) (S I : List Nat) (ht : TransOK g S I) (hn : g.length ≤ 65536) (done : List Nat) (hf : Fin1 g done) :
    ∀ rest l1 l c, done = l1 ++ rest → LI g l c → (∀ v, v ∈ l1 → 0 ≤ lb l v) → c ≤ l1.length → ∃ l' c', Roots S I g.length rest l c l' c' ∧ LI g l' c' ∧ (∀ v, v ∈ done → 0 ≤ lb l' v) ∧ c' ≤ done.length := by
  intro rest
  induction rest with
  | nil =>
    intro l1 l c hd h h1 hc
    rw [List.append_nil] at hd
    exact ⟨l, c, ⟨rfl, rfl⟩, h, by rw [hd]; exact h1, by rw [hd]; exact hc⟩
  | cons s rest ih =>
    intro l1 l c hd h h1 hc
    have hsn : s < g.length := hf.lt s (by rw [hd]; exact List.mem_append_right _ List.mem_cons_self)
    have hl1 : l1.length < g.length := by
      have := hf.len
      rw [hd] at this
      simp only [List.length_append, List.length_cons] at this
      omega
    have hd' : done = (l1 ++ [s]) ++ rest := by rw [hd]; simp
    rcases Int.lt_or_le (lb l s) 0 with hlt | hle
    · have hsl : s < l.length := by rw [h.len]; exact hsn
      have hself : lb (l.set s (c : Int)) s = c := lb_set_self _ _ _ hsl
      have hne : ∀ x, x ≠ s → lb (l.set s (c : Int)) x = lb l x := fun x hx => lb_set_ne _ _ _ _ (Ne.symm hx)
      have hun := unl_set (l := l) (i := s) (x := (c : Int)) hsl hlt (by omega)
      have hul := unl_le l
      rw [h.len] at hul
      have sw0 : SW g l c s (l.set s (c : Int)) [s] := by
        refine ⟨by simpa using h.len, ?_, ?_, ?_, ⟨hsn, hlt, by rw [hself]; omega⟩, by simp only [List.length_cons, List.length_nil]; omega⟩
        · intro v hv
          have : v ≠ s := fun e => by rw [e] at hv; omega
          exact hne v this
        · intro v hv hv0 hv1
          by_cases e : v = s
          · subst e; exact ⟨hself, R.refl _ _⟩
          · rw [hne v e] at hv1; omega
        · intro v hv
          have e : v = s := by simpa using hv
          subst e
          exact ⟨hsn, hlt, by rw [hself]; omega⟩
      have sh0 : Shut g l (l.set s (c : Int)) [s] := by
        intro v hv hv0 hv1 hvp u hu
        have e : v ≠ s := by simpa using hvp
        rw [hne v e] at hv1
        omega
      obtain ⟨k, m, k1, k2, k3⟩ := sweep g S I ht hn l c s _ _ _ (Nat.le_refl _) sw0 sh0
      obtain ⟨n1, n2⟩ := LI.next hw hf hd h h1 hlt k2 k3
      obtain ⟨l', c', r1, r2, r3, r4⟩ := ih (l1 ++ [s]) m (c + 1) hd' n1 n2 (by simp only [List.length_append, List.length_cons, List.length_nil]; omega)
      exact ⟨l', c', ⟨hsn, by omega, Or.inr ⟨hlt, k, m, k1, r1⟩⟩, r2, r3, r4⟩
    · have n2 : ∀ v, v ∈ l1 ++ [s] → 0 ≤ lb l v := by
        intro v hv
        rw [List.mem_append] at hv
        rcases hv with hv | hv
        · exact h1 v hv
        · have e : v = s := by simpa using hv
          subst e; exact hle
      obtain ⟨l', c', r1, r2, r3, r4⟩ := ih (l1 ++ [s]) l c hd' h n2 (by simp only [List.length_append]; omega)
      exact ⟨l', c', ⟨hsn, by omega, Or.inl ⟨hle, r1⟩⟩, r2, r3, r4⟩

/-- What kosaraju answers. -/
structure KosOK (g : List (List Nat)) (l : List Int) (c : Nat) : Prop where
  len : l.length = g.length
  cnt : c ≤ g.length
  ge : ∀ v, v < g.length → 0 ≤ lb l v
  lt : ∀ v, v < g.length → lb l v < c
  same : ∀ u v, u < g.length → v < g.length → (lb l u = lb l v ↔ R g u v ∧ R g v u)

theorem pass2 (g : List (List Nat)) (hw : WF g) (S I : List Nat) (ht : TransOK g S I) (hn : g.length ≤ 65536) (done : List Nat) (hf : Fin1 g done) :
    ∃ l' c', Roots S I g.length done (List.replicate g.length (-1)) 0 l' c' ∧ KosOK g l' c' := by
  have h0 : ∀ v, v < g.length → lb (List.replicate g.length (-1)) v = -1 := by
    intro v hv
    simp [lb, List.getD, hv]
  have li : LI g (List.replicate g.length (-1)) 0 := by
    refine ⟨by simp, fun u v he hv h1 => ?_, fun v hv h1 => ?_, fun u v hu _ h1 => ?_⟩
    · rw [h0 v hv] at h1; omega
    · rw [h0 v hv] at h1; omega
    · rw [h0 u hu] at h1; omega
  obtain ⟨l', c', r1, r2, r3, r4⟩ := roots g hw S I ht hn done hf done [] _ 0 rfl li (fun v hv => by cases hv) (Nat.le_refl _)
  have hall : ∀ v, v < g.length → 0 ≤ lb l' v := fun v hv => r3 v (hf.all v hv)
  exact ⟨l', c', r1, r2.len, by rw [← hf.len]; exact r4, hall, fun v hv => r2.lt v hv (hall v hv), fun u v hu hv => r2.same u v hu hv (hall u hu) (hall v hv)⟩
end Go.Proofs.Qxb6600314a
