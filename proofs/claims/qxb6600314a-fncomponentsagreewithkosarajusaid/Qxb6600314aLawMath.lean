import Derived.Test.Qxb6600314aTarjanRun
import Derived.Test.Qxb6600314aKosMath2
import Derived.Test.Qxb6600314aBackWalk
/-
  The plain facts behind the law: what Tarjan's and Kosaraju's answers say to each other.
-/
namespace Go.Proofs.Qxb6600314a

theorem allRows_len (g : List (List Int)) : ∀ k, (allRows (toN g) k).length = tot g k := by
  intro k
  induction k with
  | zero => rfl
  | succ k ih => rw [allRows, tot, List.length_append, ih, edgesRow, List.length_map, toN_rowlen]

theorem wf_toN (g : List (List Int)) (h : ∀ i j, i < g.length → j < (rw' g i).length → 0 ≤ (rw' g i).getD j 0 ∧ (rw' g i).getD j 0 < g.length) : WF (toN g) := by
  intro u v he
  obtain ⟨h1, h2⟩ := he
  rw [toN_length] at h1 ⊢
  obtain ⟨k, hk, hv⟩ := List.getElem_of_mem h2
  rw [toN_rowlen] at hk
  have h3 := h u k h1 hk
  have h4 := toN_at g u k
  rw [List.getD_eq_getElem?_getD, List.getElem?_eq_getElem (by rw [toN_rowlen]; exact hk), Option.getD_some, hv] at h4
  omega

theorem pigeon : ∀ (m n : Nat) (f : Nat → Nat), (∀ i, i < n → f i < m) → (∀ i j, i < n → j < n → f i = f j → i = j) → n ≤ m := by
  intro m
  induction m with
  | zero =>
    intro n f h1 h2
    cases n with
    | zero => omega
    | succ n => have := h1 0 (by omega); omega
  | succ m ih =>
    intro n f h1 h2
    cases n with
    | zero => omega
    | succ n =>
      have := ih n (fun i => if f i = m then f n else f i) (fun i hi => by
        by_cases e : f i = m
        · have k1 := h1 n (by omega)
          have k2 : f n ≠ m := fun e' => by have := h2 i n (by omega) (by omega) (by omega); omega
          simp only [if_pos e]; omega
        · have k1 := h1 i (by omega)
          simp only [if_neg e]; omega) (fun i j hi hj he => by
        by_cases e1 : f i = m <;> by_cases e2 : f j = m
        · exact h2 i j (by omega) (by omega) (by omega)
        · simp only [if_pos e1, if_neg e2] at he
          have := h2 n j (by omega) (by omega) he; omega
        · simp only [if_neg e1, if_pos e2] at he
          have := h2 i n (by omega) (by omega) he; omega
        · simp only [if_neg e1, if_neg e2] at he
          exact h2 i j (by omega) (by omega) he)
      omega

theorem found_le {g : List (List Nat)} {fin : TS} {l : List Int} {c : Nat} (hc : CompOK g fin) (hk : KosOK g l c) : fin.found ≤ c := by
  have hex : ∀ k, ∃ v, k < fin.found → v < g.length ∧ cO fin v = k := fun k => by
    by_cases h : k < fin.found
    · obtain ⟨v, hv⟩ := hc.used k h; exact ⟨v, fun _ => hv⟩
    · exact ⟨0, fun h' => absurd h' h⟩
  refine pigeon c fin.found (fun k => (lb l (Classical.choose (hex k))).toNat) (fun i hi => ?_) (fun i j hi hj he => ?_)
  · have h1 := Classical.choose_spec (hex i) hi
    have h2 := hk.lt _ h1.1
    have h3 := hk.ge _ h1.1
    omega
  · have h1 := Classical.choose_spec (hex i) hi
    have h2 := Classical.choose_spec (hex j) hj
    have h3 := hk.ge _ h1.1
    have h4 := hk.ge _ h2.1
    have h5 := (hc.same _ _ h1.1 h2.1).mpr ((hk.same _ _ h1.1 h2.1).mp (by omega))
    rw [h1.2, h2.2] at h5
    exact h5

def upd (l : List Int) (i : Nat) (x : Int) : List Int := if lb l i < 0 then l.set i x else l

theorem upd_length (l : List Int) (i : Nat) (x : Int) : (upd l i x).length = l.length := by
  unfold upd; split <;> simp
theorem upd_self (l : List Int) (i : Nat) (x : Int) (h : i < l.length) (hx : lb l i < 0 ∨ lb l i = x) : lb (upd l i x) i = x := by
  unfold upd
  split
  · exact lb_set_self _ _ _ h
  · rcases hx with h | h
    · omega
    · exact h
theorem upd_ne (l : List Int) (i j : Nat) (x : Int) (h : i ≠ j) : lb (upd l i x) j = lb l j := by
  unfold upd
  split
  · exact lb_set_ne _ _ _ _ h
  · rfl

/-- The two tables behind the first v positions. -/
structure Chk (n : Nat) (C : Nat → Nat) (K : Nat → Nat) (v : Nat) (ko co : List Int) : Prop where
  lk : ko.length = n
  lc : co.length = n
  k1 : ∀ u, u < v → lb ko (C u) = K u
  k2 : ∀ c, c < n → (∀ u, u < v → C u ≠ c) → lb ko c = -1
  c1 : ∀ u, u < v → lb co (K u) = C u
  c2 : ∀ k, k < n → (∀ u, u < v → K u ≠ k) → lb co k = -1

theorem Chk.kcase {n : Nat} {C K : Nat → Nat} {v : Nat} {ko co : List Int} (h : Chk n C K v ko co) (hv : v < n) (hC : ∀ u, u < n → C u < n) (hs : ∀ u w, u < n → w < n → (C u = C w ↔ K u = K w)) : lb ko (C v) = -1 ∨ lb ko (C v) = K v := by
  by_cases e : ∃ u, u < v ∧ C u = C v
  · obtain ⟨u, h1, h2⟩ := e
    right
    rw [← h2, h.k1 u h1, (hs u v (by omega) hv).mp h2]
  · left
    exact h.k2 _ (hC v hv) (fun u hu he => e ⟨u, hu, he⟩)
theorem Chk.ccase {n : Nat} {C K : Nat → Nat} {v : Nat} {ko co : List Int} (h : Chk n C K v ko co) (hv : v < n) (hK : ∀ u, u < n → K u < n) (hs : ∀ u w, u < n → w < n → (C u = C w ↔ K u = K w)) : lb co (K v) = -1 ∨ lb co (K v) = C v := by
  by_cases e : ∃ u, u < v ∧ K u = K v
  · obtain ⟨u, h1, h2⟩ := e
    right
    rw [← h2, h.c1 u h1, (hs u v (by omega) hv).mpr h2]
  · left
    exact h.c2 _ (hK v hv) (fun u hu he => e ⟨u, hu, he⟩)

theorem Chk.step {n : Nat} {C K : Nat → Nat} {v : Nat} {ko co : List Int} (h : Chk n C K v ko co) (hv : v < n) (hC : ∀ u, u < n → C u < n) (hK : ∀ u, u < n → K u < n) (hs : ∀ u w, u < n → w < n → (C u = C w ↔ K u = K w)) :
    Chk n C K (v + 1) (upd ko (C v) (K v)) (upd co (K v) (C v)) := by
  have e1 := upd_self ko (C v) (K v) (by rw [h.lk]; exact hC v hv) (by rcases h.kcase hv hC hs with e | e <;> omega)
  have e2 := upd_self co (K v) (C v) (by rw [h.lc]; exact hK v hv) (by rcases h.ccase hv hK hs with e | e <;> omega)
  refine ⟨by rw [upd_length]; exact h.lk, by rw [upd_length]; exact h.lc, fun u hu => ?_, fun c hc hn => ?_, fun u hu => ?_, fun k hk hn => ?_⟩
  · by_cases e : C v = C u
    · rw [← e, e1, (hs v u hv (by omega)).mp e]
    · have : u ≠ v := fun e' => e (by rw [e'])
      rw [upd_ne _ _ _ _ e]; exact h.k1 u (by omega)
  · rw [upd_ne _ _ _ _ (hn v (by omega))]
    exact h.k2 c hc (fun u hu => hn u (by omega))
  · by_cases e : K v = K u
    · rw [← e, e2, (hs v u hv (by omega)).mpr e]
    · have : u ≠ v := fun e' => e (by rw [e'])
      rw [upd_ne _ _ _ _ e]; exact h.c1 u (by omega)
  · rw [upd_ne _ _ _ _ (hn v (by omega))]
    exact h.c2 k hk (fun u hu => hn u (by omega))

theorem Chk.start (n : Nat) (C K : Nat → Nat) : Chk n C K 0 (List.replicate n (-1)) (List.replicate n (-1)) :=
  ⟨by simp, by simp, by omega, fun c hc _ => by simp [lb, List.getD, hc], by omega, fun c hc _ => by simp [lb, List.getD, hc]⟩

/-- What the law needs of the two answers. -/
structure Agree (g : List (List Nat)) (fin : TS) (l : List Int) (c : Nat) : Prop where
  len : l.length = g.length
  cnt : c ≤ g.length
  ct : ∀ v, v < g.length → cO fin v < c
  kt : ∀ v, v < g.length → (lb l v).toNat < c ∧ ((lb l v).toNat : Int) = lb l v
  same : ∀ u v, u < g.length → v < g.length → (cO fin u = cO fin v ↔ (lb l u).toNat = (lb l v).toNat)
  edge : ∀ u v, Edge g u v → cO fin v ≤ cO fin u

theorem agree {g : List (List Nat)} {fin : TS} {l : List Int} {c : Nat} (hc : CompOK g fin) (hk : KosOK g l c) : Agree g fin l c := by
  refine ⟨hk.len, hk.cnt, fun v hv => ?_, fun v hv => ?_, fun u v hu hv => ?_, hc.edge⟩
  · have := found_le hc hk
    have := hc.lt v hv
    omega
  · have := hk.lt v hv
    have := hk.ge v hv
    omega
  · rw [hc.same u v hu hv, ← hk.same u v hu hv]
    have := hk.ge u hu
    have := hk.ge v hv
    omega
end Go.Proofs.Qxb6600314a
