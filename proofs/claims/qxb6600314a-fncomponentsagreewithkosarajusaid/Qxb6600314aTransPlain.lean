import Derived.Test.Qxb6600314aReach
namespace Go.Proofs.Qxb6600314a

def edgesRow (g : List (List Nat)) (v : Nat) : List (Nat × Nat) := (rowN g v).map fun w => (v, w)
/-- All edges out of the first v positions, in order. -/
def allRows (g : List (List Nat)) : Nat → List (Nat × Nat)
  | 0 => []
  | v + 1 => allRows g v ++ edgesRow g v
/-- .. and the first k out of position v. -/
def pre (g : List (List Nat)) (v k : Nat) : List (Nat × Nat) := allRows g v ++ (edgesRow g v).take k
def cnt (E : List (Nat × Nat)) (w : Nat) : Nat := E.countP (fun e => e.2 == w)
def sumc (E : List (Nat × Nat)) : Nat → Nat
  | 0 => 0
  | w + 1 => sumc E w + cnt E w

theorem pre_zero (g : List (List Nat)) (v : Nat) : pre g v 0 = allRows g v := by simp [pre]
theorem pre_succ (g : List (List Nat)) (v k : Nat) (h : k < (rowN g v).length) : pre g v (k + 1) = pre g v k ++ [(v, (rowN g v).getD k 0)] := by
  have hk : k < (edgesRow g v).length := by simpa [edgesRow] using h
  rw [pre, pre, List.take_succ_eq_append_getElem hk, ← List.append_assoc]
  simp [edgesRow, List.getD, h]
theorem pre_full (g : List (List Nat)) (v : Nat) : pre g v (rowN g v).length = allRows g (v + 1) := by
  rw [pre, allRows, List.take_of_length_le (by simp [edgesRow])]

theorem cnt_snoc (E : List (Nat × Nat)) (u w x : Nat) : cnt (E ++ [(u, w)]) x = cnt E x + if w = x then 1 else 0 := by
  by_cases h : w = x
  · simp [cnt, List.countP_append, h]
  · simp [cnt, List.countP_append, h]

theorem allRows_prefix (g : List (List Nat)) : ∀ j v, ∃ rest, allRows g (v + j) = allRows g v ++ rest := by
  intro j
  induction j with
  | zero => intro v; exact ⟨[], by simp⟩
  | succ j ih =>
    intro v
    obtain ⟨rest, h⟩ := ih v
    exact ⟨rest ++ edgesRow g (v + j), by rw [← Nat.add_assoc, allRows, h, List.append_assoc]⟩

theorem pre_prefix (g : List (List Nat)) (n v k : Nat) (hv : v < n) : ∃ rest, allRows g n = pre g v k ++ rest := by
  obtain ⟨rest, h⟩ := allRows_prefix g (n - (v + 1)) (v + 1)
  rw [show v + 1 + (n - (v + 1)) = n from by omega] at h
  refine ⟨(edgesRow g v).drop k ++ rest, ?_⟩
  rw [h, allRows, pre, List.append_assoc, List.append_assoc, ← List.append_assoc (List.take k _), List.take_append_drop]

theorem cnt_le (g : List (List Nat)) (n v k : Nat) (hv : v < n) (w : Nat) : cnt (pre g v k) w ≤ cnt (allRows g n) w := by
  obtain ⟨rest, h⟩ := pre_prefix g n v k hv
  rw [h]
  simp [cnt, List.countP_append]

/-- One edge is yet to come: there is room. -/
theorem cnt_lt (g : List (List Nat)) (n v k : Nat) (hv : v < n) (hk : k < (rowN g v).length) : cnt (pre g v k) ((rowN g v).getD k 0) < cnt (allRows g n) ((rowN g v).getD k 0) := by
  have h := cnt_le g n v (k + 1) hv ((rowN g v).getD k 0)
  rw [pre_succ g v k hk, cnt_snoc, if_pos rfl] at h
  omega

theorem sumc_mono (E : List (Nat × Nat)) : ∀ j w, sumc E w ≤ sumc E (w + j) := by
  intro j
  induction j with
  | zero => intro w; exact Nat.le_refl _
  | succ j ih => intro w; have := ih w; rw [← Nat.add_assoc, sumc]; omega

theorem sumc_le (E : List (Nat × Nat)) {a b : Nat} (h : a ≤ b) : sumc E a ≤ sumc E b := by
  have := sumc_mono E (b - a) a
  rwa [show a + (b - a) = b from by omega] at this

theorem sumc_cons (e : Nat × Nat) (E : List (Nat × Nat)) : ∀ n, sumc (e :: E) n = sumc E n + if e.2 < n then 1 else 0 := by
  intro n
  induction n with
  | zero => simp [sumc]
  | succ n ih =>
    rw [sumc, sumc, ih]
    have hc : cnt (e :: E) n = cnt E n + if e.2 = n then 1 else 0 := by
      by_cases h : e.2 = n
      · simp [cnt, h]
      · simp [cnt, h]
    rw [hc]
    by_cases h1 : e.2 < n
    · rw [if_pos h1, if_neg (by omega), if_pos (by omega)]; omega
    · by_cases h2 : e.2 = n
      · rw [if_neg h1, if_pos h2, if_pos (by omega)]; omega
      · rw [if_neg h1, if_neg h2, if_neg (by omega)]; omega

theorem sumc_length (E : List (Nat × Nat)) (n : Nat) : sumc E n ≤ E.length := by
  induction E with
  | nil =>
    have : ∀ n, sumc [] n = 0 := by
      intro n
      induction n with
      | zero => rfl
      | succ n ih => rw [sumc, ih]; rfl
    rw [this]; exact Nat.zero_le _
  | cons e E ih =>
    rw [sumc_cons]
    simp only [List.length_cons]
    split <;> omega

theorem mem_allRows (g : List (List Nat)) : ∀ n u w, (u, w) ∈ allRows g n ↔ u < n ∧ w ∈ rowN g u := by
  intro n
  induction n with
  | zero => intro u w; simp [allRows]
  | succ n ih =>
    intro u w
    rw [allRows, List.mem_append, ih]
    constructor
    · intro h
      rcases h with h | h
      · exact ⟨by omega, h.2⟩
      · simp only [edgesRow, List.mem_map, Prod.mk.injEq] at h
        obtain ⟨x, hx, rfl, rfl⟩ := h
        exact ⟨by omega, hx⟩
    · rintro ⟨h1, h2⟩
      by_cases e : u = n
      · subst e
        right
        exact List.mem_map.2 ⟨w, h2, rfl⟩
      · exact .inl ⟨by omega, h2⟩

/-- The rows of the transposed graph, compressed. -/
structure TransOK (g : List (List Nat)) (S I : List Nat) : Prop where
  len : S.length = g.length + 1
  mono : ∀ v, v < g.length → S.getD v 0 ≤ S.getD (v + 1) 0 ∧ S.getD (v + 1) 0 ≤ I.length
  small : I.length ≤ 131072
  sound : ∀ v, v < g.length → ∀ k, S.getD v 0 ≤ k → k < S.getD (v + 1) 0 → Edge g (I.getD k 0) v
  whole : ∀ u v, Edge g u v → v < g.length → ∃ k, S.getD v 0 ≤ k ∧ k < S.getD (v + 1) 0 ∧ I.getD k 0 = u

/-- The filling, behind the edges P. -/
structure Fill (g : List (List Nat)) (P : List (Nat × Nat)) (I F : List Nat) : Prop where
  li : I.length = sumc (allRows g g.length) g.length
  lf : F.length = g.length
  at_ : ∀ w, w < g.length → F.getD w 0 = sumc (allRows g g.length) w + cnt P w
  sound : ∀ w, w < g.length → ∀ k, sumc (allRows g g.length) w ≤ k → k < F.getD w 0 → (I.getD k 0, w) ∈ P
  whole : ∀ u w, (u, w) ∈ P → w < g.length → ∃ k, sumc (allRows g g.length) w ≤ k ∧ k < F.getD w 0 ∧ I.getD k 0 = u

theorem Fill.start (g : List (List Nat)) (I F : List Nat) (h1 : I.length = sumc (allRows g g.length) g.length) (h2 : F.length = g.length) (h3 : ∀ w, w < g.length → F.getD w 0 = sumc (allRows g g.length) w) : Fill g [] I F := by
  refine ⟨h1, h2, fun w hw => by rw [h3 w hw]; rfl, fun w hw k k1 k2 => ?_, fun u w h => by cases h⟩
  rw [h3 w hw] at k2
  omega

theorem Fill.step {g : List (List Nat)} {I F : List Nat} {v k : Nat} (hw : WF g) (hv : v < g.length) (hk : k < (rowN g v).length) (h : Fill g (pre g v k) I F) (d f : Nat) (hd : d = (rowN g v).getD k 0) (hf : f = F.getD d 0) :
    d < g.length ∧ f < I.length ∧ Fill g (pre g v (k + 1)) (I.set f v) (F.set d (f + 1)) := by
  have hdn : d < g.length := by rw [hd]; exact hw v _ (edge_of_at hv hk)
  have hlt := cnt_lt g g.length v k hv hk
  rw [← hd] at hlt
  have hfa := h.at_ d hdn
  have hup : ∀ w, w < g.length → F.getD w 0 ≤ sumc (allRows g g.length) (w + 1) := by
    intro w hw'
    rw [h.at_ w hw', sumc]
    have := cnt_le g g.length v k hv w
    omega
  have hfd : f < sumc (allRows g g.length) (d + 1) := by rw [hf, hfa, sumc]; omega
  have hfl : f < I.length := by
    rw [h.li]
    have := sumc_le (allRows g g.length) (show d + 1 ≤ g.length from hdn)
    omega
  have hpre := pre_succ g v k hk
  rw [← hd] at hpre
  have far : ∀ w, w < g.length → w ≠ d → ∀ j, sumc (allRows g g.length) w ≤ j → j < F.getD w 0 → j ≠ f := by
    intro w hw' hne j j1 j2 e
    have h1 := hup w hw'
    rcases Nat.lt_or_gt_of_ne hne with hlt' | hgt
    · have := sumc_le (allRows g g.length) (show w + 1 ≤ d from hlt')
      have : sumc (allRows g g.length) d ≤ f := by rw [hf, hfa]; omega
      omega
    · have := sumc_le (allRows g g.length) (show d + 1 ≤ w from hgt)
      omega
  have fd : (F.set d (f + 1)).getD d 0 = f + 1 := getD_set_self _ _ _ _ (by rw [h.lf]; exact hdn)
  have fo : ∀ w, w ≠ d → (F.set d (f + 1)).getD w 0 = F.getD w 0 := fun w hne => getD_set_ne _ _ _ _ _ (Ne.symm hne)
  refine ⟨hdn, hfl, by simpa using h.li, by simpa using h.lf, fun w hw' => ?_, fun w hw' j j1 j2 => ?_, fun u w hm hw' => ?_⟩
  · rw [hpre, cnt_snoc]
    by_cases e : w = d
    · subst e
      rw [fd, if_pos rfl, hf, hfa]; omega
    · rw [fo w e, if_neg (fun h' => e h'.symm), h.at_ w hw']; rfl
  · rw [hpre, List.mem_append]
    by_cases e : w = d
    · subst e
      rw [fd] at j2
      by_cases ej : j = f
      · subst ej
        right
        rw [getD_set_self _ _ _ _ hfl]
        exact List.mem_singleton.2 rfl
      · left
        rw [getD_set_ne _ _ _ _ _ (Ne.symm ej)]
        exact h.sound w hw' j j1 (by omega)
    · left
      rw [fo w e] at j2
      rw [getD_set_ne _ _ _ _ _ (Ne.symm (far w hw' e j j1 j2))]
      exact h.sound w hw' j j1 j2
  · rw [hpre, List.mem_append] at hm
    rcases hm with hm | hm
    · obtain ⟨j, j1, j2, j3⟩ := h.whole u w hm hw'
      refine ⟨j, j1, ?_, ?_⟩
      · by_cases e : w = d
        · subst e; rw [fd]; omega
        · rw [fo w e]; exact j2
      · have hjf : j ≠ f := by
          by_cases e : w = d
          · subst e; omega
          · exact far w hw' e j j1 j2
        rw [getD_set_ne _ _ _ _ _ (Ne.symm hjf)]
        exact j3
    · have : u = v ∧ w = d := by simpa using hm
      obtain ⟨rfl, rfl⟩ := this
      exact ⟨f, by rw [hf, hfa]; omega, by rw [fd]; omega, getD_set_self _ _ _ _ hfl⟩

theorem Fill.done {g : List (List Nat)} {S I F : List Nat} (hl : S.length = g.length + 1) (hS : ∀ w, w ≤ g.length → S.getD w 0 = sumc (allRows g g.length) w) (hm : (allRows g g.length).length ≤ 131072) (h : Fill g (allRows g g.length) I F) : TransOK g S I := by
  have hF : ∀ w, w < g.length → F.getD w 0 = S.getD (w + 1) 0 := fun w hw => by rw [h.at_ w hw, hS (w + 1) (by omega), sumc]
  refine ⟨hl, fun v hv => ?_, ?_, fun v hv k k1 k2 => ?_, fun u v he hv => ?_⟩
  · rw [hS v (by omega), hS (v + 1) (by omega), h.li]
    exact ⟨sumc_le _ (by omega), sumc_le _ hv⟩
  · rw [h.li]; have := sumc_length (allRows g g.length) g.length; omega
  · have := h.sound v hv k (by rw [← hS v (by omega)]; exact k1) (by rw [hF v hv]; exact k2)
    exact (mem_allRows g g.length _ _).1 this
  · obtain ⟨k, k1, k2, k3⟩ := h.whole u v ((mem_allRows g g.length u v).2 he) hv
    exact ⟨k, by rw [hS v (by omega)]; exact k1, by rw [← hF v hv]; exact k2, k3⟩
end Go.Proofs.Qxb6600314a
