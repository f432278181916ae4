import Derived.Test.Qxb6600314aGraphWalk
namespace Go.Proofs.Qxb6600314a
open Go.RowKit

theorem info3 : (Try.prog.info? 3).map (fun i => (i.zero, i.size, i.bytes)) = some (some (.int .i64 0), 1, 8) := by kernel_rfl
theorem info25 : (Try.prog.info? 25).map (fun i => (i.zero, i.size, i.bytes)) = some (some (.slice none 0 0), 1, 24) := by kernel_rfl

/-- The clone's cells behind k rounds. -/
def cp (zs : List Int) (len k : Nat) : Array Value := ((zs.take k).map (Value.int .i64) ++ List.replicate (len - k) (Value.int .i64 0)).toArray

theorem cp_zero (zs : List Int) (len : Nat) : madeCells #[.int .i64 0] len = cp zs len 0 := by
  apply Array.ext'
  rw [toList_madeCells_one]
  simp [cp]

theorem cp_size (zs : List Int) (len k : Nat) (hk : k ≤ len) (hz : len ≤ zs.length) : (cp zs len k).size = len := by
  simp [cp]; omega

theorem cp_step (zs : List Int) (len k : Nat) (hk : k < len) (hz : len ≤ zs.length) : (cp zs len k).setIfInBounds k (.int .i64 (zs.getD k 0)) = cp zs len (k + 1) := by
  apply Array.ext'
  simp only [cp, Array.toList_setIfInBounds]
  have e : len - k = (len - (k + 1)) + 1 := by omega
  rw [e, List.replicate_succ, List.set_append]
  have hl : ((zs.take k).map (Value.int .i64)).length = k := by simp; omega
  have hg : zs.getD k 0 = zs[k] := by simp [List.getD, (by omega : k < zs.length)]
  rw [if_neg (by omega), hl, Nat.sub_self, List.set_cons_zero, List.take_succ_eq_append_getElem (by omega : k < zs.length), hg]
  simp only [List.map_append, List.map_cons, List.map_nil, List.append_assoc, List.cons_append, List.nil_append]

theorem cp_last (zs : List Int) : cp zs zs.length zs.length = (zs.map (Value.int .i64)).toArray := by
  simp [cp]

/-- Behind k rounds of cloneGraph: the first k rows are copied, the rest are nil. -/
structure Part (N : Nat) (w wr : World) (g : List (List Int)) (k : Nat) : Prop where
  size : N < wr.heap.size
  below : Below N w wr
  free : ∀ i, wr.frozen? ⟨N, i, none⟩ = false
  done : ∀ i, i < k → ∃ A C, wr.cell? ⟨N, i, none⟩ = some (.slice A (rw' g i).length C) ∧ (A = none → C = 0) ∧ C ≤ maxLen ∧ (rw' g i).length ≤ C ∧
    ∀ j, j < (rw' g i).length → ∃ b', A = some ⟨b', 0, none⟩ ∧ N < b' ∧ b' < wr.heap.size ∧ wr.cell? ⟨b', j, none⟩ = some (.int .i64 ((rw' g i).getD j 0))
  rest : ∀ i, k ≤ i → i < g.length → wr.cell? ⟨N, i, none⟩ = some (.slice none 0 0)

theorem Part.start (w : World) (g : List (List Int)) : Part w.heap.size w (w.alloc (.cells (madeCells #[.slice none 0 0] g.length) 25)) g 0 := by
  refine ⟨by simp, (Below.refl _ _).alloc (Nat.le_refl _) _, fun i => ?_, fun i hi => by omega, fun i _ hi => ?_⟩
  · rw [World.frozen?, heap_alloc_new]
    simp
  · rw [World.cell?, heap_alloc_new]
    have hs : (madeCells #[Value.slice none 0 0] g.length)[i]? = some (.slice none 0 0) := by
      rw [← Array.getElem?_toList, toList_madeCells_one]
      simp [hi]
    simp [hs]

theorem Part.skip {N : Nat} {w wr : World} {g : List (List Int)} {k : Nat} (h : Part N w wr g k) (hk : k < g.length) (h0 : (rw' g k).length = 0) : Part N w wr g (k + 1) := by
  refine ⟨h.size, h.below, h.free, fun i hi => ?_, fun i h1 h2 => h.rest i (by omega) h2⟩
  by_cases e : i = k
  · subst e
    exact ⟨none, 0, by rw [h.rest i (Nat.le_refl _) hk, h0], fun _ => rfl, Nat.zero_le _, by omega, fun j hj => by omega⟩
  · exact h.done i (by omega)

theorem Part.copy {N : Nat} {w wr : World} {g : List (List Int)} {k : Nat} (h : Part N w wr g k) (hk : k < g.length) (hl : (rw' g k).length ≤ maxLen) :
    Part N w ((wr.alloc (.cells ((rw' g k).map (Value.int .i64)).toArray 3)).setCell ⟨N, k, none⟩ (.slice (some ⟨wr.heap.size, 0, none⟩) (rw' g k).length (rw' g k).length)) g (k + 1) := by
  have hN := h.size
  have old : ∀ b o, b < wr.heap.size → b ≠ N → ((wr.alloc (.cells ((rw' g k).map (Value.int .i64)).toArray 3)).setCell ⟨N, k, none⟩ (.slice (some ⟨wr.heap.size, 0, none⟩) (rw' g k).length (rw' g k).length)).cell? ⟨b, o, none⟩ = wr.cell? ⟨b, o, none⟩ := by
    intro b o hb hne
    rw [World.cell?_setCell_other _ _ _ _ (by intro e; simp only [Addr.mk.injEq] at e; omega)]
    exact World.cell?_alloc_lt _ _ _ hb
  have same : ∀ i, i ≠ k → ((wr.alloc (.cells ((rw' g k).map (Value.int .i64)).toArray 3)).setCell ⟨N, k, none⟩ (.slice (some ⟨wr.heap.size, 0, none⟩) (rw' g k).length (rw' g k).length)).cell? ⟨N, i, none⟩ = wr.cell? ⟨N, i, none⟩ := by
    intro i hne
    rw [World.cell?_setCell_other _ _ _ _ (by intro e; simp only [Addr.mk.injEq] at e; omega)]
    exact World.cell?_alloc_lt _ _ _ hN
  refine ⟨by simp; omega, (h.below.alloc (by omega) _).setCell (by simp) _, fun i => ?_, fun i hi => ?_, fun i h1 h2 => ?_⟩
  · rw [World.frozen?_setCell, World.frozen?_alloc_old _ _ _ (Nat.ne_of_lt hN)]
    exact h.free i
  · by_cases e : i = k
    · subst e
      refine ⟨_, _, World.cell?_setCell_same _ _ _ (u := .slice none 0 0) ?_, by simp, hl, Nat.le_refl _, fun j hj => ⟨wr.heap.size, rfl, hN, by simp, ?_⟩⟩
      · rw [World.cell?_alloc_lt _ _ _ hN]; exact h.rest i (Nat.le_refl _) hk
      · rw [World.cell?_setCell_other _ _ _ _ (by intro e; simp only [Addr.mk.injEq] at e; omega)]
        rw [World.cell?, heap_alloc_new]
        simp [List.getD, hj]
    · obtain ⟨A, C, h1, h2, h3, h4, h5⟩ := h.done i (by omega)
      refine ⟨A, C, (same i e).trans h1, h2, h3, h4, fun j hj => ?_⟩
      obtain ⟨b', k1, k2, k3, k4⟩ := h5 j hj
      exact ⟨b', k1, k2, by simp; omega, (old b' j k3 (by omega)).trans k4⟩
  · rw [same i (by omega)]
    exact h.rest i (by omega) h2

theorem Part.whole {N : Nat} {w wr : World} {g : List (List Int)} (h : Part N w wr g g.length) (hl : ∀ i, (rw' g i).length ≤ maxLen) : GAt wr wr.heap.size (some ⟨N, 0, none⟩) g := by
  refine ⟨hl, fun i hi => ?_⟩
  obtain ⟨A, C, h1, h2, h3, h4, h5⟩ := h.done i hi
  refine ⟨N, 0, A, C, rfl, h.size, by rw [Nat.zero_add]; exact h1, h2, h3, h4, fun j hj => ?_⟩
  obtain ⟨b', k1, k2, k3, k4⟩ := h5 j hj
  exact ⟨b', 0, k1, k3, by rw [Nat.zero_add]; exact k4⟩

/-- What cloneGraph leaves. -/
def Cloned (w : World) (g : List (List Int)) (e : Ending) (w' : World) : Prop :=
  ∃ a', e = .returned (.slice a' g.length g.length) ∧ GAt w' w'.heap.size a' g ∧ Below w.heap.size w w'

theorem ret_slice {a : Option Addr} {n m : Nat} (h : n = m) : Ending.returned (.slice a n n) = .returned (.slice a m m) := by rw [h]

theorem clone_nil (w : World) : Calls Try.prog 10 #[.slice none 0 0] w (Cloned w []) := by
  have hq := fun w => Lib.run_eql_slice_nil (P := Try.prog) w 22 25 none 0 0 0 0 Try.underlying22
  go_enter Try.func10, Try.ntmps10
  go_wp2
  go_ret
  exact ⟨none, rfl, ⟨fun i => by simp [rw'], fun i hi => by simp at hi⟩, Below.refl _ _⟩

set_option maxHeartbeats 1000000 in
theorem clone_some (x : Addr) (cap : Nat) (g : List (List Int)) (w : World) (h : GAt w w.heap.size (some x) g) (hn : g.length ≤ 65536) (hr : ∀ i, (rw' g i).length ≤ 1048576) :
    Calls Try.prog 10 #[.slice (some x) g.length cap] w (Cloned w g) := by
  have HG : Hid (GAt w w.heap.size (some x) g) := h
  clear h
  obtain ⟨n, hnn⟩ : ∃ n, n = g.length := ⟨_, rfl⟩
  have hp0 := Part.start w g
  rw [← hnn] at hn hp0 ⊢
  have HN : Hid (n = g.length) := hnn
  clear hnn
  have HP0 : Hid (Part w.heap.size w (w.alloc (.cells (madeCells #[.slice none 0 0] n) 25)) g 0) := hp0
  have HR : Hid (∀ i, (rw' g i).length ≤ 1048576) := hr
  clear hp0 hr
  have hq := fun w => Lib.run_eql_slice_nil (P := Try.prog) w 22 25 (some x) n cap 0 0 Try.underlying22
  have hmk := fun w => run_make_row' (P := Try.prog) 22 25 (.slice none 0 0) 24 Try.underlying22 info25 rfl .i64 .i64 n (by omega) (by omega) w
  go_enter Try.func10, Try.ntmps10
  go_wp2
  clear hq hmk
  obtain ⟨N, hNN'⟩ : ∃ N, N = w.heap.size := ⟨_, rfl⟩
  rw [← hNN']
  have hNN : Hid (N = w.heap.size) := hNN'
  clear hNN'
  go_loopw [4] (fun i wr => ∃ k : Nat, k ≤ n ∧ i = .int .i64 k ∧ Part N w wr g k) (fun i _ => n - (intOf i).toNat)
  case atStart => exact ⟨0, by omega, rfl, by rw [hNN.out]; exact HP0.out⟩
  case round =>
    obtain ⟨k, hk, rfl, hp⟩ := hrel
    have HP : Hid (Part N w wr g k) := hp
    clear hp HP0
    by_cases hlt : k < n
    · obtain ⟨b, o, A, C, ha, hb, hc, hA, hC1, hC2, hrow⟩ := HG.out.row k (by rw [← HN.out]; exact hlt)
      rw [← hNN.out] at hb
      have hcw : wr.cell? ⟨b, o + k, none⟩ = some (.slice A (rw' g k).length C) := (HP.out.below.cell (p := ⟨b, o + k, none⟩) hb).trans hc
      obtain ⟨L, hL'⟩ : ∃ L, L = (rw' g k).length := ⟨_, rfl⟩
      have hL := HR.out k
      rw [← hL'] at hL hc hrow hcw hC2
      have HL : Hid (L = (rw' g k).length) := hL'
      clear hL'
      simp only [Option.some.injEq] at ha
      subst ha
      have HROW : Hid (∀ j, j < L → ∃ b' o', A = some ⟨b', o', none⟩ ∧ b' < w.heap.size ∧ w.cell? ⟨b', o' + j, none⟩ = some (.int .i64 ((rw' g k).getD j 0))) := hrow
      have hfr := HP.out.free k
      have hre := HP.out.rest k (Nat.le_refl _) (by rw [← HN.out]; exact hlt)
      have hNs := HP.out.size
      clear hrow hc
      cases A with
      | none =>
        have hC0 := hA rfl
        subst hC0
        obtain rfl : L = 0 := by omega
        have hq2 := fun w => Lib.run_eql_slice_nil (P := Try.prog) w 25 3 none 0 0 0 0 Try.underlying25
        clear hA
        go_wp2
        go_roundw
        case rel => exact ⟨k + 1, by omega, by go_num, HP.out.skip (by rw [← HN.out]; exact hlt) HL.out.symm⟩
        case measure => simp [intOf]; omega
      | some y =>
        have hq2 := fun w => Lib.run_eql_slice_nil (P := Try.prog) w 25 3 (some y) L C 0 0 Try.underlying25
        have hmk := fun w => run_make_row' (P := Try.prog) 25 3 (.int .i64 0) 8 Try.underlying25 info3 rfl .i64 .i64 L (by omega) (by omega) w
        clear hA
        go_wp2
        clear hq2 hmk hcw hfr hre
        rename World => wo
        go_loopw [7] (fun i wr => ∃ t : Nat, t ≤ L ∧ i = .int .i64 t ∧ wr = wo.alloc (.cells (cp (rw' g k) L t) 3)) (fun i _ => L - (intOf i).toNat)
        case atStart => exact ⟨0, by omega, rfl, by rw [cp_zero (rw' g k) L]⟩
        case round =>
          obtain ⟨t, ht, rfl, rfl⟩ := hrel
          by_cases htl : t < L
          · obtain ⟨b', o', hy, hb', hcell⟩ := HROW.out t htl
            simp only [Option.some.injEq] at hy
            subst hy
            rw [← hNN.out] at hb'
            have hbo : b' < wo.heap.size := by omega
            have hc2 : (wo.alloc (.cells (cp (rw' g k) L t) 3)).cell? ⟨b', o' + t, none⟩ = some (.int .i64 ((rw' g k).getD t 0)) := by
              rw [World.cell?_alloc_lt _ _ _ hbo]; exact (HP.out.below.cell (p := ⟨b', o' + t, none⟩) hb').trans hcell
            have hsz := cp_size (rw' g k) L t ht (by rw [← HL.out]; omega)
            have HS : Hid ((cp (rw' g k) L t).setIfInBounds t (.int .i64 ((rw' g k).getD t 0)) = cp (rw' g k) L (t + 1)) := cp_step (rw' g k) L t htl (by rw [← HL.out]; omega)
            obtain ⟨u, hu⟩ : ∃ u, u = (rw' g k).getD t 0 := ⟨_, rfl⟩
            rw [← hu] at hc2 HS
            clear hu hcell
            go_wp2
            go_roundw
            case rel => exact ⟨t + 1, by omega, by go_num, by rw [HS.out]⟩
            case measure => simp [intOf]; omega
          · have e : t = (rw' g k).length := by rw [← HL.out]; omega
            have hcl := cp_last (rw' g k)
            have HC : Hid (cp (rw' g k) L t = ((rw' g k).map (Value.int .i64)).toArray) := by rw [e, HL.out]; exact hcl
            clear hcl e
            have hsz : (cp (rw' g k) L t).size = L := cp_size (rw' g k) L t ht (by rw [← HL.out]; omega)
            have hfr := HP.out.free k
            have hre := HP.out.rest k (Nat.le_refl _) (by rw [← HN.out]; exact hlt)
            have hre2 : (wo.alloc (.cells (cp (rw' g k) L t) 3)).cell? ⟨N, k, none⟩ = some (.slice none 0 0) := by rw [World.cell?_alloc_lt _ _ _ hNs]; exact hre
            have hfr2 : (wo.alloc (.cells (cp (rw' g k) L t) 3)).frozen? ⟨N, k, none⟩ = false := by rw [World.frozen?_alloc_old _ _ _ (Nat.ne_of_lt hNs)]; exact hfr
            clear hre hfr
            go_wp2
            go_roundw
            case rel =>
              have := HP.out.copy (by rw [← HN.out]; exact hlt) (Nat.le_trans (HR.out k) (by unfold maxLen; omega))
              rw [← HL.out, ← HC.out, World.setCell_alloc_past _ _ _ _ hNs] at this
              exact ⟨k + 1, by omega, by go_num, this⟩
            case measure => simp [intOf]; omega
    · have e : k = n := by omega
      have HE : Hid (k = n) := e
      clear e
      go_wp2
      go_ret
      refine ⟨some ⟨N, 0, none⟩, ret_slice HN.out, ?_, ?_⟩
      · have := HP.out
        rw [HE.out, HN.out] at this
        exact this.whole (fun i => Nat.le_trans (HR.out i) (by unfold maxLen; omega))
      · rw [← hNN.out]; exact HP.out.below
end Go.Proofs.Qxb6600314a
