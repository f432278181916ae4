import Derived.Test.Qxb6600314aCompWalk
import Derived.Test.Qxb6600314aTransPlain
namespace Go.Proofs.Qxb6600314a
open Go.RowKit

/-- The row of starts lies in block N. -/
structure TR1 (N : Nat) (w wr : World) (S : List Nat) : Prop where
  below : Below N w wr
  size : wr.heap.size = N + 1
  b0 : wr.heap[N]? = some (.cells (ints S) 3 (0, 0))

/-- starts, into and fill lie in blocks N, N + 1, N + 2. -/
structure TR3 (N : Nat) (w wr : World) (S I F : List Nat) : Prop where
  below : Below N w wr
  b0 : wr.heap[N]? = some (.cells (ints S) 3 (0, 0))
  b1 : wr.heap[N + 1]? = some (.cells (ints I) 3 (0, 0))
  b2 : wr.heap[N + 2]? = some (.cells (ints F) 3 (0, 0))

section
variable {N : Nat} {w wr : World} {S I F : List Nat}
theorem TR1.drewN (h : TR1 N w wr S) (q : Nat) : TR1 N w (wr.drewN q) S := ⟨below_drewN h.below q, h.size, h.b0⟩
theorem TR1.set (h : TR1 N w wr S) (i x : Nat) : TR1 N w (wr.setCell ⟨N, i, none⟩ (.int .i64 (x : Int))) (S.set i x) :=
  ⟨h.below.setCell (by simp) _, by simpa using h.size, by rw [heap_setCell_same _ _ _ _ _ _ h.b0, ints_set]⟩
theorem TR1.grow (h : TR1 N w wr S) (m n : Nat) : TR3 N w ((wr.alloc (.cells (madeCells #[.int .i64 0] m) 3)).alloc (.cells (madeCells #[.int .i64 0] n) 3)) S (List.replicate m 0) (List.replicate n 0) := by
  have hs := h.size
  refine ⟨(h.below.alloc (by omega) _).alloc (by simp; omega) _, ?_, ?_, ?_⟩
  · rw [hB _ _ _ (by simp; omega), hB _ _ _ (by omega)]; exact h.b0
  · rw [hB _ _ _ (by simp; omega), hA _ _ _ (by omega), ints_rep]
  · rw [hA _ _ _ (by simp; omega), ints_rep]
theorem TR3.setI (h : TR3 N w wr S I F) (i x : Nat) : TR3 N w (wr.setCell ⟨N + 1, i, none⟩ (.int .i64 (x : Int))) S (I.set i x) F :=
  ⟨h.below.setCell (by simp) _, by rw [sB _ _ _ _ _ (by omega)]; exact h.b0, by rw [heap_setCell_same _ _ _ _ _ _ h.b1, ints_set], by rw [sB _ _ _ _ _ (by omega)]; exact h.b2⟩
theorem TR3.setF (h : TR3 N w wr S I F) (i x : Nat) : TR3 N w (wr.setCell ⟨N + 2, i, none⟩ (.int .i64 (x : Int))) S I (F.set i x) :=
  ⟨h.below.setCell (by simp) _, by rw [sB _ _ _ _ _ (by omega)]; exact h.b0, by rw [sB _ _ _ _ _ (by omega)]; exact h.b1, by rw [heap_setCell_same _ _ _ _ _ _ h.b2, ints_set]⟩
end

/-- A row of the graph, in a later world. -/
theorem row_at {N n : Nat} {w wr : World} {a : Option Addr} {g : List (List Nat)} (h : GAt w N a (castG g)) (hb : Below N w wr) (hn : n = g.length) {v : Nat} (hv : v < n) :
    ∃ b o A C, a = some ⟨b, o, none⟩ ∧ b < N ∧ wr.cell? ⟨b, o + v, none⟩ = some (.slice A (rowN g v).length C) ∧
      ∀ k, k < (rowN g v).length → ∃ b' o', A = some ⟨b', o', none⟩ ∧ b' < N ∧ w.cell? ⟨b', o' + k, none⟩ = some (.int .i64 (((rowN g v).getD k 0 : Nat) : Int)) := by
  obtain ⟨b, o, A, C, h1, h2, h3, h4, h5, h6, h7⟩ := h.row v (by rw [castG_length, ← hn]; exact hv)
  have hlen : (rw' (castG g) v).length = (rowN g v).length := by rw [castG_row]; simp
  rw [hlen] at h3 h7
  refine ⟨b, o, A, C, h1, h2, (hb.cell (p := ⟨b, o + v, none⟩) h2).trans h3, fun k hk => ?_⟩
  obtain ⟨b', o', k1, k2, k3⟩ := h7 k hk
  exact ⟨b', o', k1, k2, by rw [k3, castG_at]⟩

/-- What transpose leaves. -/
def TransPost (w : World) (g : List (List Nat)) (e : Ending) (w' : World) : Prop :=
  ∃ S I, e = .returned (.tuple #[.slice (some ⟨w.heap.size, 0, none⟩) (g.length + 1) (g.length + 1), .slice (some ⟨w.heap.size + 1, 0, none⟩) I.length I.length]) ∧ TransOK g S I ∧ Below w.heap.size w w' ∧
    w'.heap[w.heap.size]? = some (.cells (ints S) 3 (0, 0)) ∧ w'.heap[w.heap.size + 1]? = some (.cells (ints I) 3 (0, 0))

theorem ret_two {a b : Option Addr} {n m n' m' : Nat} (h1 : n = n') (h2 : m = m') : Ending.returned (.tuple #[.slice a n n, .slice b m m]) = .returned (.tuple #[.slice a n' n', .slice b m' m']) := by rw [h1, h2]

set_option maxRecDepth 20000 in
set_option maxHeartbeats 1000000 in
theorem trans_any (a : Option Addr) (cap : Nat) (g : List (List Nat)) (w : World) (h : GAt w w.heap.size a (castG g)) (hw : WF g) (hn : g.length ≤ 65536) (hm : (allRows g g.length).length ≤ 131072) :
    Calls Try.prog 20 #[.slice a g.length cap] w (TransPost w g) := by
  have HG : Hid (GAt w w.heap.size a (castG g)) := h
  have HW : Hid (WF g) := hw
  have HM : Hid ((allRows g g.length).length ≤ 131072) := hm
  clear h hw hm
  obtain ⟨n, hnn⟩ : ∃ n, n = g.length := ⟨_, rfl⟩
  rw [← hnn] at hn ⊢
  have HN : Hid (n = g.length) := hnn
  clear hnn
  have hmk := fun w => run_make_row' (P := Try.prog) 25 3 (.int .i64 0) 8 Try.underlying25 info3 rfl .i64 .i64 (n + 1) (by omega) (by omega) w
  have ec : ((n + 1 : Nat) : Int) = (n : Int) + 1 := by omega
  rw [ec] at hmk
  clear ec
  have hst : TR1 w.heap.size w (w.alloc (.cells (madeCells #[.int .i64 0] (n + 1)) 3)) (List.replicate (n + 1) 0) :=
    ⟨(Below.refl _ _).alloc (Nat.le_refl _) _, by simp, by rw [heap_alloc_new, ints_rep]⟩
  have HST : Hid (TR1 w.heap.size w (w.alloc (.cells (madeCells #[.int .i64 0] (n + 1)) 3)) (List.replicate (n + 1) 0)) := hst
  clear hst
  go_enter Try.func20, Try.ntmps20
  go_wp2
  clear hmk
  go_loopw [6] (fun i wr => ∃ (v : Nat) (S : List Nat), v ≤ n ∧ i = .int .i64 (v : Int) ∧ TR1 w.heap.size w wr S ∧ S.length = n + 1 ∧ S.getD 0 0 = 0 ∧ ∀ x, x < n → S.getD (x + 1) 0 = cnt (allRows g v) x) (fun i _ => n - (intOf i).toNat)
  case atStart =>
    refine ⟨0, _, by omega, rfl, HST.out, by simp, by simp [List.getD], fun x hx => ?_⟩
    simp [List.getD, hx, cnt, allRows]
  case round =>
    clear HST
    obtain ⟨v, S, hv, rfl, ht, hl, h0, hx⟩ := hrel
    have HT : Hid (TR1 w.heap.size w wr S) := ht
    have HX : Hid (S.length = n + 1 ∧ S.getD 0 0 = 0 ∧ ∀ x, x < n → S.getD (x + 1) 0 = cnt (allRows g v) x) := ⟨hl, h0, hx⟩
    clear ht hl h0 hx
    by_cases hlt : v < n
    · obtain ⟨b, o, A, C, ha, hbN, hcr, hrow⟩ := row_at HG.out HT.out.below HN.out hlt
      obtain ⟨L, hL⟩ : ∃ L, L = (rowN g v).length := ⟨_, rfl⟩
      rw [← hL] at hcr hrow
      have HL : Hid (L = (rowN g v).length) := hL
      have HROW : Hid (∀ k, k < L → ∃ b' o', A = some ⟨b', o', none⟩ ∧ b' < w.heap.size ∧ w.cell? ⟨b', o' + k, none⟩ = some (.int .i64 (((rowN g v).getD k 0 : Nat) : Int))) := hrow
      have hLm : L ≤ 131072 := by
        have h1 := pre_prefix g g.length v L (by rw [← HN.out]; exact hlt)
        obtain ⟨rest, h2⟩ := h1
        have h3 := HM.out
        rw [h2, pre, List.length_append, List.length_append, List.length_take] at h3
        simp only [edgesRow, List.length_map] at h3
        omega
      clear hrow hL
      rw [ha]
      clear ha
      go_wp2
      clear hcr
      go_loopw [8] (fun i wr => ∃ (k : Nat) (S : List Nat), k ≤ L ∧ i = .int .i64 (k : Int) ∧ TR1 w.heap.size w wr S ∧ S.length = n + 1 ∧ S.getD 0 0 = 0 ∧ ∀ x, x < n → S.getD (x + 1) 0 = cnt (pre g v k) x) (fun i _ => L - (intOf i).toNat)
      case atStart => exact ⟨0, S, by omega, rfl, HT.out, HX.out.1, HX.out.2.1, by rw [pre_zero]; exact HX.out.2.2⟩
      case round =>
        clear HT HX
        rename List Nat => S0
        obtain ⟨k, S, hk, rfl, ht, hl, h0, hx⟩ := hrel
        have HT : Hid (TR1 w.heap.size w wr S) := ht
        have HX : Hid (S.length = n + 1 ∧ S.getD 0 0 = 0 ∧ ∀ x, x < n → S.getD (x + 1) 0 = cnt (pre g v k) x) := ⟨hl, h0, hx⟩
        clear ht hl h0 hx
        by_cases hkl : k < L
        · obtain ⟨b', o', hA, hb', hct⟩ := HROW.out k hkl
          obtain ⟨d, hd⟩ : ∃ d, d = (rowN g v).getD k 0 := ⟨_, rfl⟩
          have hdn : d < n := by rw [hd, HN.out]; exact HW.out v _ (edge_of_at (by rw [← HN.out]; exact hlt) (by rw [← HL.out]; exact hkl))
          rw [← hd] at hct
          have hct' : wr.cell? ⟨b', o' + k, none⟩ = some (.int .i64 (d : Int)) := (HT.out.below.cell (p := ⟨b', o' + k, none⟩) hb').trans hct
          have cS := ints_cell HT.out.b0 (i := d + 1) (by rw [HX.out.1]; omega)
          have fS := frozen_of_row wr w.heap.size (d + 1) _ _ HT.out.b0
          obtain ⟨y, hy⟩ : ∃ y, y = S.getD (d + 1) 0 := ⟨_, rfl⟩
          rw [← hy] at cS
          have hyb : y ≤ 131072 := by
            rw [hy, HX.out.2.2 d hdn]
            have h1 := cnt_le g g.length v k (by rw [← HN.out]; exact hlt) d
            have h2 : cnt (allRows g g.length) d ≤ (allRows g g.length).length := List.countP_le_length
            have h3 := HM.out
            omega
          have HY : Hid (y = S.getD (d + 1) 0 ∧ d = (rowN g v).getD k 0) := ⟨hy, hd⟩
          clear hct hy hd
          subst hA
          go_wp2
          go_roundw
          case rel =>
            refine ⟨k + 1, S.set (d + 1) (y + 1), by omega, by go_num, HT.out.set (d + 1) (y + 1), by simp [HX.out.1], ?_, fun x hxn => ?_⟩
            · rw [getD_set_ne _ _ _ _ _ (by omega)]; exact HX.out.2.1
            · rw [pre_succ g v k (by rw [← HL.out]; exact hkl), cnt_snoc, ← HY.out.2]
              by_cases e : d = x
              · subst e
                rw [getD_set_self _ _ _ _ (by rw [HX.out.1]; omega), if_pos rfl, HY.out.1, HX.out.2.2 d hdn]
              · rw [getD_set_ne _ _ _ _ _ (by omega), if_neg e, HX.out.2.2 x hxn]; rfl
          case measure => simp [intOf]; omega
        · go_wp2
          go_roundw
          case rel =>
            have e : k = (rowN g v).length := by rw [← HL.out]; omega
            exact ⟨v + 1, S, by omega, by go_num, HT.out, HX.out.1, HX.out.2.1, by rw [← pre_full g v, ← e]; exact HX.out.2.2⟩
          case measure => simp [intOf]; omega
    · obtain ⟨E, hE⟩ : ∃ E, E = allRows g g.length := ⟨_, rfl⟩
      have HE : Hid (E = allRows g g.length) := hE
      have HX2 : Hid (S.length = n + 1 ∧ S.getD 0 0 = 0 ∧ ∀ x, x < n → S.getD (x + 1) 0 = cnt E x) := by
        refine ⟨HX.out.1, HX.out.2.1, fun x hx => ?_⟩
        rw [HX.out.2.2 x hx, hE, ← HN.out, show v = n from by omega]
      have hEl : E.length ≤ 131072 := by rw [hE]; exact HM.out
      clear HX hE
      go_wp2
      go_loopw [9] (fun i wr => ∃ (t : Nat) (S : List Nat), t ≤ n ∧ i = .int .i64 (t : Int) ∧ TR1 w.heap.size w wr S ∧ S.length = n + 1 ∧ (∀ x, x ≤ t → S.getD x 0 = sumc E x) ∧ ∀ x, t ≤ x → x < n → S.getD (x + 1) 0 = cnt E x) (fun i _ => n - (intOf i).toNat)
      case atStart => exact ⟨0, S, by omega, rfl, HT.out, HX2.out.1, fun x hx => by rw [show x = 0 from by omega]; exact HX2.out.2.1, fun x _ hx => HX2.out.2.2 x hx⟩
      case round =>
        clear HT HX2
        rename List Nat => S0
        obtain ⟨t, S, ht, rfl, htr, hl, h0, hx⟩ := hrel
        have HT : Hid (TR1 w.heap.size w wr S) := htr
        have HX : Hid (S.length = n + 1 ∧ (∀ x, x ≤ t → S.getD x 0 = sumc E x) ∧ ∀ x, t ≤ x → x < n → S.getD (x + 1) 0 = cnt E x) := ⟨hl, h0, hx⟩
        clear htr hl h0 hx
        by_cases htn : t < n
        · have c1 := ints_cell HT.out.b0 (i := t) (by rw [HX.out.1]; omega)
          have c2 := ints_cell HT.out.b0 (i := t + 1) (by rw [HX.out.1]; omega)
          have f2 := frozen_of_row wr w.heap.size (t + 1) _ _ HT.out.b0
          rw [HX.out.2.1 t (Nat.le_refl _)] at c1
          rw [HX.out.2.2 t (Nat.le_refl _) htn] at c2
          have hb : sumc E t + cnt E t ≤ 131072 := by have := sumc_length E (t + 1); rw [sumc] at this; omega
          obtain ⟨x, hx⟩ : ∃ x, x = sumc E t := ⟨_, rfl⟩
          obtain ⟨y, hy⟩ : ∃ y, y = cnt E t := ⟨_, rfl⟩
          rw [← hx] at c1 hb
          rw [← hy] at c2 hb
          have HXY : Hid (x = sumc E t ∧ y = cnt E t) := ⟨hx, hy⟩
          clear hx hy
          go_wp2_with fail
          go_region
          go_wp2
          go_roundw
          case rel =>
            have e : sumc E (t + 1) = y + x := by rw [sumc, ← HXY.out.1, ← HXY.out.2]; omega
            refine ⟨t + 1, S.set (t + 1) (y + x), by omega, by go_num, (HT.out.set (t + 1) (y + x)).drewN 1, by simp [HX.out.1], fun z hz => ?_, fun z hz1 hz2 => ?_⟩
            · by_cases ez : z = t + 1
              · subst ez; rw [getD_set_self _ _ _ _ (by rw [HX.out.1]; omega), e]
              · rw [getD_set_ne _ _ _ _ _ (by omega)]; exact HX.out.2.1 z (by omega)
            · rw [getD_set_ne _ _ _ _ _ (by omega)]; exact HX.out.2.2 z (by omega) hz2
          case measure => simp [intOf]; omega
        · have HSS : Hid (S.length = n + 1 ∧ ∀ x, x ≤ n → S.getD x 0 = sumc E x) := ⟨HX.out.1, fun x hx => HX.out.2.1 x (by omega)⟩
          clear HX
          have cn := ints_cell HT.out.b0 (i := n) (by rw [HSS.out.1]; omega)
          rw [HSS.out.2 n (Nat.le_refl _)] at cn
          have hmle : sumc E n ≤ 131072 := by have := sumc_length E n; omega
          obtain ⟨m, hm⟩ : ∃ m, m = sumc E n := ⟨_, rfl⟩
          rw [← hm] at cn hmle
          have HMM : Hid (m = sumc E n) := hm
          clear hm
          have hmk := fun w => run_make_row' (P := Try.prog) 25 3 (.int .i64 0) 8 Try.underlying25 info3 rfl .i64 .i64 m (by omega) (by omega) w
          have hmk2 := fun w => run_make_row' (P := Try.prog) 25 3 (.int .i64 0) 8 Try.underlying25 info3 rfl .i64 .i64 n (by omega) (by omega) w
          have hsz := HT.out.size
          have HG3 : Hid (TR3 w.heap.size w ((wr.alloc (.cells (madeCells #[.int .i64 0] m) 3)).alloc (.cells (madeCells #[.int .i64 0] n) 3)) S (List.replicate m 0) (List.replicate n 0)) := HT.out.grow m n
          go_wp2
          clear hmk hmk2 cn hsz HT
          simp only [Nat.add_assoc, Nat.reduceAdd]
          go_loopw [12] (fun i wr => ∃ (u : Nat) (F : List Nat), u ≤ n ∧ i = .int .i64 (u : Int) ∧ TR3 w.heap.size w wr S (List.replicate m 0) F ∧ F.length = n ∧ ∀ x, x < u → F.getD x 0 = sumc E x) (fun i _ => n - (intOf i).toNat)
          case atStart => exact ⟨0, _, by omega, rfl, HG3.out, by simp, by omega⟩
          case round =>
            clear HG3
            obtain ⟨u, F, hu, rfl, htr, hl, hx⟩ := hrel
            have HT : Hid (TR3 w.heap.size w wr S (List.replicate m 0) F) := htr
            have HX : Hid (F.length = n ∧ ∀ x, x < u → F.getD x 0 = sumc E x) := ⟨hl, hx⟩
            clear htr hl hx
            by_cases hun : u < n
            · have c0 := ints_cell HT.out.b0 (i := u) (by rw [HSS.out.1]; omega)
              rw [HSS.out.2 u (by omega)] at c0
              have c2 := ints_cell HT.out.b2 (i := u) (by rw [HX.out.1]; exact hun)
              have f2 := frozen_of_row wr (w.heap.size + 2) u _ _ HT.out.b2
              obtain ⟨y, hy⟩ : ∃ y, y = sumc E u := ⟨_, rfl⟩
              rw [← hy] at c0
              have HY : Hid (y = sumc E u) := hy
              clear hy
              go_wp2
              go_roundw
              case rel =>
                refine ⟨u + 1, F.set u y, by omega, by go_num, HT.out.setF u y, by simp [HX.out.1], fun x hx => ?_⟩
                by_cases e : x = u
                · subst e; rw [getD_set_self _ _ _ _ (by rw [HX.out.1]; exact hun)]; exact HY.out
                · rw [getD_set_ne _ _ _ _ _ (by omega)]; exact HX.out.2 x (by omega)
              case measure => simp [intOf]; omega
            · have HF : Hid (Fill g [] (List.replicate m 0) F) := by
                refine Fill.start g _ _ ?_ (by rw [← HN.out]; exact HX.out.1) (fun x hx => ?_)
                · rw [← HE.out, ← HN.out, ← HMM.out]; simp
                · rw [← HE.out]; exact HX.out.2 x (by rw [← HN.out] at hx; omega)
              clear HX
              go_wp2
              go_loopw [13] (fun i wr => ∃ (v : Nat) (I F : List Nat), v ≤ n ∧ i = .int .i64 (v : Int) ∧ TR3 w.heap.size w wr S I F ∧ I.length = m ∧ Fill g (allRows g v) I F) (fun i _ => n - (intOf i).toNat)
              case atStart => exact ⟨0, _, F, by omega, rfl, HT.out, by simp, HF.out⟩
              case round =>
                clear HT HF
                obtain ⟨p, I, F', hp, rfl, htr, hlI, hfill⟩ := hrel
                have HT : Hid (TR3 w.heap.size w wr S I F') := htr
                have HF : Hid (Fill g (allRows g p) I F') := hfill
                have HI : Hid (I.length = m) := hlI
                clear htr hfill hlI
                by_cases hpn : p < n
                · obtain ⟨b, o, A, C, ha, hbN, hcr, hrow⟩ := row_at HG.out HT.out.below HN.out hpn
                  obtain ⟨L, hL⟩ : ∃ L, L = (rowN g p).length := ⟨_, rfl⟩
                  rw [← hL] at hcr hrow
                  have HL : Hid (L = (rowN g p).length) := hL
                  have HROW : Hid (∀ k, k < L → ∃ b' o', A = some ⟨b', o', none⟩ ∧ b' < w.heap.size ∧ w.cell? ⟨b', o' + k, none⟩ = some (.int .i64 (((rowN g p).getD k 0 : Nat) : Int))) := hrow
                  have hLm : L ≤ 131072 := by
                    have h1 := pre_prefix g g.length p L (by rw [← HN.out]; exact hpn)
                    obtain ⟨rest, h2⟩ := h1
                    have h3 := HM.out
                    rw [h2, pre, List.length_append, List.length_append, List.length_take] at h3
                    simp only [edgesRow, List.length_map] at h3
                    omega
                  clear hrow hL
                  rw [ha]
                  clear ha
                  go_wp2
                  clear hcr
                  go_loopw [15] (fun i wr => ∃ (k : Nat) (I F : List Nat), k ≤ L ∧ i = .int .i64 (k : Int) ∧ TR3 w.heap.size w wr S I F ∧ I.length = m ∧ Fill g (pre g p k) I F) (fun i _ => L - (intOf i).toNat)
                  case atStart => exact ⟨0, I, F', by omega, rfl, HT.out, HI.out, by rw [pre_zero]; exact HF.out⟩
                  case round =>
                    clear HT HF HI
                    obtain ⟨k, I2, F2, hk, rfl, htr, hlI, hfill⟩ := hrel
                    have HT : Hid (TR3 w.heap.size w wr S I2 F2) := htr
                    have HF : Hid (Fill g (pre g p k) I2 F2) := hfill
                    have HI : Hid (I2.length = m) := hlI
                    clear htr hfill hlI
                    by_cases hkl : k < L
                    · obtain ⟨b', o', hA, hb', hct⟩ := HROW.out k hkl
                      obtain ⟨d, hd⟩ : ∃ d, d = (rowN g p).getD k 0 := ⟨_, rfl⟩
                      obtain ⟨f, hf⟩ : ∃ f, f = F2.getD d 0 := ⟨_, rfl⟩
                      obtain ⟨hdn, hfl, hnext⟩ := Fill.step HW.out (by rw [← HN.out]; exact hpn) (by rw [← HL.out]; exact hkl) HF.out d f hd hf
                      have HNX : Hid (Fill g (pre g p (k + 1)) (I2.set f p) (F2.set d (f + 1))) := hnext
                      rw [← HN.out] at hdn
                      have hlI := HI.out
                      rw [hlI] at hfl
                      rw [← hd] at hct
                      have hct' : wr.cell? ⟨b', o' + k, none⟩ = some (.int .i64 (d : Int)) := (HT.out.below.cell (p := ⟨b', o' + k, none⟩) hb').trans hct
                      have cF := ints_cell HT.out.b2 (i := d) (by rw [HF.out.lf, ← HN.out]; exact hdn)
                      have fF := frozen_of_row wr (w.heap.size + 2) d _ _ HT.out.b2
                      rw [← hf] at cF
                      have cI := ints_cell HT.out.b1 (i := f) (by rw [hlI]; exact hfl)
                      have fI := frozen_of_row wr (w.heap.size + 1) f _ _ HT.out.b1
                      clear hct hd hf hnext hlI
                      subst hA
                      go_wp2
                      go_roundw
                      case rel => exact ⟨k + 1, I2.set f p, F2.set d (f + 1), by omega, by go_num, (HT.out.setI f p).setF d (f + 1), by simp [HI.out], HNX.out⟩
                      case measure => simp [intOf]; omega
                    · go_wp2
                      go_roundw
                      case rel =>
                        have e : k = (rowN g p).length := by rw [← HL.out]; omega
                        exact ⟨p + 1, I2, F2, by omega, by go_num, HT.out, HI.out, by rw [← pre_full g p, ← e]; exact HF.out⟩
                      case measure => simp [intOf]; omega
                · have HOK : Hid (TransOK g S I) := by
                    have h1 := HF.out
                    rw [show p = g.length from by rw [← HN.out]; omega] at h1
                    refine Fill.done (F := F') (by rw [← HN.out]; exact HSS.out.1) (fun x hx => ?_) HM.out h1
                    rw [← HE.out]
                    exact HSS.out.2 x (by rw [HN.out]; exact hx)
                  go_wp2
                  go_ret2
                  exact ⟨S, I, ret_two (by rw [← HN.out]) HI.out.symm, HOK.out, HT.out.below, HT.out.b0, HT.out.b1⟩
end Go.Proofs.Qxb6600314a
