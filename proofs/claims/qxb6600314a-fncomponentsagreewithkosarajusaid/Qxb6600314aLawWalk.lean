import Derived.Test.Qxb6600314aKosWalk
import Derived.Test.Qxb6600314aLawMath
import Derived.Test.Qxb6600314aWellWalk
namespace Go.Proofs.Qxb6600314a
open Go.RowKit

theorem GAt.wide {w : World} {B B' : Nat} {a : Option Addr} {g : List (List Int)} (h1 : GAt w B a g) (hB : B ≤ B') : GAt w B' a g :=
  ⟨h1.lenLe, fun i hi => by
    obtain ⟨b, o, A, C, k1, k2, k3, k4, k5, k6, k7⟩ := h1.row i hi
    exact ⟨b, o, A, C, k1, by omega, k3, k4, k5, k6, fun k hk => by
      obtain ⟨b', o', q1, q2, q3⟩ := k7 k hk
      exact ⟨b', o', q1, by omega, q3⟩⟩⟩

/-- What the law reads: the two answers and the graph. -/
structure Q3 (w w3 : World) (n CB b : Nat) (a1 : Option Addr) (g : List (List Nat)) (C K : Nat → Nat) : Prop where
  below : Below w.heap.size w w3
  ci : CB < w3.heap.size
  cc : ∀ v, v < n → w3.cell? ⟨CB, v, none⟩ = some (.int .i64 (C v : Int))
  bi : b < w3.heap.size
  kc : ∀ v, v < n → w3.cell? ⟨b, v, none⟩ = some (.int .i64 (K v : Int))
  ga : GAt w3 w3.heap.size a1 (castG g)

/-- The two tables, in memory. -/
structure TT (n : Nat) (w3 wr : World) (ko co : List Int) : Prop where
  below : Below w3.heap.size w3 wr
  lk : ko.length = n
  lc : co.length = n
  bk : wr.heap[w3.heap.size]? = some (.cells (zints ko) 3 (0, 0))
  bc : wr.heap[w3.heap.size + 1]? = some (.cells (zints co) 3 (0, 0))

theorem TT.start (w3 : World) (n : Nat) : TT n w3 ((w3.alloc (.cells (madeCells #[.int .i64 0] n) 3)).alloc (.cells (madeCells #[.int .i64 0] n) 3)) (List.replicate n 0) (List.replicate n 0) := by
  refine ⟨((Below.refl _ _).alloc (Nat.le_refl _) _).alloc (by simp) _, by simp, by simp, ?_, ?_⟩
  · rw [hB _ _ _ (by simp), heap_alloc_new, ints_rep]; simp [ints, zints]
  · rw [hA _ _ _ (by simp), ints_rep]; simp [ints, zints]
section
variable {n : Nat} {w3 wr : World} {ko co : List Int}
theorem TT.setK (h : TT n w3 wr ko co) (i : Nat) (x : Int) : TT n w3 (wr.setCell ⟨w3.heap.size, i, none⟩ (.int .i64 x)) (ko.set i x) co :=
  ⟨h.below.setCell (by simp) _, by simpa using h.lk, h.lc, by rw [heap_setCell_same _ _ _ _ _ _ h.bk, zints_set], by rw [sB _ _ _ _ _ (by omega)]; exact h.bc⟩
theorem TT.drewN (h : TT n w3 wr ko co) (q : Nat) : TT n w3 (wr.drewN q) ko co := ⟨below_drewN h.below q, h.lk, h.lc, h.bk, h.bc⟩
theorem TT.setC (h : TT n w3 wr ko co) (i : Nat) (x : Int) : TT n w3 (wr.setCell ⟨w3.heap.size + 1, i, none⟩ (.int .i64 x)) ko (co.set i x) :=
  ⟨h.below.setCell (by simp) _, h.lk, by simpa using h.lc, by rw [sB _ _ _ _ _ (by omega)]; exact h.bk, by rw [heap_setCell_same _ _ _ _ _ _ h.bc, zints_set]⟩
end

set_option maxRecDepth 20000 in
set_option maxHeartbeats 2000000 in
theorem kosLaw (a : Option Addr) (cap : Nat) (g : List (List Int)) (w : World) (h : GAt w w.heap.size a g) (hnil : a = none → g.length = 0 ∧ cap = 0) (hn : g.length ≤ maxLen) :
    Calls Try.prog 3 #[.slice a g.length cap] w fun e w' => e = .returned (.bool true) ∧ Below w.heap.size w w' := by
  have HG : Hid (GAt w w.heap.size a g) := h
  have HNil : Hid (a = none → g.length = 0 ∧ cap = 0) := hnil
  have HB : Hid (Calls Try.prog 7 #[.slice a g.length cap] w (AnyB w)) := bytes7 a cap w.heap.size g w h hn
  have HT : Hid (Calls Try.prog 8 #[.slice a g.length cap] w (SmallB g w)) := tooBig a cap w.heap.size g w h hn
  unfold maxLen at hn
  clear h hnil
  obtain ⟨n, hnn⟩ : ∃ n, n = g.length := ⟨_, rfl⟩
  rw [← hnn] at hn HB HT ⊢
  have HN : Hid (n = g.length) := hnn
  clear hnn
  go_enter Try.func3, Try.ntmps3
  go_wp2_with fail
  refine HB.out.mono ?_
  rintro e w' ⟨r, rfl, hw'⟩
  replace hw' := hw'.symm
  subst hw'
  cases r with
  | false =>
    go_wp2
    go_ret
    exact ⟨rfl, Below.refl _ _⟩
  | true =>
    go_wp2_with fail
    refine HT.out.mono ?_
    rintro e w' ⟨r, rfl, hw', hsm⟩
    replace hw' := hw'.symm
    subst hw'
    cases r with
    | true =>
      go_wp2
      go_ret
      exact ⟨rfl, Below.refl _ _⟩
    | false =>
      have HS : Hid (24 * g.length + 8 * tot g g.length ≤ 1048576) := hsm rfl
      have hn2 : n ≤ 65536 := by rw [HN.out]; have := HS.out; omega
      have HWF : Hid (Calls Try.prog 9 #[.slice a n cap] w (WellB g w)) := by
        have := wellFormed a cap g w HG.out (by rw [← HN.out]; exact hn2) (rows_small g HS.out)
        rw [← HN.out] at this
        exact this
      clear hsm HB HT
      go_wp2_with fail
      refine HWF.out.mono ?_
      rintro e w' ⟨r, rfl, hw', hwf⟩
      replace hw' := hw'.symm
      subst hw'
      cases r with
      | false =>
        go_wp2
        go_ret
        exact ⟨rfl, Below.refl _ _⟩
      | true =>
        have hwf' := hwf rfl
        have hwn : WF (toN g) := wf_toN g hwf'
        have hcast : castG (toN g) = g := castG_toN g (fun i j hi hj => (hwf' i j hi hj).1)
        have hrs : ∀ i, (rowN (toN g) i).length ≤ 1048576 := fun i => by rw [toN_rowlen]; exact rows_small g HS.out i
        have hnl : (toN g).length = n := by rw [toN_length, HN.out]
        have hall : (allRows (toN g) (toN g).length).length ≤ 131072 := by rw [allRows_len, toN_length]; have := HS.out; omega
        obtain ⟨fin, hout, hok⟩ := tarjan (toN g) hwn hrs (by rw [hnl]; exact hn2)
        have HCL : Hid (Calls Try.prog 10 #[.slice a n cap] w (Cloned w g)) := by
          have := clone_any a cap g w HG.out HNil.out (by rw [← HN.out]; exact hn2) (rows_small g HS.out)
          rw [← HN.out] at this
          exact this
        have HCO : Hid (∀ a' w', GAt w' w'.heap.size a' (castG (toN g)) → Calls Try.prog 11 #[.slice a' n n] w' (CompPost w' n fin)) := by
          intro a' w' hga
          have := zzcomp_any a' n (toN g) w' hga (by rw [hnl]; exact hn2) hrs fin hout
          rw [hnl] at this
          exact this
        have HKO : Hid (∀ a' w', GAt w' w'.heap.size a' (castG (toN g)) → Calls Try.prog 12 #[.slice a' n n] w' (KosPost w' (toN g))) := by
          intro a' w' hga
          have := kos_any a' n (toN g) w' hga hwn (by rw [hnl]; exact hn2) hall hrs
          rw [hnl] at this
          exact this
        have HOK : Hid (CompOK (toN g) fin) := hok
        have HCA : Hid (castG (toN g) = g) := hcast
        have HNL : Hid ((toN g).length = n) := hnl
        have HRS : Hid (∀ i, (rowN (toN g) i).length ≤ 1048576) := hrs
        have HWN : Hid (WF (toN g)) := hwn
        clear hwf hwf' hwn hcast hrs hnl hall hout hok HS HNil HG HWF
        go_wp2_with fail
        refine HCL.out.mono ?_
        rintro e w1 ⟨a1, rfl, hga, hbel⟩
        rw [← HN.out]
        have HGA : Hid (GAt w1 w1.heap.size a1 (castG (toN g))) := by rw [HCA.out]; exact hga
        have HBE : Hid (Below w.heap.size w w1) := hbel
        clear hga hbel HCL HCA
        go_wp2_with fail
        refine (HCO.out a1 w1 HGA.out).mono ?_
        rintro e w2 ⟨rfl, hrep⟩
        have HREP : Hid (Rep w1.heap.size w1 w2 n fin) := hrep
        clear hrep HCO
        have HGA2 : Hid (GAt w2 w2.heap.size a1 (castG (toN g))) := (HGA.out.below HREP.out.below).wide HREP.out.below.size
        go_wp2_with fail
        refine (HKO.out a1 w2 HGA2.out).mono ?_
        rintro e w3 ⟨b, l, c, he, hkok, hbe3, hbl⟩
        rw [HNL.out] at he
        subst he
        have hag := agree HOK.out hkok
        have HQ : Hid (Q3 w w3 n (w1.heap.size + 6) b a1 (toN g) (fun v => cO fin v) (fun v => (lb l v).toNat)) := by
          have hs1 := HREP.out.size
          have hb3 := hbe3.size
          refine ⟨HBE.out.trans ((HREP.out.below.mono HBE.out.size).trans (hbe3.mono (by have := HREP.out.below.size; have := HBE.out.size; omega))), by omega, fun v hv => ?_, lt_of_some hbl, fun v hv => ?_, (HGA2.out.below hbe3).wide hb3⟩
          · rw [hbe3.cell (by show w1.heap.size + 6 < _; omega)]
            exact ints_cell HREP.out.b6 (by rw [HREP.out.lc]; exact hv)
          · rw [(hag.kt v (by rw [HNL.out]; exact hv)).2]
            exact zints_cell hbl (by rw [hag.len, HNL.out]; exact hv)
        have HAG : Hid (Agree (toN g) fin l c) := hag
        have hcn : c ≤ n := by rw [← HNL.out]; exact hag.cnt
        obtain ⟨CB, hCB⟩ : ∃ CB, CB = w1.heap.size + 6 := ⟨_, rfl⟩
        rw [← hCB] at HQ ⊢
        clear hCB hag hkok hbe3 hbl HREP HGA HGA2 HBE HKO HOK
        have hmk := fun w => run_make_row' (P := Try.prog) 25 3 (.int .i64 0) 8 Try.underlying25 info3 rfl .i64 .i64 n (by omega) (by omega) w
        go_wp2_with fail
        clear hmk
        have HST : Hid (TT n w3 _ (List.replicate n 0) (List.replicate n 0)) := TT.start w3 n
        go_loopw [9] (fun i wr => ∃ (v : Nat) (ko co : List Int), v ≤ n ∧ i = .int .i64 (v : Int) ∧ TT n w3 wr ko co ∧ ∀ x, x < v → lb ko x = -1 ∧ lb co x = -1) (fun i _ => n - (intOf i).toNat)
        case atStart => exact ⟨0, _, _, by omega, rfl, HST.out, by omega⟩
        case round =>
          clear HST
          obtain ⟨v, ko, co, hv, rfl, ht, hx⟩ := hrel
          have HT : Hid (TT n w3 wr ko co) := ht
          have HX : Hid (∀ x, x < v → lb ko x = -1 ∧ lb co x = -1) := hx
          clear ht hx
          by_cases hlt : v < n
          · have c0 := zints_cell HT.out.bk (i := v) (by rw [HT.out.lk]; exact hlt)
            have c1 := zints_cell HT.out.bc (i := v) (by rw [HT.out.lc]; exact hlt)
            have f0 := frozen_of_row wr w3.heap.size v _ _ HT.out.bk
            have f1 := frozen_of_row wr (w3.heap.size + 1) v _ _ HT.out.bc
            go_wp2
            go_roundw
            case rel =>
              refine ⟨v + 1, ko.set v (-1), co.set v (-1), by omega, by go_num, (HT.out.setK v (-1)).setC v (-1), fun x hx => ?_⟩
              by_cases e : v = x
              · subst e; exact ⟨lb_set_self _ _ _ (by rw [HT.out.lk]; exact hlt), lb_set_self _ _ _ (by rw [HT.out.lc]; exact hlt)⟩
              · rw [lb_set_ne _ _ _ _ e, lb_set_ne _ _ _ _ e]; exact HX.out x (by omega)
            case measure => simp [intOf]; omega
          · obtain rfl : n = v := by omega
            have HCH : Hid (Chk n (fun v => cO fin v) (fun v => (lb l v).toNat) 0 ko co) :=
              ⟨HT.out.lk, HT.out.lc, by omega, fun c hc _ => (HX.out c hc).1, by omega, fun c hc _ => (HX.out c hc).2⟩
            clear HX
            go_wp2
            go_loopw [10] (fun i wr => ∃ (v : Nat) (ko co : List Int), v ≤ n ∧ i = .int .i64 (v : Int) ∧ TT n w3 wr ko co ∧ Chk n (fun v => cO fin v) (fun v => (lb l v).toNat) v ko co) (fun i _ => n - (intOf i).toNat)
            case atStart => exact ⟨0, _, _, by omega, rfl, HT.out, HCH.out⟩
            case round =>
              clear HT HCH
              rename List Int => l0
              obtain ⟨v, ko, co, hv, rfl, ht, hch⟩ := hrel
              have HT : Hid (TT n w3 wr ko co) := ht
              have HCH : Hid (Chk n (fun v => cO fin v) (fun v => (lb l v).toNat) v ko co) := hch
              clear ht hch
              by_cases hvn : v < n
              · have hcv := HAG.out.ct v (by rw [HNL.out]; exact hvn)
                have hkv := (HAG.out.kt v (by rw [HNL.out]; exact hvn)).1
                have hnxt := HCH.out.step hvn (fun u hu => Nat.lt_of_lt_of_le (HAG.out.ct u (by rw [HNL.out]; exact hu)) hcn) (fun u hu => Nat.lt_of_lt_of_le (HAG.out.kt u (by rw [HNL.out]; exact hu)).1 hcn) (fun u z hu hz => HAG.out.same u z (by rw [HNL.out]; exact hu) (by rw [HNL.out]; exact hz))
                have hkc := HCH.out.kcase hvn (fun u hu => Nat.lt_of_lt_of_le (HAG.out.ct u (by rw [HNL.out]; exact hu)) hcn) (fun u z hu hz => HAG.out.same u z (by rw [HNL.out]; exact hu) (by rw [HNL.out]; exact hz))
                have hcc := HCH.out.ccase hvn (fun u hu => Nat.lt_of_lt_of_le (HAG.out.kt u (by rw [HNL.out]; exact hu)).1 hcn) (fun u z hu hz => HAG.out.same u z (by rw [HNL.out]; exact hu) (by rw [HNL.out]; exact hz))
                have m1 := HQ.out.cc v hvn
                have m2 := HQ.out.kc v hvn
                replace hkc : lb ko (cO fin v) = -1 ∨ lb ko (cO fin v) = (lb l v).toNat := hkc
                replace hcc : lb co (lb l v).toNat = -1 ∨ lb co (lb l v).toNat = cO fin v := hcc
                replace hnxt : Chk n (fun v => cO fin v) (fun v => (lb l v).toNat) (v + 1) (upd ko (cO fin v) (lb l v).toNat) (upd co (lb l v).toNat (cO fin v)) := hnxt
                obtain ⟨C, hC⟩ : ∃ C, C = cO fin v := ⟨_, rfl⟩
                obtain ⟨K, hK⟩ : ∃ K, K = (lb l v).toNat := ⟨_, rfl⟩
                rw [← hC] at hcv hnxt hkc hcc m1
                rw [← hK] at hkv hnxt hkc hcc m2
                have HNX : Hid (Chk n (fun v => cO fin v) (fun v => (lb l v).toNat) (v + 1) (upd ko C K) (upd co K C)) := hnxt
                have HCC : Hid (lb co K = -1 ∨ lb co K = C) := hcc
                have HM1 : Hid (w3.cell? ⟨CB, v, none⟩ = some (.int .i64 (C : Int))) := m1
                have HM2 : Hid (w3.cell? ⟨b, v, none⟩ = some (.int .i64 (K : Int))) := m2
                clear hC hK hnxt hcc m1 m2
                have r1 : wr.cell? ⟨CB, v, none⟩ = _ := (HT.out.below.cell HQ.out.ci).trans HM1.out
                have r2 : wr.cell? ⟨b, v, none⟩ = _ := (HT.out.below.cell HQ.out.bi).trans HM2.out
                have c0 := zints_cell HT.out.bk (i := C) (by rw [HT.out.lk]; omega)
                have f0 := frozen_of_row wr w3.heap.size C _ _ HT.out.bk
                have e0 : ko.getD C 0 = lb ko C := rfl
                rw [e0] at c0
                obtain ⟨y, hy⟩ : ∃ y, y = lb ko C := ⟨_, rfl⟩
                rw [← hy] at c0 hkc
                have HY : Hid (y = lb ko C) := hy
                clear hy e0
                go_upto_if 73 with fail
                go_cut [] (fun wr' => TT n w3 wr' (upd ko C K) co)
                case first =>
                  rcases hkc with rfl | rfl
                  · have hu : upd ko C K = ko.set C (K : Int) := by unfold upd; rw [if_pos (by rw [← HY.out]; omega)]
                    have HU : Hid (upd ko C K = ko.set C (K : Int)) := hu
                    clear hu
                    go_wp2
                    go_meet
                    case rel => rw [HU.out]; exact HT.out.setK C (K : Int)
                  · have hu : upd ko C K = ko := by unfold upd; rw [if_neg (by rw [← HY.out]; omega)]
                    have HU : Hid (upd ko C K = ko) := hu
                    clear hu
                    go_wp2_with fail
                    go_region
                    go_wp2
                    go_meet
                    case rel => rw [HU.out]; exact HT.out.drewN 1
                case rest =>
                  have HT1 : Hid (TT n w3 wc (upd ko C K) co) := hcut
                  clear hcut HT r1 r2 c0 f0 hkc HY
                  have r1 : wc.cell? ⟨CB, v, none⟩ = _ := (HT1.out.below.cell HQ.out.ci).trans HM1.out
                  have r2 : wc.cell? ⟨b, v, none⟩ = _ := (HT1.out.below.cell HQ.out.bi).trans HM2.out
                  have c0 := zints_cell HT1.out.bc (i := K) (by rw [HT1.out.lc]; omega)
                  have f0 := frozen_of_row wc (w3.heap.size + 1) K _ _ HT1.out.bc
                  have e0 : co.getD K 0 = lb co K := rfl
                  rw [e0] at c0
                  have hcc := HCC.out
                  obtain ⟨y, hy⟩ : ∃ y, y = lb co K := ⟨_, rfl⟩
                  rw [← hy] at c0 hcc
                  have HY : Hid (y = lb co K) := hy
                  clear hy e0
                  rcases hcc with rfl | rfl
                  · have hu : upd co K C = co.set K (C : Int) := by unfold upd; rw [if_pos (by rw [← HY.out]; omega)]
                    have HU : Hid (upd co K C = co.set K (C : Int)) := hu
                    clear hu
                    go_wp2
                    go_roundw
                    case rel => exact ⟨v + 1, _, _, by omega, by go_num, HT1.out.setC K (C : Int), by rw [← HU.out]; exact HNX.out⟩
                    case measure => simp [intOf]; omega
                  · have hu : upd co K C = co := by unfold upd; rw [if_neg (by rw [← HY.out]; omega)]
                    have HU : Hid (upd co K C = co) := hu
                    clear hu
                    go_wp2
                    go_roundw
                    case rel => exact ⟨v + 1, _, _, by omega, by go_num, HT1.out, by have := HNX.out; rw [HU.out] at this; exact this⟩
                    case measure => simp [intOf]; omega
              · clear HCH
                go_wp2
                go_loopw [12] (fun i wr => ∃ (v : Nat), v ≤ n ∧ i = .int .i64 (v : Int) ∧ Below w3.heap.size w3 wr) (fun i _ => n - (intOf i).toNat)
                case atStart => exact ⟨0, by omega, rfl, HT.out.below⟩
                case round =>
                  clear HT hvn hv
                  obtain ⟨v, hv, rfl, hbe⟩ := hrel
                  have HBE : Hid (Below w3.heap.size w3 wr) := hbe
                  clear hbe
                  by_cases hvn : v < n
                  · obtain ⟨b2, o, A, CA, ha, hbN, hcr, hrow⟩ := row_at HQ.out.ga HBE.out HNL.out.symm hvn
                    obtain ⟨L, hL⟩ : ∃ L, L = (rowN (toN g) v).length := ⟨_, rfl⟩
                    have hLm := HRS.out v
                    rw [← hL] at hcr hrow hLm
                    have HROW : Hid (∀ k, k < L → ∃ b' o', A = some ⟨b', o', none⟩ ∧ b' < w3.heap.size ∧ w3.cell? ⟨b', o' + k, none⟩ = some (.int .i64 (((rowN (toN g) v).getD k 0 : Nat) : Int))) := hrow
                    have HL : Hid (L = (rowN (toN g) v).length) := hL
                    clear hrow hL
                    subst ha
                    go_wp2
                    clear hcr
                    go_loopw [14] (fun i wr => ∃ (k : Nat), k ≤ L ∧ i = .int .i64 (k : Int) ∧ Below w3.heap.size w3 wr) (fun i _ => L - (intOf i).toNat)
                    case atStart => exact ⟨0, by omega, rfl, HBE.out⟩
                    case round =>
                      clear HBE
                      obtain ⟨k, hk, rfl, hbe⟩ := hrel
                      have HBE : Hid (Below w3.heap.size w3 wr) := hbe
                      clear hbe
                      by_cases hkl : k < L
                      · obtain ⟨b', o', hA, hb', hct⟩ := HROW.out k hkl
                        have hed : Edge (toN g) v ((rowN (toN g) v).getD k 0) := edge_of_at (by rw [HNL.out]; exact hvn) (by rw [← HL.out]; exact hkl)
                        have hdn := HWN.out v _ hed
                        rw [HNL.out] at hdn
                        have hle := HAG.out.edge v _ hed
                        obtain ⟨d, hd⟩ : ∃ d, d = (rowN (toN g) v).getD k 0 := ⟨_, rfl⟩
                        rw [← hd] at hct hdn hle
                        clear hd hed
                        have r0 : wr.cell? ⟨b', o' + k, none⟩ = _ := (HBE.out.cell (p := ⟨b', o' + k, none⟩) hb').trans hct
                        have r1 : wr.cell? ⟨CB, v, none⟩ = _ := (HBE.out.cell HQ.out.ci).trans (HQ.out.cc v hvn)
                        have r2 : wr.cell? ⟨CB, d, none⟩ = _ := (HBE.out.cell HQ.out.ci).trans (HQ.out.cc d hdn)
                        replace r1 : wr.cell? ⟨CB, v, none⟩ = some (.int .i64 ((cO fin v : Nat) : Int)) := r1
                        replace r2 : wr.cell? ⟨CB, d, none⟩ = some (.int .i64 ((cO fin d : Nat) : Int)) := r2
                        obtain ⟨x, hx⟩ : ∃ x, x = cO fin v := ⟨_, rfl⟩
                        obtain ⟨y, hy⟩ : ∃ y, y = cO fin d := ⟨_, rfl⟩
                        rw [← hx] at r1 hle
                        rw [← hy] at r2 hle
                        clear hx hy hct
                        subst hA
                        go_wp2_with fail
                        go_region
                        go_wp2
                        go_roundw
                        case rel => exact ⟨k + 1, by omega, by go_num, below_drewN HBE.out 1⟩
                        case measure => simp [intOf]; omega
                      · go_wp2
                        go_roundw
                        case rel => exact ⟨v + 1, by omega, by go_num, HBE.out⟩
                        case measure => simp [intOf]; omega
                  · go_wp2
                    go_ret
                    exact ⟨rfl, HQ.out.below.trans (HBE.out.mono HQ.out.below.size)⟩
end Go.Proofs.Qxb6600314a
