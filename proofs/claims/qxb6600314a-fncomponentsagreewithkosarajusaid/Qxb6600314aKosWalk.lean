import Derived.Test.Qxb6600314aKosRep
import Derived.Test.Qxb6600314aKosMath2
namespace Go.Proofs.Qxb6600314a
open Go.RowKit

/-- What kosaraju leaves. -/
def KosPost (w : World) (g : List (List Nat)) (e : Ending) (w' : World) : Prop :=
  ∃ b l c, e = .returned (.tuple #[.slice (some ⟨b, 0, none⟩) g.length g.length, .int .i64 ((c : Nat) : Int)]) ∧ KosOK g l c ∧ Below w.heap.size w w' ∧ w'.heap[b]? = some (.cells (zints l) 3 (0, 0))

/-- What the second pass reads of the first one's world. -/
structure P2 (N SB n : Nat) (w wx : World) (done S I : List Nat) : Prop where
  below : Below N w wx
  lf : done.length = n
  hi1 : N + 1 < wx.heap.size
  hi2 : SB + 1 < wx.heap.size
  fin : ∀ (l1 : List Nat) (x : Nat) (rest : List Nat), done = l1 ++ x :: rest → wx.cell? ⟨N + 1, rest.length, none⟩ = some (.int .i64 (x : Int))
  st : ∀ v, v ≤ n → wx.cell? ⟨SB, v, none⟩ = some (.int .i64 ((S.getD v 0 : Nat) : Int))
  inn : ∀ k, k < I.length → wx.cell? ⟨SB + 1, k, none⟩ = some (.int .i64 ((I.getD k 0 : Nat) : Int))

theorem ret_kos {b n n' c c' : Nat} (h1 : n = n') (h2 : c = c') : Ending.returned (.tuple #[.slice (some ⟨b, 0, none⟩) n n, .int .i64 (c : Int)]) = .returned (.tuple #[.slice (some ⟨b, 0, none⟩) n' n', .int .i64 (c' : Int)]) := by rw [h1, h2]

theorem lt_of_some {w : World} {b : Nat} {o : Obj} (h : w.heap[b]? = some o) : b < w.heap.size := (Array.getElem?_eq_some_iff.mp h).1

theorem P2.mk' {N n : Nat} {w wr w' : World} {seen : List Bool} {done S I : List Nat} (hk : K1 N n w wr seen done [] []) (hd : done.length = n) (hl : S.length = n + 1) (hb : Below wr.heap.size wr w')
    (hS : w'.heap[wr.heap.size]? = some (.cells (ints S) 3 (0, 0))) (hI : w'.heap[wr.heap.size + 1]? = some (.cells (ints I) 3 (0, 0))) : P2 N wr.heap.size n w w' done S I := by
  have hs := hk.size
  have h2 := lt_of_some hI
  refine ⟨hk.below.trans (hb.mono (by omega)), hd, by omega, h2, fun l1 x rest e => ?_, fun v hv => ints_cell hS (by omega), fun k hk => ints_cell hI hk⟩
  rw [hb.cell (by show N + 1 < _; omega), hk.o1.cellAt _ (by rw [e]; simp; omega), e]
  simp [nints]

theorem K2.start (wx : World) (n : Nat) : K2 wx.heap.size n wx (wx.alloc (.cells (madeCells #[.int .i64 0] n) 3)) (List.replicate n 0) (.slice none 0 0) [] := by
  refine ⟨(Below.refl _ _).alloc (Nat.le_refl _) _, by simp, by simp, ?_, World.ownsRow_nil _ _ _ _⟩
  rw [heap_alloc_new, ints_rep]
  simp [ints, zints]

set_option maxRecDepth 20000 in
set_option maxHeartbeats 2000000 in
theorem kos_any (a : Option Addr) (cap : Nat) (g : List (List Nat)) (w : World) (h : GAt w w.heap.size a (castG g)) (hw : WF g) (hn : g.length ≤ 65536) (hm : (allRows g g.length).length ≤ 131072) (hr : ∀ i, (rowN g i).length ≤ 1048576) :
    Calls Try.prog 12 #[.slice a g.length cap] w (KosPost w g) := by
  obtain ⟨fin, hfin, hf1⟩ := pass1 g hw hr
  have HG : Hid (GAt w w.heap.size a (castG g)) := h
  have HW : Hid (WF g) := hw
  have HM : Hid ((allRows g g.length).length ≤ 131072) := hm
  have HRw : Hid (∀ i, (rowN g i).length ≤ 1048576) := hr
  have HO : Hid (KOuter g g.length 0 (kstart g.length) fin) := hfin
  have HF1 : Hid (Fin1 g fin.done) := hf1
  clear h hw hm hr hfin hf1
  obtain ⟨n, hnn⟩ : ∃ n, n = g.length := ⟨_, rfl⟩
  rw [← hnn] at hn HO ⊢
  have HN : Hid (n = g.length) := hnn
  clear hnn
  obtain ⟨i0, hi, hz0, hz1, hz2⟩ := info_parts info3
  have hmk := fun w => run_make_row' (P := Try.prog) 33 4 (.bool false) 1 Try.underlying33 info4 rfl .i64 .i64 n (by omega) (by omega) w
  have hmk0 : ∀ w, (Instr.makeSlice 25 (.int .i64 0) (.int .i64 (n : Int))).run Try.prog w = .ok (.slice (some ⟨w.heap.size, 0, none⟩) 0 n) (w.alloc (.cells (madeCells #[.int .i64 0] n) 3)) := by
    intro w
    have := run_make (P := Try.prog) w 25 3 i0 (.int .i64 0) Try.underlying25 hi hz0 .i64 .i64 0 (n : Int) (by omega) (by omega) (by rw [hz2]; omega) (by omega)
    have hc : (Value.int .i64 0).cells = #[.int .i64 0] := rfl
    rw [hz1, hc] at this
    simpa using this
  have HST : Hid (K1 w.heap.size n w _ (List.replicate n false) [] [] []) := K1.start w n (by omega)
  go_enter Try.func12, Try.ntmps12
  go_wp2
  clear hmk hmk0
  simp only [Nat.add_assoc, Nat.reduceAdd]
  go_loopg [6, 7, 8, 9] n (fun j f t x i wr => ∃ (r : Nat) (s : KS), r + j = n ∧ i = .int .i64 (r : Int) ∧ f = .slice (some ⟨w.heap.size + 1, 0, none⟩) s.done.length n ∧ t = .slice (some ⟨w.heap.size + 2, 0, none⟩) 0 n ∧ x = .slice (some ⟨w.heap.size + 3, 0, none⟩) 0 n ∧
      K1 w.heap.size n w wr s.seen s.done [] [] ∧ KOuter g j r s fin)
  case atStart => exact ⟨0, kstart n, by omega, rfl, rfl, rfl, rfl, HST.out, HO.out⟩
  case round =>
    clear HST HO
    obtain ⟨r, s, hrj, rfl, rfl, rfl, rfl, hk1, hO⟩ := hrel
    have HK : Hid (K1 w.heap.size n w wr s.seen s.done [] []) := hk1
    clear hk1
    cases gk with
    | zero =>
      have HF : Hid (fin = s) := hO.2
      clear hO
      obtain rfl : n = r := by omega
      have HGr : Hid (GAt wr wr.heap.size a (castG g)) := by
        have h1 := HG.out.below HK.out.below
        have h2 := HK.out.size
        exact ⟨h1.lenLe, fun i hi => by
          obtain ⟨b, o, A, C, k1, k2, k3, k4, k5, k6, k7⟩ := h1.row i hi
          exact ⟨b, o, A, C, k1, by omega, k3, k4, k5, k6, fun k hk => by
            obtain ⟨b', o', q1, q2, q3⟩ := k7 k hk
            exact ⟨b', o', q1, by omega, q3⟩⟩⟩
      have HTC : Hid (Calls Try.prog 20 #[.slice a n cap] wr (TransPost wr g)) := by
        have := trans_any a cap g wr HGr.out HW.out (by rw [← HN.out]; exact hn) HM.out
        rw [← HN.out] at this
        exact this
      have hmk := fun w => run_make_row' (P := Try.prog) 25 3 (.int .i64 0) 8 Try.underlying25 info3 rfl .i64 .i64 n (by omega) (by omega) w
      go_wp2_with (go_at_call 20; refine HTC.out.mono ?_; rintro e w' ⟨S, I, he, hT, hbl, hS, hI⟩; rw [← HN.out] at he; subst he; have HP : Hid (P2 w.heap.size wr.heap.size n w w' s.done S I) := P2.mk' HK.out (by rw [← HF.out, HF1.out.len, HN.out]) (by rw [hT.len, HN.out]) hbl hS hI; have HT : Hid (TransOK g S I) := hT; clear hT hbl hS hI)
      clear hmk HTC HGr HK
      have HD : Hid (Fin1 g s.done) := by rw [← HF.out]; exact HF1.out
      obtain ⟨l', c', hR, hKO⟩ := pass2 g HW.out S I HT.out (by rw [← HN.out]; exact hn) s.done HD.out
      rw [← HN.out] at hR
      have HR : Hid (Roots S I n s.done (List.replicate n (-1)) 0 l' c') := hR
      have HKO : Hid (KosOK g l' c') := hKO
      clear hR hKO HF HF1
      rw [HP.out.lf]
      obtain ⟨SB, hSB⟩ : ∃ SB, SB = wr.heap.size := ⟨_, rfl⟩
      rw [← hSB] at HP ⊢
      clear hSB
      obtain ⟨i0, hi, hz0, hz1, hz2⟩ := info_parts info3
      have HST : Hid (K2 w'.heap.size n w' _ (List.replicate n 0) (.slice none 0 0) []) := K2.start w' n
      go_loopw [17] (fun i wr => ∃ (v : Nat) (l : List Int), v ≤ n ∧ i = .int .i64 (v : Int) ∧ K2 w'.heap.size n w' wr l (.slice none 0 0) [] ∧ ∀ x, x < v → l.getD x 0 = -1) (fun i _ => n - (intOf i).toNat)
      case atStart => exact ⟨0, _, by omega, rfl, HST.out, by omega⟩
      case round =>
        clear HST
        obtain ⟨v, l, hv, rfl, hk2, hx⟩ := hrel
        have HK : Hid (K2 w'.heap.size n w' wr l (.slice none 0 0) []) := hk2
        have HX : Hid (∀ x, x < v → l.getD x 0 = -1) := hx
        clear hk2 hx
        by_cases hlt : v < n
        · have c0 := zints_cell HK.out.b (i := v) (by rw [HK.out.len]; exact hlt)
          have f0 := frozen_of_row wr w'.heap.size v _ _ HK.out.b
          go_wp2
          go_roundw
          case rel =>
            refine ⟨v + 1, l.set v (-1), by omega, by go_num, HK.out.set v (-1), fun x hx => ?_⟩
            by_cases e : x = v
            · subst e; simp [List.getD, HK.out.len, hlt]
            · have := HX.out x (by omega)
              simp only [List.getD] at this ⊢
              rw [List.getElem?_set_ne (by omega)]; exact this
          case measure => simp [intOf]; omega
        · obtain rfl : n = v := by omega
          have hle : l = List.replicate n (-1) := by
            apply List.ext_getElem
            · rw [HK.out.len]; simp
            · intro x h1 h2
              have := HX.out x (by rw [HK.out.len] at h1; exact h1)
              simp [List.getD, h1] at this
              simp [this]
          subst hle
          clear HX
          go_upto_region 37 with fail
          go_loopg [18, 19, 20] n (fun j c pd p wr => ∃ (cc : Nat) (l : List Int) (l1 rest : List Nat), c = .int .i64 (cc : Int) ∧ p = .int .i64 ((j : Int) - 1) ∧ rest.length = j ∧ s.done = l1 ++ rest ∧ K2 w'.heap.size n w' wr l pd [] ∧ Roots S I n rest l cc l' c')
          case atStart => exact ⟨0, _, [], s.done, rfl, rfl, HP.out.lf, rfl, HK.out, HR.out⟩
          case round =>
            clear HK HR
            obtain ⟨cc, l, l1, rest, rfl, hp, hrl, hdn, hk2, hR⟩ := hrel
            have HK : Hid (K2 w'.heap.size n w' wr l u19 []) := hk2
            have HDN : Hid (s.done = l1 ++ rest) := hdn
            clear hk2 hdn
            cases gk with
            | zero =>
              obtain rfl : u20 = .int .i64 (-1) := by rw [hp]; go_num
              have HR : Hid (l' = l ∧ c' = cc) := by
                have e : rest = [] := List.eq_nil_of_length_eq_zero hrl
                rw [e] at hR
                exact hR
              clear hp hR
              go_wp2
              go_ret2
              refine ⟨w'.heap.size, l', c', ret_kos HN.out HR.out.2.symm, HKO.out, HP.out.below.trans (HK.out.below.mono (by have := HP.out.hi1; omega)), by rw [HR.out.1]; exact HK.out.b⟩
            | succ j =>
              obtain rfl : u20 = .int .i64 (j : Int) := by rw [hp]; go_num
              clear hp
              obtain ⟨x, rest', hre⟩ : ∃ x rest', rest = x :: rest' := by
                cases rest with
                | nil => simp at hrl
                | cons x r => exact ⟨x, r, rfl⟩
              subst hre
              have hjl : rest'.length = j := by simpa using hrl
              have hjn : j < n := by
                have h1 := HP.out.lf
                rw [HDN.out] at h1
                simp at h1
                omega
              obtain ⟨hxn, hcc, hcase⟩ := hR
              have cf : wr.cell? ⟨w.heap.size + 1, j, none⟩ = some (.int .i64 (x : Int)) := by
                rw [HK.out.below.cell (by exact HP.out.hi1), ← hjl]
                exact HP.out.fin _ _ _ HDN.out
              have c0 := zints_cell HK.out.b (i := x) (by rw [HK.out.len]; exact hxn)
              have f0 := frozen_of_row wr w'.heap.size x _ _ HK.out.b
              obtain ⟨y, hy⟩ : ∃ y, y = l.getD x 0 := ⟨_, rfl⟩
              rw [← hy] at c0 hcase
              clear hrl hy
              rcases hcase with ⟨h1, h2⟩ | ⟨h1, k, m, h2, h3⟩
              · have H2 : Hid (Roots S I n rest' l cc l' c') := h2
                clear h2
                go_wp2
                go_roundg j
                case measure => omega
                case rel => exact ⟨cc, l, l1 ++ [x], rest', rfl, by go_num, hjl, by rw [HDN.out]; simp, HK.out, H2.out⟩
              · have H2 : Hid (Sweep S I cc n k (l.set x (cc : Int), [x]) m) := h2
                have H3 : Hid (Roots S I n rest' m (cc + 1) l' c') := h3
                clear h2 h3
                go_upto_region 40 with fail
                go_cut [] (fun wr' => K2 w'.heap.size n w' wr' (l.set x (cc : Int)) u19 [])
                case first =>
                  go_wp2
                  go_meet
                  case rel => exact HK.out.set x (cc : Int)
                case rest =>
                  have HK1 : Hid (K2 w'.heap.size n w' wc (l.set x (cc : Int)) u19 []) := hcut
                  clear hcut HK c0 f0 cf
                  go_upto_region 41 with fail
                  go_cut [19] (fun pd wr' => K2 w'.heap.size n w' wr' (l.set x (cc : Int)) pd [x])
                  case first =>
                    have HO : Hid (wc.ownsRow (w'.heap.size + 1) 3 1 u19 0 []) := HK1.out.own
                    have hsz := HK1.out.size
                    rcases HO.out.2 with ⟨hv, -⟩ | ⟨gb, cap1, cur, hv, hb1, hb2, hb3, hb4, -, -⟩
                    · subst hv
                      go_wp2_with (at_builtin; refine wpList_append_own _ rfl (.tmp 147) (.tmp 149) 25 rfl (w'.heap.size + 1) 3 i0 (.int .i64 0) 1 8 Try.underlying25 hi hz0 hz1 hz2 rfl (by decide) (.slice none 0 0) 0 [] rfl (HO.out.alloc _) ⟨wc.heap.size, 0, none⟩ 1 1 [.int .i64 (x : Int)] rfl rfl (cell_one_new _ _ _) (by intro u hu; simp at hu; subst hu; rfl) (by unfold maxLen; omega) (by omega) (by simp; omega) ?_; intro v' w1 ho hg _)
                      go_meet
                      case rel => exact HK1.out.push hg ho
                    · subst hv
                      unfold maxLen at hb4
                      go_wp2_with (at_builtin; refine wpList_append_own _ rfl (.tmp 147) (.tmp 149) 25 rfl (w'.heap.size + 1) 3 i0 (.int .i64 0) 1 8 Try.underlying25 hi hz0 hz1 hz2 rfl (by decide) (.slice (some ⟨gb, 0, none⟩) 0 cap1) 0 [] rfl (HO.out.alloc _) ⟨wc.heap.size, 0, none⟩ 1 1 [.int .i64 (x : Int)] rfl rfl (cell_one_new _ _ _) (by intro u hu; simp at hu; subst hu; rfl) (by unfold maxLen; omega) (by omega) (by simp; omega) ?_; intro v' w1 ho hg _)
                      go_meet
                      case rel => exact HK1.out.push hg ho
                  case rest =>
                    have HK2 : Hid (K2 w'.heap.size n w' wc (l.set x (cc : Int)) u19 [x]) := hcut
                    clear hcut HK1
                    go_wp2_with fail
                    go_loopg [19] k (fun k pd wr => ∃ (l : List Int) (p : List Nat), K2 w'.heap.size n w' wr l pd p ∧ Sweep S I cc n k (l, p) m)
                    case atStart => exact ⟨_, _, HK2.out, H2.out⟩
                    case round =>
                      clear HK2 H2
                      obtain ⟨l2, p, hk2, hS⟩ := hrel
                      have HK : Hid (K2 w'.heap.size n w' wr l2 u19 p) := hk2
                      clear hk2
                      cases gk with
                      | zero =>
                        have HS : Hid (p = [] ∧ m = l2) := hS
                        clear hS
                        obtain ⟨ao, cap1, hv⟩ := own_any HK.out.own
                        have hpl : p.length = 0 := by rw [HS.out.1]; rfl
                        rw [hpl] at hv
                        subst hv
                        clear hpl
                        go_wp2
                        go_roundg j
                        case measure => omega
                        case rel =>
                          have hk := HK.out
                          rw [HS.out.1, ← HS.out.2] at hk
                          exact ⟨cc + 1, m, l1 ++ [x], rest', by go_num, by go_num, hjl, by rw [HDN.out]; simp, hk, H3.out⟩
                      | succ k =>
                        obtain ⟨v, r, hp, hvn, hpl, hS'⟩ := hS
                        dsimp only at hp hpl hS'
                        subst hp
                        obtain ⟨gb, cap1, hv, hgb, hc1, hc2, hct, hkp⟩ := HK.out.top
                        subst hv
                        unfold maxLen at hc2
                        have HK1 : Hid (K2 w'.heap.size n w' wr l2 (.slice (some ⟨gb, 0, none⟩) r.length cap1) r) := hkp
                        clear HK hkp
                        have hmono := HT.out.mono v (by rw [← HN.out]; exact hvn)
                        have hIs := HT.out.small
                        have HSO : Hid (∀ k, S.getD v 0 ≤ k → k < S.getD (v + 1) 0 → I.getD k 0 < n) := by
                          intro k h1 h2
                          have := HT.out.sound v (by rw [← HN.out]; exact hvn) k h1 h2
                          rw [HN.out]; exact this.1
                        have s0 : wr.cell? ⟨SB, v, none⟩ = _ := (HK1.out.below.cell (by show SB < _; have := HP.out.hi2; omega)).trans (HP.out.st v (by omega))
                        have HS1 : Hid (w'.cell? ⟨SB, v + 1, none⟩ = _) := HP.out.st (v + 1) (by omega)
                        obtain ⟨lo, hlo⟩ : ∃ lo, lo = S.getD v 0 := ⟨_, rfl⟩
                        obtain ⟨hh, hhh⟩ : ∃ hh, hh = S.getD (v + 1) 0 := ⟨_, rfl⟩
                        rw [← hlo, ← hhh] at hmono HSO hS'
                        rw [← hlo] at s0
                        rw [← hhh] at HS1
                        have HSW : Hid (Sweep S I cc n k (scanRun I cc (hh - lo) lo (l2, r)) m) := hS'
                        clear hS' hlo hhh
                        have hrl : r.length ≤ 65536 := by simp at hpl; omega
                        clear hpl
                        go_wp2_with fail
                        go_loopg [19, 23] (hh - lo) (fun jj pd kk wr => ∃ (kn : Nat) (l : List Int) (p : List Nat), kk = .int .i64 (kn : Int) ∧ kn + jj = hh ∧ lo ≤ kn ∧ p.length + jj ≤ 200000 ∧ K2 w'.heap.size n w' wr l pd p ∧ Sweep S I cc n k (scanRun I cc jj kn (l, p)) m)
                        case atStart => exact ⟨lo, l2, r, rfl, by omega, Nat.le_refl _, by omega, HK1.out, HSW.out⟩
                        case round =>
                          clear HK1 HSW s0 hct
                          obtain ⟨kn, l3, p, rfl, hkj, hlk, hpl, hk2, hS⟩ := hrel
                          have HK : Hid (K2 w'.heap.size n w' wr l3 u19 p) := hk2
                          clear hk2
                          have s1 : wr.cell? ⟨SB, v + 1, none⟩ = _ := (HK.out.below.cell (by show SB < _; have := HP.out.hi2; omega)).trans HS1.out
                          cases gk with
                          | zero =>
                            have HS : Hid (Sweep S I cc n k (l3, p) m) := hS
                            clear hS
                            obtain rfl : kn = hh := by omega
                            go_wp2
                            go_roundg k
                            case measure => omega
                            case rel => exact ⟨l3, p, HK.out, HS.out⟩
                          | succ jj =>
                            have hkI : kn < I.length := by omega
                            have hdn := HSO.out kn hlk (by omega)
                            have ci : wr.cell? ⟨SB + 1, kn, none⟩ = _ := (HK.out.below.cell (by exact HP.out.hi2)).trans (HP.out.inn kn hkI)
                            have HS : Hid (Sweep S I cc n k (scanRun I cc jj (kn + 1) (scanStep cc (l3, p) (I.getD kn 0))) m) := hS
                            clear hS
                            obtain ⟨d, hd⟩ : ∃ d, d = I.getD kn 0 := ⟨_, rfl⟩
                            rw [← hd] at hdn ci HS
                            clear hd
                            have c0 := zints_cell HK.out.b (i := d) (by rw [HK.out.len]; exact hdn)
                            have f0 := frozen_of_row wr w'.heap.size d _ _ HK.out.b
                            obtain ⟨y, hy⟩ : ∃ y, y = l3.getD d 0 := ⟨_, rfl⟩
                            rw [← hy] at c0
                            by_cases hyn : y < 0
                            · have HS2 : Hid (Sweep S I cc n k (scanRun I cc jj (kn + 1) (l3.set d (cc : Int), d :: p)) m) := by
                                have := HS.out
                                unfold scanStep at this
                                rw [if_pos (by rw [← hy]; exact hyn)] at this
                                exact this
                              clear HS hy
                              go_upto_region 50 with fail
                              go_cut [] (fun wr' => K2 w'.heap.size n w' wr' (l3.set d (cc : Int)) u19 p)
                              case first =>
                                go_wp2
                                go_meet
                                case rel => exact HK.out.set d (cc : Int)
                              case rest =>
                                have HK1 : Hid (K2 w'.heap.size n w' wc (l3.set d (cc : Int)) u19 p) := hcut
                                clear hcut HK c0 f0 ci s1
                                have hsz := HK1.out.size
                                go_wp2_with (at_builtin; refine wpList_append_own _ rfl (.tmp 191) (.tmp 193) 25 rfl (w'.heap.size + 1) 3 i0 (.int .i64 0) 1 8 Try.underlying25 hi hz0 hz1 hz2 rfl (by decide) u19 p.length _ rfl (HK1.out.own.alloc _) ⟨wc.heap.size, 0, none⟩ 1 1 [.int .i64 (d : Int)] rfl rfl (cell_one_new _ _ _) (by intro u hu; simp at hu; subst hu; rfl) (by unfold maxLen; omega) (by omega) (by simp; omega) ?_; intro v' w1 ho hg _)
                                go_roundg jj
                                case measure => omega
                                case rel => exact ⟨kn + 1, l3.set d (cc : Int), d :: p, by go_num, by omega, by omega, by simp; omega, HK1.out.push hg ho, HS2.out⟩
                            · have HS2 : Hid (Sweep S I cc n k (scanRun I cc jj (kn + 1) (l3, p)) m) := by
                                have := HS.out
                                unfold scanStep at this
                                rw [if_neg (by rw [← hy]; exact hyn)] at this
                                exact this
                              clear HS hy
                              go_wp2
                              go_roundg jj
                              case measure => omega
                              case rel => exact ⟨kn + 1, l3, p, by go_num, by omega, by omega, by omega, HK.out, HS2.out⟩
    | succ j =>
      have hlt : r < n := by omega
      obtain ⟨hcl0, hcase⟩ := hO
      have HC0 : Hid (s.calls = []) := hcl0
      have c0 := bools_cell HK.out.b0 (i := r) (by rw [HK.out.ls]; exact hlt)
      clear hcl0
      rcases hcase with ⟨h1, h2⟩ | ⟨h1, k, m, h2, h3⟩
      · rw [h1] at c0
        have H2 : Hid (KOuter g j (r + 1) s fin) := h2
        clear h1 h2
        go_wp2
        go_roundg j
        case measure => omega
        case rel => exact ⟨r + 1, s, by omega, by go_num, rfl, rfl, rfl, HK.out, H2.out⟩
      · rw [h1] at c0
        have f0 := frozen_of_row wr w.heap.size r _ _ HK.out.b0
        have H2 : Hid (KInner g k { s with seen := s.seen.set r true, calls := [(r, 0)] } m) := h2
        have H3 : Hid (KOuter g j (r + 1) m fin) := h3
        clear h1 h2 h3
        go_upto_region 10 with fail
        go_cut [] (fun wr' => K1 w.heap.size n w wr' (s.seen.set r true) s.done [] [])
        case first =>
          go_wp2
          go_meet
          case rel => exact HK.out.setSeen r true
        case rest =>
          have HK1 : Hid (K1 w.heap.size n w wc (s.seen.set r true) s.done [] []) := hcut
          clear hcut c0 f0 HK
          go_upto_region 11 with fail
          go_cut [7] (fun t wr' => t = .slice (some ⟨w.heap.size + 2, 0, none⟩) 1 n ∧ K1 w.heap.size n w wr' (s.seen.set r true) s.done [r] [])
          case first =>
            go_wp2_with (at_builtin; refine wpList_append_fits _ rfl (.tmp 47) (.tmp 49) 25 rfl w.heap.size 3 i0 1 Try.underlying25 hi hz1 (w.heap.size + 2) 0 n _ rfl (HK1.out.o2.alloc _) ⟨wc.heap.size, 0, none⟩ 1 1 [.int .i64 (r : Int)] rfl rfl (cell_one_new _ _ _) (by intro u hu; simp at hu; subst hu; rfl) (by omega) ?_; intro w1 ho hg)
            go_meet
            case rel => exact ⟨rfl, HK1.out.pushAt hg ho⟩
          case rest =>
            obtain ⟨hc7, hk2⟩ := hcut
            subst hc7
            have HK2 : Hid (K1 w.heap.size n w wc (s.seen.set r true) s.done [r] []) := hk2
            clear hk2 HK1
            go_upto_region 12 with fail
            go_cut [8] (fun t wr' => t = .slice (some ⟨w.heap.size + 3, 0, none⟩) 1 n ∧ K1 w.heap.size n w wr' (s.seen.set r true) s.done [r] [0])
            case first =>
              go_wp2_with (at_builtin; refine wpList_append_fits _ rfl (.tmp 51) (.tmp 52) 25 rfl w.heap.size 3 i0 1 Try.underlying25 hi hz1 (w.heap.size + 3) 0 n _ rfl (HK2.out.o3.alloc _) ⟨wc.heap.size, 0, none⟩ 1 1 [.int .i64 0] rfl rfl (cell_one_new _ _ _) (by intro u hu; simp at hu; subst hu; rfl) (by omega) ?_; intro w1 ho hg)
              go_meet
              case rel => exact ⟨rfl, HK2.out.pushNx (x := 0) hg ho⟩
            case rest =>
              obtain ⟨hc8, hk3⟩ := hcut
              subst hc8
              have HK3 : Hid (K1 w.heap.size n w wc (s.seen.set r true) s.done [r] [0]) := hk3
              clear hk3 HK2
              go_wp2_with fail
              go_loopg [6, 7, 8] k (fun k f t x wr => ∃ (s : KS), f = .slice (some ⟨w.heap.size + 1, 0, none⟩) s.done.length n ∧ t = .slice (some ⟨w.heap.size + 2, 0, none⟩) s.calls.length n ∧ x = .slice (some ⟨w.heap.size + 3, 0, none⟩) s.calls.length n ∧
                K1 w.heap.size n w wr s.seen s.done (s.calls.map Prod.fst) (s.calls.map Prod.snd) ∧ KInner g k s m)
              case atStart => exact ⟨{ s with seen := s.seen.set r true, calls := [(r, 0)] }, rfl, rfl, rfl, HK3.out, H2.out⟩
              case round =>
                clear HK3 H2 HC0
                obtain ⟨q, rfl, rfl, rfl, hk1, hI⟩ := hrel
                have HK : Hid (K1 w.heap.size n w wr q.seen q.done (q.calls.map Prod.fst) (q.calls.map Prod.snd)) := hk1
                clear hk1
                cases gk with
                | zero =>
                  obtain ⟨hc0, hms⟩ := hI
                  have hlen : q.calls.length = 0 := by rw [hc0]; rfl
                  have HM2 : Hid (m = q ∧ q.calls = []) := ⟨hms, hc0⟩
                  rw [hlen]
                  clear hms hc0 hlen
                  go_wp2
                  go_roundg j
                  case measure => omega
                  case rel =>
                    have hk := HK.out
                    rw [HM2.out.2] at hk
                    exact ⟨r + 1, q, by omega, by go_num, rfl, rfl, rfl, hk, by rw [← HM2.out.1]; exact H3.out⟩
                | succ k =>
                  obtain ⟨q', hstep, hI'⟩ := hI
                  have HI : Hid (KInner g k q' m) := hI'
                  clear hI'
                  obtain ⟨u, nx, cs, hcalls, hun, hcs, hcase⟩ := hstep
                  rw [← HN.out] at hun hcs hcase
                  have hlen : q.calls.length = cs.length + 1 := by rw [hcalls]; rfl
                  rw [hlen]
                  have hk := HK.out
                  rw [hcalls] at hk
                  have HK0 : Hid (K1 w.heap.size n w wr q.seen q.done (u :: cs.map Prod.fst) (nx :: cs.map Prod.snd)) := hk
                  have HC : Hid (q.calls = (u, nx) :: cs) := hcalls
                  clear hk hcalls hlen HK
                  have ca := top_cell HK0.out.o2
                  have cn := top_cell HK0.out.o3
                  have fn : wr.frozen? ⟨w.heap.size + 3, (cs.map Prod.snd).length, none⟩ = false := HK0.out.o3.frozenAt _
                  have el1 : (cs.map Prod.fst).length = cs.length := by simp
                  have el2 : (cs.map Prod.snd).length = cs.length := by simp
                  rw [el1] at ca
                  rw [el2] at cn fn
                  clear el1 el2
                  obtain ⟨b, o, A, C, ha, hbN, hcr, hrow⟩ := row_at HG.out HK0.out.below HN.out hun
                  obtain ⟨L, hL⟩ : ∃ L, L = (rowN g u).length := ⟨_, rfl⟩
                  have hLm := HRw.out u
                  rw [← hL] at hcr hrow hcase hLm
                  clear hL
                  subst ha
                  obtain ⟨d, hd⟩ : ∃ d, d = (rowN g u).getD nx 0 := ⟨_, rfl⟩
                  rw [← hd] at hcase
                  rcases hcase with ⟨h1, h2, hw⟩ | ⟨h1, h2, h3, hw⟩
                  · obtain ⟨b', o', hA, hb', hct⟩ := hrow nx h1
                    rw [← hd] at hct
                    have hct' : wr.cell? ⟨b', o' + nx, none⟩ = some (.int .i64 (d : Int)) := (HK0.out.below.cell (p := ⟨b', o' + nx, none⟩) hb').trans hct
                    subst hA
                    clear hrow hd
                    have hbw : b < w.heap.size := hbN
                    go_upto_region 18 with fail
                    go_cut [] (fun wr' => K1 w.heap.size n w wr' q.seen q.done (u :: cs.map Prod.fst) ((nx + 1) :: cs.map Prod.snd))
                    case first =>
                      go_wp2
                      go_meet
                      case rel =>
                        have := HK0.out.setNx (nx + 1)
                        rw [show (cs.map Prod.snd).length = cs.length from by simp] at this
                        exact this
                    case rest =>
                      have HK1 : Hid (K1 w.heap.size n w wc q.seen q.done (u :: cs.map Prod.fst) ((nx + 1) :: cs.map Prod.snd)) := hcut
                      have hct2 : wc.cell? ⟨b', o' + nx, none⟩ = some (.int .i64 (d : Int)) := (HK1.out.below.cell (p := ⟨b', o' + nx, none⟩) hb').trans hct
                      have hcr2 : wc.cell? ⟨b, o + u, none⟩ = _ := ((HK1.out.below.cell (p := ⟨b, o + u, none⟩) hbN).trans (HK0.out.below.cell (p := ⟨b, o + u, none⟩) hbN).symm).trans hcr
                      clear hcut HK0 ca cn fn hct' hcr
                      have c0 := bools_cell HK1.out.b0 (i := d) (by rw [HK1.out.ls]; exact h2)
                      have f0 := frozen_of_row wc w.heap.size d _ _ HK1.out.b0
                      rcases hw with ⟨k1, k2, k3⟩ | ⟨k1, k3⟩
                      · rw [k1] at c0
                        have HS : Hid (q' = { q with seen := q.seen.set d true, calls := (d, 0) :: (u, nx + 1) :: cs }) := k3
                        clear k1 k3
                        go_upto_region 21 with fail
                        go_cut [] (fun wr' => K1 w.heap.size n w wr' (q.seen.set d true) q.done (u :: cs.map Prod.fst) ((nx + 1) :: cs.map Prod.snd))
                        case first =>
                          go_wp2
                          go_meet
                          case rel => exact HK1.out.setSeen d true
                        case rest =>
                          have HK2 : Hid (K1 w.heap.size n w wc (q.seen.set d true) q.done (u :: cs.map Prod.fst) ((nx + 1) :: cs.map Prod.snd)) := hcut
                          clear hcut HK1 c0 f0 hct2 hcr2
                          go_upto_region 22 with fail
                          go_cut [7] (fun t wr' => t = .slice (some ⟨w.heap.size + 2, 0, none⟩) (cs.length + 1 + 1) n ∧ K1 w.heap.size n w wr' (q.seen.set d true) q.done (d :: u :: cs.map Prod.fst) ((nx + 1) :: cs.map Prod.snd))
                          case first =>
                            have ho2 := HK2.out.o2
                            rw [show (u :: cs.map Prod.fst).length = cs.length + 1 from by simp] at ho2
                            have HO2 : Hid (wc.ownsRow w.heap.size 3 1 (.slice (some ⟨w.heap.size + 2, 0, none⟩) (cs.length + 1) n) (cs.length + 1) (nints (u :: cs.map Prod.fst).reverse)) := ho2
                            clear ho2
                            go_wp2_with (at_builtin; refine wpList_append_fits _ rfl (.tmp 95) (.tmp 97) 25 rfl w.heap.size 3 i0 1 Try.underlying25 hi hz1 (w.heap.size + 2) (cs.length + 1) n _ rfl (HO2.out.alloc _) ⟨wc.heap.size, 0, none⟩ 1 1 [.int .i64 (d : Int)] rfl rfl (cell_one_new _ _ _) (by intro u hu; simp at hu; subst hu; rfl) (by omega) ?_; intro w1 ho hg)
                            go_meet
                            case rel => exact ⟨rfl, HK2.out.pushAt hg (by rw [show (u :: cs.map Prod.fst).length = cs.length + 1 from by simp]; exact ho)⟩
                          case rest =>
                            obtain ⟨hc7, hk3⟩ := hcut
                            subst hc7
                            have HK3 : Hid (K1 w.heap.size n w wc (q.seen.set d true) q.done (d :: u :: cs.map Prod.fst) ((nx + 1) :: cs.map Prod.snd)) := hk3
                            clear hk3 HK2
                            go_upto_region 23 with fail
                            go_cut [8] (fun t wr' => t = .slice (some ⟨w.heap.size + 3, 0, none⟩) (cs.length + 1 + 1) n ∧ K1 w.heap.size n w wr' (q.seen.set d true) q.done (d :: u :: cs.map Prod.fst) (0 :: (nx + 1) :: cs.map Prod.snd))
                            case first =>
                              have ho3 := HK3.out.o3
                              rw [show ((nx + 1) :: cs.map Prod.snd).length = cs.length + 1 from by simp] at ho3
                              have HO3 : Hid (wc.ownsRow w.heap.size 3 1 (.slice (some ⟨w.heap.size + 3, 0, none⟩) (cs.length + 1) n) (cs.length + 1) (nints ((nx + 1) :: cs.map Prod.snd).reverse)) := ho3
                              clear ho3
                              go_wp2_with (at_builtin; refine wpList_append_fits _ rfl (.tmp 99) (.tmp 100) 25 rfl w.heap.size 3 i0 1 Try.underlying25 hi hz1 (w.heap.size + 3) (cs.length + 1) n _ rfl (HO3.out.alloc _) ⟨wc.heap.size, 0, none⟩ 1 1 [.int .i64 0] rfl rfl (cell_one_new _ _ _) (by intro u hu; simp at hu; subst hu; rfl) (by omega) ?_; intro w1 ho hg)
                              go_meet
                              case rel => exact ⟨rfl, HK3.out.pushNx (x := 0) hg (by rw [show ((nx + 1) :: cs.map Prod.snd).length = cs.length + 1 from by simp]; exact ho)⟩
                            case rest =>
                              obtain ⟨hc8, hk4⟩ := hcut
                              subst hc8
                              have HK4 : Hid (K1 w.heap.size n w wc (q.seen.set d true) q.done (d :: u :: cs.map Prod.fst) (0 :: (nx + 1) :: cs.map Prod.snd)) := hk4
                              clear hk4 HK3
                              go_wp2
                              go_roundg k
                              case measure => omega
                              case rel => exact ⟨{ q with seen := q.seen.set d true, calls := (d, 0) :: (u, nx + 1) :: cs }, rfl, rfl, rfl, HK4.out, by rw [← HS.out]; exact HI.out⟩
                      · rw [k1] at c0
                        have HS : Hid (q' = { q with calls := (u, nx + 1) :: cs }) := k3
                        clear k1 k3
                        go_wp2
                        go_roundg k
                        case measure => omega
                        case rel => exact ⟨{ q with calls := (u, nx + 1) :: cs }, rfl, rfl, rfl, HK1.out, by rw [← HS.out]; exact HI.out⟩
                  · have HS : Hid (q' = { q with calls := cs, done := u :: q.done }) := hw
                    clear hw hrow hd
                    have h1' : ¬ (nx : Int) < (L : Int) := by omega
                    go_wp2_with (at_builtin; refine wpList_append_fits _ rfl (.tmp 108) (.tmp 110) 25 rfl w.heap.size 3 i0 1 Try.underlying25 hi hz1 (w.heap.size + 1) q.done.length n _ rfl (HK0.out.o1.alloc _) ⟨wr.heap.size, 0, none⟩ 1 1 [.int .i64 (u : Int)] rfl rfl (cell_one_new _ _ _) (by intro u hu; simp at hu; subst hu; rfl) (by omega) ?_; intro w1 ho hg)
                    go_roundg k
                    case measure => omega
                    case rel => exact ⟨{ q with calls := cs, done := u :: q.done }, rfl, rfl, rfl, HK0.out.pop.pushDone hg ho, by rw [← HS.out]; exact HI.out⟩
end Go.Proofs.Qxb6600314a
