import Derived.Test.Qxb6600314aMeetWalk
import Derived.Deep.LoopGhost
namespace Go.Proofs.Qxb6600314a
open Go.RowKit

/-- The graph of numbers, as the memory holds it. -/
def castG (g : List (List Nat)) : List (List Int) := g.map fun r => r.map fun (x : Nat) => (x : Int)

theorem castG_length (g : List (List Nat)) : (castG g).length = g.length := by simp [castG]
theorem castG_row (g : List (List Nat)) (i : Nat) : rw' (castG g) i = (rowN g i).map fun (x : Nat) => (x : Int) := by
  simp only [rw', castG, rowN, List.getD, List.getElem?_map]
  cases g[i]? <;> rfl
theorem castG_at (g : List (List Nat)) (i k : Nat) : (rw' (castG g) i).getD k 0 = (((rowN g i).getD k 0 : Nat) : Int) := by
  rw [castG_row]
  simp only [List.getD, List.getElem?_map]
  cases (rowN g i)[k]? <;> rfl

theorem info4 : (Try.prog.info? 4).map (fun i => (i.zero, i.size, i.bytes)) = some (some (.bool false), 1, 1) := by kernel_rfl

/-- What 'components' leaves. -/
def CompPost (w : World) (n : Nat) (s : TS) (e : Ending) (w' : World) : Prop :=
  e = .returned (.slice (some ⟨w.heap.size + 6, 0, none⟩) n n) ∧ Rep w.heap.size w w' n s

theorem ints_rep (n : Nat) : madeCells #[.int .i64 0] n = ints (List.replicate n 0) := by
  apply Array.ext'
  rw [toList_madeCells_one]
  simp [ints]
theorem bools_rep (n : Nat) : madeCells #[.bool false] n = bools (List.replicate n false) := by
  apply Array.ext'
  rw [toList_madeCells_one]
  simp [bools]

theorem hA (w : World) (o : Obj) (k : Nat) (h : k = w.heap.size) : (w.alloc o).heap[k]? = some o := by
  subst h
  exact heap_alloc_new w o
theorem hB (w : World) (o : Obj) (k : Nat) (h : k < w.heap.size) : (w.alloc o).heap[k]? = w.heap[k]? := ((Below.refl w.heap.size w).alloc (Nat.le_refl _) o).block k h

theorem rep_start (w : World) (n : Nat) : Rep w.heap.size w ((((((((((w.alloc (.cells (madeCells #[.int .i64 0] n) 3)).alloc
      (.cells #[.slice (some ⟨w.heap.size, 0, none⟩) n n] 25)).alloc (.cells (madeCells #[.int .i64 0] n) 3)).alloc
      (.cells #[.slice (some ⟨w.heap.size + 2, 0, none⟩) n n] 25)).alloc (.cells (madeCells #[.bool false] n) 4)).alloc
      (.cells #[.slice (some ⟨w.heap.size + 4, 0, none⟩) n n] 33)).alloc (.cells (madeCells #[.int .i64 0] n) 3)).alloc
      (.cells #[.slice none 0 0] 25)).alloc (.cells #[.int .i64 0] 3)).alloc (.cells #[.slice none 0 0] 36)) n (startS n) := by
  refine ⟨?_, by simp, by simp [startS], by simp [startS], by simp [startS], by simp [startS], ?_, ?_, ?_, ?_, ?_, ?_, ?_, ⟨.slice none 0 0, ?_, World.ownsRow_nil _ _ _ _⟩, ?_, ⟨.slice none 0 0, ?_, World.ownsRow_nil _ _ _ _⟩⟩
  · refine ((((((((((Below.refl _ _).alloc ?_ _).alloc ?_ _).alloc ?_ _).alloc ?_ _).alloc ?_ _).alloc ?_ _).alloc ?_ _).alloc ?_ _).alloc ?_ _).alloc ?_ _ <;> simp <;> omega
  · iterate 9 rw [hB _ _ _ (by simp; try omega)]
    rw [hA _ _ _ (by simp), ints_rep]; rfl
  · iterate 8 rw [hB _ _ _ (by simp; try omega)]
    rw [hA _ _ _ (by simp)]
  · iterate 7 rw [hB _ _ _ (by simp; try omega)]
    rw [hA _ _ _ (by simp), ints_rep]; rfl
  · iterate 6 rw [hB _ _ _ (by simp; try omega)]
    rw [hA _ _ _ (by simp)]
  · iterate 5 rw [hB _ _ _ (by simp; try omega)]
    rw [hA _ _ _ (by simp), bools_rep]; rfl
  · iterate 4 rw [hB _ _ _ (by simp; try omega)]
    rw [hA _ _ _ (by simp)]
  · iterate 3 rw [hB _ _ _ (by simp; try omega)]
    rw [hA _ _ _ (by simp), ints_rep]; rfl
  · iterate 2 rw [hB _ _ _ (by simp; try omega)]
    rw [hA _ _ _ (by simp)]
  · iterate 1 rw [hB _ _ _ (by simp; try omega)]
    rw [hA _ _ _ (by simp)]; rfl
  · rw [hA _ _ _ (by simp)]

theorem own_any {w : World} {base : Nat} {e : TypeId} {size : Nat} {v : Value} {n : Nat} {xs : List Value} (h : w.ownsRow base e size v n xs) : ∃ a cap, v = .slice a n cap := by
  rcases h.2 with ⟨rfl, rfl⟩ | ⟨g, cap, cur, rfl, _⟩
  · exact ⟨none, 0, rfl⟩
  · exact ⟨_, cap, rfl⟩

/-- The topmost call, in memory. -/
theorem top_call {N n : Nat} {w wr : World} {s : TS} (h : Rep N w wr n s) {a nx : Nat} {cs : List (Nat × Nat)} (hc : s.calls = (a, nx) :: cs) :
    ∃ gc cap, wr.heap[N + 9]? = some (.cells #[.slice (some ⟨gc, 0, none⟩) (cs.length + 1) cap] 36 (0, 0)) ∧ wr.ownsRow (N + 10) 38 2 (.slice (some ⟨gc, 0, none⟩) (cs.length + 1) cap) (cs.length + 1) (callCells ((a, nx) :: cs)) ∧
      N + 10 ≤ gc ∧ cs.length + 1 ≤ cap ∧ cap ≤ maxLen ∧ wr.cell? ⟨gc, cs.length * 2, none⟩ = some (.int .i64 (a : Int)) ∧ wr.cell? ⟨gc, cs.length * 2 + 1, none⟩ = some (.int .i64 (nx : Int)) ∧ wr.frozen? ⟨gc, cs.length * 2 + 1, none⟩ = false := by
  obtain ⟨v, h9, o9⟩ := h.b9
  rw [hc] at o9
  simp only [List.length_cons] at o9
  obtain ⟨gc, cap, rfl, hb, hn, hm⟩ := own_shape o9 (by omega)
  have hl := callCells_length cs
  refine ⟨gc, cap, h9, o9, hb, hn, hm, ?_, ?_, o9.frozenAt _⟩
  · rw [o9.cellAt _ (by omega)]
    simp [callCells, hl]
  · rw [o9.cellAt _ (by omega)]
    simp only [callCells]
    rw [List.getElem?_append_right (by omega), hl]
    simp

theorem lowOf_cons (t : TS) (a b x : Nat) (cs : List (Nat × Nat)) : lowOf t a ((b, x) :: cs) = t.low.set b (min (t.low.getD b 0) (t.low.getD a 0)) := rfl

theorem Rep.setFound {N n : Nat} {w wr : World} {s : TS} (h : Rep N w wr n s) (f : Nat) : Rep N w wr n { s with found := f } :=
  ⟨h.below, h.size, h.lo, h.ll, h.ls, h.lc, h.b0, h.b1, h.b2, h.b3, h.b4, h.b5, h.b6, h.b7, h.b8, h.b9⟩

/-- The stack's top, in memory. -/
theorem top_stack {N n : Nat} {w wr : World} {s : TS} (h : Rep N w wr n s) {x : Nat} {r : List Nat} (hc : s.stack = x :: r) :
    ∃ gs cap, wr.heap[N + 7]? = some (.cells #[.slice (some ⟨gs, 0, none⟩) (r.length + 1) cap] 25 (0, 0)) ∧ wr.ownsRow (N + 10) 3 1 (.slice (some ⟨gs, 0, none⟩) (r.length + 1) cap) (r.length + 1) ((r.reverse.map fun (x : Nat) => Value.int .i64 (x : Int)) ++ [.int .i64 (x : Int)]) ∧
      N + 10 ≤ gs ∧ r.length + 1 ≤ cap ∧ cap ≤ maxLen ∧ wr.cell? ⟨gs, r.length, none⟩ = some (.int .i64 (x : Int)) := by
  obtain ⟨v, h7, o7⟩ := h.b7
  rw [hc] at o7
  simp only [List.length_cons, List.reverse_cons, List.map_append, List.map_cons, List.map_nil] at o7
  obtain ⟨gs, cap, rfl, hb, hn, hm⟩ := own_shape o7 (by omega)
  refine ⟨gs, cap, h7, o7, hb, hn, hm, ?_⟩
  rw [o7.cellAt _ (by omega), List.getElem?_append_right (by simp)]
  simp

/-- Popping the stack, in memory. -/
theorem Rep.popStack {N n : Nat} {w wr : World} {s : TS} (h : Rep N w wr n s) {x gs cap : Nat} {r : List Nat} (h7 : wr.heap[N + 7]? = some (.cells #[.slice (some ⟨gs, 0, none⟩) (r.length + 1) cap] 25 (0, 0)))
    (o7 : wr.ownsRow (N + 10) 3 1 (.slice (some ⟨gs, 0, none⟩) (r.length + 1) cap) (r.length + 1) ((r.reverse.map fun (x : Nat) => Value.int .i64 (x : Int)) ++ [.int .i64 (x : Int)])) (hg : N + 10 ≤ gs) :
    Rep N w (wr.setCell ⟨N + 7, 0, none⟩ (.slice (some ⟨gs, 0, none⟩) r.length cap)) n { s with stack := r } := by
  refine h.setStack h7 ?_ (World.grownBy.refl _ _) r (ownsRow_pop (by simp) o7)
  intro k hk
  simp only [Value.ownBlock, Option.some.injEq] at hk
  omega

/-- 'top.next++'. -/
theorem Rep.setNext {N n : Nat} {w wr : World} {s : TS} (h : Rep N w wr n s) {a nx gc cap : Nat} {cs : List (Nat × Nat)}
    (h9 : wr.heap[N + 9]? = some (.cells #[.slice (some ⟨gc, 0, none⟩) (cs.length + 1) cap] 36 (0, 0))) (o9 : wr.ownsRow (N + 10) 38 2 (.slice (some ⟨gc, 0, none⟩) (cs.length + 1) cap) (cs.length + 1) (callCells ((a, nx) :: cs))) (hgc : N + 10 ≤ gc) :
    Rep N w (wr.setCell ⟨gc, cs.length * 2 + 1, none⟩ (.int .i64 ((nx + 1 : Nat) : Int))) n (adv s a nx cs) := by
  obtain ⟨v7, h7, o7⟩ := h.b7
  have hsz := h.size
  have o7' : (wr.setCell ⟨gc, cs.length * 2 + 1, none⟩ (.int .i64 ((nx + 1 : Nat) : Int))).ownsRow (N + 10) 3 1 v7 s.stack.length (s.stack.reverse.map fun (x : Nat) => Value.int .i64 (x : Int)) := by
    refine ownsRow_setCell_other o7 ?_ _
    intro e7
    exact absurd (own_type o9 (k := gc) rfl) (own_type_ne o7 e7 (by decide))
  have o9' := (o9.stored (cs.length * 2 + 1) (.int .i64 ((nx + 1 : Nat) : Int))).1
  have e : (callCells ((a, nx) :: cs)).set (cs.length * 2 + 1) (.int .i64 ((nx + 1 : Nat) : Int)) = callCells ((a, nx + 1) :: cs) := by
    have hl := callCells_length cs
    simp only [callCells]
    rw [List.set_append_right _ _ (by omega), hl]
    simp
  rw [e] at o9'
  refine ⟨h.below.setCell (by simp; omega) _, by simpa using hsz, h.lo, h.ll, h.ls, h.lc, ?_, ?_, ?_, ?_, ?_, ?_, ?_, ⟨v7, ?_, o7'⟩, ?_, ⟨_, ?_, o9'⟩⟩
  · rw [sB _ _ _ _ _ (by omega)]; exact h.b0
  · rw [sB _ _ _ _ _ (by omega)]; exact h.b1
  · rw [sB _ _ _ _ _ (by omega)]; exact h.b2
  · rw [sB _ _ _ _ _ (by omega)]; exact h.b3
  · rw [sB _ _ _ _ _ (by omega)]; exact h.b4
  · rw [sB _ _ _ _ _ (by omega)]; exact h.b5
  · rw [sB _ _ _ _ _ (by omega)]; exact h.b6
  · rw [sB _ _ _ _ _ (by omega)]; exact h7
  · rw [sB _ _ _ _ _ (by omega)]; exact h.b8
  · rw [sB _ _ _ _ _ (by omega)]; exact h9

set_option maxRecDepth 20000 in
set_option maxHeartbeats 1000000 in
theorem comp_any (a : Option Addr) (cap : Nat) (g : List (List Nat)) (w : World) (h : GAt w w.heap.size a (castG g)) (hn : g.length ≤ 65536) (hr : ∀ i, (rowN g i).length ≤ 1048576) (fin : TS) (hout : Outer g g.length 0 (startS g.length) fin) :
    Calls Try.prog 19 #[.slice a g.length cap] w (CompPost w g.length fin) := by
  have HG : Hid (GAt w w.heap.size a (castG g)) := h
  have HO : Hid (Outer g g.length 0 (startS g.length) fin) := hout
  have HRw : Hid (∀ i, (rowN g i).length ≤ 1048576) := hr
  clear h hout hr
  obtain ⟨n, hnn⟩ : ∃ n, n = g.length := ⟨_, rfl⟩
  rw [← hnn] at hn HO ⊢
  have HN : Hid (n = g.length) := hnn
  clear hnn
  have hmk := fun w => run_make_row' (P := Try.prog) 25 3 (.int .i64 0) 8 Try.underlying25 info3 rfl .i64 .i64 n (by omega) (by omega) w
  have hmk4 := fun w => run_make_row' (P := Try.prog) 33 4 (.bool false) 1 Try.underlying33 info4 rfl .i64 .i64 n (by omega) (by omega) w
  go_enter Try.func19, Try.ntmps19
  go_wp2
  clear hmk hmk4
  have hst := rep_start w n
  simp only [Nat.add_assoc, Nat.reduceAdd]
  have HST : Hid (Rep w.heap.size w _ n (startS n)) := hst
  clear hst
  go_loopg [31, 10] n (fun j i f wr => ∃ (r : Nat) (s : TS), r + j = n ∧ i = .int .i64 (r : Int) ∧ f = .int .i64 (s.found : Int) ∧ Rep w.heap.size w wr n s ∧ Outer g j r s fin)
  case atStart => exact ⟨0, startS n, by omega, rfl, rfl, HST.out, HO.out⟩
  case round =>
    obtain ⟨r, s, hrj, rfl, rfl, hrep, hO⟩ := hrel
    have HR : Hid (Rep w.heap.size w wr n s) := hrep
    clear hrep HST HO
    cases gk with
    | zero =>
      have HF : Hid (fin = s) := hO
      clear hO
      obtain rfl : r = n := by omega
      go_wp2
      go_ret
      refine ⟨rfl, ?_⟩
      rw [HF.out]
      exact HR.out
    | succ j =>
      have hlt : r < n := by omega
      have c1 := cell_of_one HR.out.b1
      have c0 := ints_cell HR.out.b0 (i := r) (by rw [HR.out.lo]; exact hlt)
      obtain ⟨x, hx⟩ : ∃ x, x = s.order.getD r 0 := ⟨_, rfl⟩
      rw [← hx] at c0
      rcases hO with ⟨h1, h2⟩ | ⟨h1, hfit, k, m, hin, h2⟩
      · have hb : ((x : Int) != 0) = true := by rw [hx]; simpa using h1
        have H2 : Hid (Outer g j (r + 1) s fin) := h2
        clear h1 h2 hx
        go_wp2
        go_roundg j
        case measure => omega
        case rel => exact ⟨r + 1, s, by omega, by go_num, rfl, HR.out, H2.out⟩
      · obtain rfl : x = 0 := by omega
        have H2 : Hid (Outer g j (r + 1) m fin) := h2
        have HF : Hid (fits s r n) := by rw [HN.out]; exact hfit
        have HI : Hid (Inner g k (meetS s r) m) := hin
        clear h1 h2 hx hfit hin
        go_wp2_with (go_at_call 22; refine (meet_any w.heap.size n r w _ s HR.out HF.out).mono ?_; rintro e w' ⟨rfl, hrep⟩)
        have HR1 : Hid (Rep w.heap.size w w' n (meetS s r)) := hrep
        clear hrep HR HF c0 c1
        go_loopg [10] k (fun k f wr => ∃ (s : TS), f = .int .i64 (s.found : Int) ∧ Rep w.heap.size w wr n s ∧ Inner g k s m)
        case atStart => exact ⟨meetS s r, rfl, HR1.out, HI.out⟩
        case round =>
          clear HR1 HI
          obtain ⟨t, rfl, hrep, hI⟩ := hrel
          have HR : Hid (Rep w.heap.size w wr n t) := hrep
          clear hrep
          cases gk with
          | zero =>
            obtain ⟨hc0, hms⟩ := hI
            have HM : Hid (m = t) := hms
            obtain ⟨v9, h9, o9⟩ := HR.out.b9
            rw [hc0] at o9
            obtain ⟨ao, cap9, hv9⟩ := own_any o9
            subst hv9
            have c9 := cell_of_one h9
            clear hms hc0 o9 h9
            simp only [List.length_nil] at c9
            go_wp2
            go_roundg j
            case measure => omega
            case rel => exact ⟨r + 1, t, by omega, by go_num, rfl, HR.out, by rw [← HM.out]; exact H2.out⟩
          | succ k =>
            obtain ⟨s', hstep, hI'⟩ := hI
            have HI : Hid (Inner g k s' m) := hI'
            clear hI'
            obtain ⟨a', nx, cs, hcalls, han, hnx, hcs, hcase⟩ := hstep
            rw [← HN.out] at han hcase
            have HC : Hid (t.calls = (a', nx) :: cs) := hcalls
            clear hcalls
            obtain ⟨gc, cap9, hb9, ho9, hgc, hl9, hm9, ca, cn, fn⟩ := top_call HR.out HC.out
            have HO9 : Hid (wr.ownsRow (w.heap.size + 10) 38 2 (.slice (some ⟨gc, 0, none⟩) (cs.length + 1) cap9) (cs.length + 1) (callCells ((a', nx) :: cs))) := ho9
            have c9 := cell_of_one hb9
            have H9 : Hid (wr.heap[w.heap.size + 9]? = some (.cells #[.slice (some ⟨gc, 0, none⟩) (cs.length + 1) cap9] 36 (0, 0))) := hb9
            unfold maxLen at hm9
            clear ho9 hb9
            obtain ⟨b, o, A, C, ha, hbB, hcr, hA0, hC1, hC2, hrow⟩ := HG.out.row a' (by rw [castG_length, ← HN.out]; exact han)
            have hcr' : wr.cell? ⟨b, o + a', none⟩ = some (.slice A (rw' (castG g) a').length C) := (HR.out.below.cell (p := ⟨b, o + a', none⟩) hbB).trans hcr
            have hlen : (rw' (castG g) a').length = (rowN g a').length := by rw [castG_row]; simp
            have hL := HRw.out a'
            rw [hlen] at hcr' hrow
            obtain ⟨L, hL'⟩ : ∃ L, L = (rowN g a').length := ⟨_, rfl⟩
            rw [← hL'] at hcr' hrow hL hcase
            clear hlen hcr hC1 hC2 hA0 hL'
            subst ha
            obtain ⟨d, hto'⟩ : ∃ d, d = (rowN g a').getD nx 0 := ⟨_, rfl⟩
            rw [← hto'] at hcase
            rcases hcase with ⟨h1, h2, hw⟩ | ⟨h1, h2, hw⟩
            · obtain ⟨b', o', hA, hb', hct⟩ := hrow nx h1
              subst hA
              have hct' : wr.cell? ⟨b', o' + nx, none⟩ = some (.int .i64 (d : Int)) := by
                rw [hto', ← castG_at]; exact (HR.out.below.cell (p := ⟨b', o' + nx, none⟩) hb').trans hct
              have hsz := HR.out.size
              clear hrow hct hto'
              have h1' : (nx : Int) < (L : Int) := by omega
              go_wp2_with fail
              go_quiet (fail)
              go_wp2_with fail
              go_quiet (fail)
              go_upto_region 20 with fail
              go_cut [] (fun wr' => Rep w.heap.size w wr' n (adv t a' nx cs))
              case first =>
                go_wp2
                go_meet
                case rel => exact ((HR.out.drewN _).setNext H9.out HO9.out hgc)
              case rest =>
                have HR2 : Hid (Rep w.heap.size w wc n (adv t a' nx cs)) := hcut
                clear hcut ca cn fn c9 HO9 H9 hcr' hct' HR HG
                have c1 := cell_of_one HR2.out.b1
                have c0 := ints_cell HR2.out.b0 (i := d) (by rw [HR2.out.lo]; exact h2)
                have e0 : (adv t a' nx cs).order = t.order := rfl
                rw [e0] at c0
                rcases hw with ⟨k1, k2, k3⟩ | ⟨k1, k2, k3⟩ | ⟨k1, k2, k3⟩
                · rw [k1] at c0
                  have HF : Hid (fits (adv t a' nx cs) d n) := ⟨k2.1, k2.2.1, k2.2.2.1, by have := k2.2.2.2; rw [HC.out] at this; simpa [adv] using this⟩
                  have HS : Hid (s' = meetS (adv t a' nx cs) d) := k3
                  clear k1 k2 k3 e0
                  go_wp2_with (go_at_call 22; refine (meet_any w.heap.size n d w _ (adv t a' nx cs) HR2.out HF.out).mono ?_; rintro e w' ⟨rfl, hrep⟩; have HR3 : Hid (Rep w.heap.size w w' n (meetS (adv t a' nx cs) d)) := hrep; clear hrep)
                  go_roundg k
                  case measure => omega
                  case rel => exact ⟨meetS (adv t a' nx cs) d, rfl, HR3.out, by rw [← HS.out]; exact HI.out⟩
                · obtain ⟨y, hy⟩ : ∃ y, y = t.order.getD d 0 := ⟨_, rfl⟩
                  obtain ⟨x, hx⟩ : ∃ x, x = t.low.getD a' 0 := ⟨_, rfl⟩
                  rw [← hy, ← hx] at k3
                  rw [← hy] at c0 k1
                  have hyb : ((y : Int) == 0) = false := by simpa using k1
                  have c5 := cell_of_one HR2.out.b5
                  have c4 := bools_cell HR2.out.b4 (i := d) (by rw [HR2.out.ls]; exact h2)
                  have e4 : (adv t a' nx cs).onS = t.onS := rfl
                  rw [e4, k2] at c4
                  have c3 := cell_of_one HR2.out.b3
                  have c2 := ints_cell HR2.out.b2 (i := a') (by rw [HR2.out.ll]; exact han)
                  have e2 : (adv t a' nx cs).low = t.low := rfl
                  rw [e2, ← hx] at c2
                  have f2 := frozen_of_row wc (w.heap.size + 2) a' _ _ HR2.out.b2
                  have HS : Hid (s' = { adv t a' nx cs with low := t.low.set a' (min x y) }) := k3
                  clear k1 k2 k3 e0 e4 hy e2 hx
                  go_wp2_with fail
                  go_region
                  go_wp2
                  all_goals
                    go_roundg k
                    case measure => omega
                    case rel =>
                      refine ⟨s', by rw [HS.out]; rfl, ?_, HI.out⟩
                      first
                        | (have hm : min x y = y := by omega
                           rw [HS.out, hm]
                           exact (HR2.out.setLow a' y).drewN 1)
                        | (have hm : min x y = x := by omega
                           rw [HS.out, hm]
                           exact (HR2.out.setLow a' x).drewN 1)
                · obtain ⟨y, hy⟩ : ∃ y, y = t.order.getD d 0 := ⟨_, rfl⟩
                  rw [← hy] at c0 k1
                  have hyb : ((y : Int) == 0) = false := by simpa using k1
                  have c5 := cell_of_one HR2.out.b5
                  have c4 := bools_cell HR2.out.b4 (i := d) (by rw [HR2.out.ls]; exact h2)
                  have e4 : (adv t a' nx cs).onS = t.onS := rfl
                  rw [e4, k2] at c4
                  have HS : Hid (s' = adv t a' nx cs) := k3
                  clear k1 k2 k3 e0 e4 hy
                  go_wp2
                  go_roundg k
                  case measure => omega
                  case rel => exact ⟨adv t a' nx cs, rfl, HR2.out, by rw [← HS.out]; exact HI.out⟩
            · have HS : Hid (((lowOf t a' cs).getD a' 0 ≠ t.order.getD a' 0 ∧ s' = { t with calls := cs, low := lowOf t a' cs }) ∨
                ((lowOf t a' cs).getD a' 0 = t.order.getD a' 0 ∧ t.found < 1048576 ∧ ∃ st o k, popTo a' t.found n t.stack t.onS t.comp = some (st, o, k) ∧
                  s' = { t with calls := cs, low := lowOf t a' cs, stack := st, onS := o, comp := k, found := t.found + 1 })) := hw
              have HK : Hid (callerOk n cs) := h2
              have hsz := HR.out.size
              have h1' : ¬ (nx : Int) < (L : Int) := by omega
              have hf9 := free_of_one H9.out
              clear hrow hto' hw h2 fn
              go_wp2_with fail
              go_quiet (fail)
              go_upto_region 25 with fail
              go_cut [] (fun wr' => Rep w.heap.size w wr' n { t with calls := cs })
              case first =>
                go_wp2
                go_meet
                case rel =>
                  refine ((HR.out.drewN _).setCalls H9.out ?_ (World.grownBy.refl _ _) cs ?_)
                  · intro k hk
                    simp only [Value.ownBlock, Option.some.injEq] at hk
                    omega
                  · exact ownsRow_pop (last := [.int .i64 (a' : Int), .int .i64 (nx : Int)]) (callCells_length cs) HO9.out
              case rest =>
                have HR1 : Hid (Rep w.heap.size w wc n { t with calls := cs }) := hcut
                clear hcut ca cn c9 HO9 H9 hcr' HR hf9 HG
                obtain ⟨v9, h9, o9⟩ := HR1.out.b9
                obtain ⟨ao, cap2, hv9⟩ := own_any o9
                subst hv9
                have c9 := cell_of_one h9
                have H9 : Hid (wc.heap[w.heap.size + 9]? = some (.cells #[.slice ao cs.length cap2] 36 (0, 0))) := h9
                clear o9 h9
                go_upto_if 114 with fail
                go_cut [] (fun wr' => Rep w.heap.size w wr' n { t with calls := cs, low := lowOf t a' cs })
                case first =>
                  rcases Nat.eq_zero_or_pos cs.length with hz | hpos
                  · have HL : Hid (lowOf t a' cs = t.low) := by rw [List.eq_nil_of_length_eq_zero hz]; rfl
                    have hz' : ¬ 0 < cs.length := by omega
                    clear hz HS HK
                    go_wp2
                    go_meet
                    case rel => rw [HL.out]; exact HR1.out
                  · obtain ⟨cb, cx, cs', hcse⟩ : ∃ cb cx cs', cs = (cb, cx) :: cs' := by
                      cases cs with
                      | nil => simp at hpos
                      | cons p r => exact ⟨p.1, p.2, r, rfl⟩
                    obtain ⟨gc2, cap3, hb9, ho9, hgc2, hl2, hm2, ca2, cn2, fn2⟩ := top_call HR1.out (a := cb) (nx := cx) (cs := cs') hcse
                    have c9' := cell_of_one hb9
                    have hcb : cb < n := by have := HK.out; rw [hcse] at this; exact this
                    have c3 := cell_of_one HR1.out.b3
                    have c2 := ints_cell HR1.out.b2 (i := cb) (by rw [HR1.out.ll]; exact hcb)
                    have c2' := ints_cell HR1.out.b2 (i := a') (by rw [HR1.out.ll]; exact han)
                    have f2 := frozen_of_row wc (w.heap.size + 2) cb _ _ HR1.out.b2
                    dsimp only at c2 c2'
                    unfold maxLen at hm2
                    obtain ⟨x, hx⟩ : ∃ x, x = t.low.getD cb 0 := ⟨_, rfl⟩
                    obtain ⟨y, hy⟩ : ∃ y, y = t.low.getD a' 0 := ⟨_, rfl⟩
                    rw [← hx] at c2
                    rw [← hy] at c2'
                    have hll := lowOf_cons t a' cb cx cs'
                    rw [← hx, ← hy, ← hcse] at hll
                    have HL : Hid (lowOf t a' cs = t.low.set cb (min x y)) := hll
                    clear hb9 ho9 H9 HS HK hx hy hll hcse c9 cn2 fn2
                    go_wp2_with fail
                    go_region
                    go_wp2
                    all_goals
                      go_meet
                      case rel =>
                        rw [HL.out]
                        first
                          | (have hm : min x y = y := by omega
                             rw [hm]
                             exact (HR1.out.setLow cb y).drewN 1)
                          | (have hm : min x y = x := by omega
                             rw [hm]
                             exact (HR1.out.setLow cb x).drewN 1)
                case rest =>
                  have HR2 : Hid (Rep w.heap.size w wc n { t with calls := cs, low := lowOf t a' cs }) := hcut
                  clear hcut c9 H9 HR1
                  have c1 := cell_of_one HR2.out.b1
                  have c3 := cell_of_one HR2.out.b3
                  have c0 := ints_cell HR2.out.b0 (i := a') (by rw [HR2.out.lo]; exact han)
                  have c2 := ints_cell HR2.out.b2 (i := a') (by rw [HR2.out.ll]; exact han)
                  dsimp only at c0 c2
                  obtain ⟨x, hx⟩ : ∃ x, x = (lowOf t a' cs).getD a' 0 := ⟨_, rfl⟩
                  obtain ⟨y, hy⟩ : ∃ y, y = t.order.getD a' 0 := ⟨_, rfl⟩
                  rw [← hx] at c2
                  rw [← hy] at c0
                  have hcase := HS.out
                  rw [← hx, ← hy] at hcase
                  clear HS hx hy HK
                  rcases hcase with ⟨hne, hs'⟩ | ⟨heq, hfd, st, o2, k2, hpop, hs'⟩
                  · have hb : ((x : Int) == (y : Int)) = false := by simp; omega
                    have HS : Hid (s' = { t with calls := cs, low := lowOf t a' cs }) := hs'
                    clear hne hs'
                    go_wp2_with fail
                    go_quiet (fail)
                    go_wp2
                    go_roundg k
                    case measure => omega
                    case rel => exact ⟨s', by rw [HS.out], by rw [HS.out]; exact HR2.out.drewN _, HI.out⟩
                  · subst heq
                    have HS : Hid (s' = { t with calls := cs, low := lowOf t a' cs, stack := st, onS := o2, comp := k2, found := t.found + 1 }) := hs'
                    have HP : Hid (popTo a' t.found n t.stack t.onS t.comp = some (st, o2, k2)) := hpop
                    clear hs' hpop
                    go_wp2_with fail
                    go_quiet (fail)
                    go_wp2
                    clear c0 c1 c2 c3
                    go_loopg [] t.stack.length (fun q wr => ∃ (S : List Nat) (O : List Bool) (K : List Nat), q = S.length ∧ Rep w.heap.size w wr n { t with calls := cs, low := lowOf t a' cs, stack := S, onS := O, comp := K } ∧ popTo a' t.found n S O K = some (st, o2, k2))
                    case atStart => exact ⟨t.stack, t.onS, t.comp, rfl, HR2.out.drewN _, HP.out⟩
                    case round =>
                      clear HR2 HP
                      obtain ⟨S, O, K, hq, hrep, hpop⟩ := hrel
                      have HR3 : Hid (Rep w.heap.size w wr n { t with calls := cs, low := lowOf t a' cs, stack := S, onS := O, comp := K }) := hrep
                      clear hrep
                      cases S with
                      | nil => simp [popTo] at hpop
                      | cons x rest =>
                        simp only [popTo] at hpop
                        by_cases hxn : x < n
                        · rw [if_pos hxn] at hpop
                          obtain ⟨gs, cap7, hb7, ho7, hgs, hl7, hm7, cx⟩ := top_stack HR3.out rfl
                          have hr4 := ((HR3.out.popStack hb7 ho7 hgs).setOnS x false).setComp x t.found
                          have HR4 : Hid (Rep w.heap.size w (((wr.setCell ⟨w.heap.size + 7, 0, none⟩ (.slice (some ⟨gs, 0, none⟩) rest.length cap7)).setCell ⟨w.heap.size + 4, x, none⟩ (.bool false)).setCell ⟨w.heap.size + 6, x, none⟩ (.int .i64 (t.found : Int))) n
                            { t with calls := cs, low := lowOf t a' cs, stack := rest, onS := O.set x false, comp := K.set x t.found }) := hr4
                          have c7 := cell_of_one hb7
                          have f7 := free_of_one hb7
                          have c5 := cell_of_one HR3.out.b5
                          have c4 := bools_cell HR3.out.b4 (i := x) (by rw [HR3.out.ls]; exact hxn)
                          have f4 := frozen_of_row wr (w.heap.size + 4) x _ _ HR3.out.b4
                          have c6 := ints_cell HR3.out.b6 (i := x) (by rw [HR3.out.lc]; exact hxn)
                          have f6 := frozen_of_row wr (w.heap.size + 6) x _ _ HR3.out.b6
                          unfold maxLen at hm7
                          simp only [List.length_cons] at hq
                          have hgq : rest.length < gk := by omega
                          have HQ : Hid (gk = rest.length + 1) := hq
                          clear hr4 hb7 ho7 hq HR3
                          by_cases hxa : x = a'
                          · rw [if_pos hxa] at hpop
                            simp only [Option.some.injEq, Prod.mk.injEq] at hpop
                            have HE : Hid (rest = st ∧ O.set x false = o2 ∧ K.set x t.found = k2) := hpop
                            have hxb : ((x : Int) == (a' : Int)) = true := by simp; omega
                            clear hpop hxa
                            go_wp2
                            go_roundg k
                            case measure => omega
                            case rel =>
                              refine ⟨s', by rw [HS.out]; go_num, ?_, HI.out⟩
                              rw [HS.out, ← HE.out.1, ← HE.out.2.1, ← HE.out.2.2]
                              exact HR4.out.setFound (t.found + 1)
                          · rw [if_neg hxa] at hpop
                            have HE : Hid (popTo a' t.found n rest (O.set x false) (K.set x t.found) = some (st, o2, k2)) := hpop
                            have hxb : ((x : Int) == (a' : Int)) = false := by simp; omega
                            clear hpop hxa
                            go_wp2
                            go_roundg rest.length
                            case measure => omega
                            case rel => exact ⟨rest, _, _, rfl, HR4.out, HE.out⟩
                        · rw [if_neg hxn] at hpop
                          cases hpop
end Go.Proofs.Qxb6600314a
