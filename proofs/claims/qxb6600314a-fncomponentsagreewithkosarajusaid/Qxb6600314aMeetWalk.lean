import Derived.Test.Qxb6600314aRep
import Derived.Deep.DeepCutAuto
import Derived.Deep.RegionWith
namespace Go.Proofs.Qxb6600314a
open Go.RowKit

theorem info38 : (Try.prog.info? 38).map (fun i => (i.zero, i.size, i.bytes)) = some (some (.agg #[.int .i64 0, .int .i64 0]), 2, 16) := by kernel_rfl

theorem grown_trans {a b c : World} {row : Option Nat} (h : a.grownBy b row) (k : b.grownBy c row) : a.grownBy c row :=
  ⟨k.os.trans h.os, k.tape.trans h.tape, k.output.trans h.output, Nat.le_trans h.size k.size, fun i hi hr => (k.block i (Nat.lt_of_lt_of_le hi h.size) hr).trans (h.block i hi hr)⟩

theorem own_shape {w : World} {base : Nat} {e : TypeId} {size : Nat} {v : Value} {n : Nat} {xs : List Value} (h : w.ownsRow base e size v n xs) (hn : 0 < n) : ∃ g cap, v = .slice (some ⟨g, 0, none⟩) n cap ∧ base ≤ g ∧ n ≤ cap ∧ cap ≤ maxLen := by
  rcases h.2 with ⟨_, h0⟩ | ⟨g, cap, cur, rfl, hb, hg, h3, h4, _⟩
  · omega
  · exact ⟨g, cap, rfl, hb, h3, h4⟩

/-- A box among the fixed blocks, behind an append: it stands. -/
theorem box_kept {N b : Nat} {wr w1 : World} {o : Obj} {v u : Value} {t : TypeId} {base : Nat} {e : TypeId} {size k : Nat} {xs : List Value} (hb : b < N + 10) (hv : wr.heap[b]? = some (.cells #[u] t (0, 0))) (ho : wr.ownsRow base e size v k xs) (hbase : N + 10 ≤ base)
    (hg : (wr.alloc o).grownBy w1 v.ownBlock) : w1.heap[b]? = some (.cells #[u] t (0, 0)) := by
  have hlt := lt_of_block hv
  rw [hg.block b (by simp; omega) (fun e => by have := (ho.lt b e.symm).1; omega), ((Below.refl wr.heap.size wr).alloc (Nat.le_refl _) o).block b hlt]
  exact hv

/-- What the closure leaves. -/
def MeetPost (N : Nat) (w : World) (n : Nat) (s : TS) (e : Ending) (w' : World) : Prop := e = .returned (.tuple #[]) ∧ Rep N w w' n s

set_option maxHeartbeats 1000000 in
theorem meet_any (N n a : Nat) (w wr : World) (s : TS) (h : Rep N w wr n s) (hf : fits s a n) :
    Calls Try.prog 22 #[.int .i64 (a : Int), .pointer (some ⟨N + 8, 0, none⟩), .pointer (some ⟨N + 1, 0, none⟩), .pointer (some ⟨N + 3, 0, none⟩), .pointer (some ⟨N + 7, 0, none⟩), .pointer (some ⟨N + 5, 0, none⟩), .pointer (some ⟨N + 9, 0, none⟩)]
      wr (MeetPost N w n (meetS s a)) := by
  obtain ⟨ha, hm, hs, hc⟩ := hf
  have HR : Hid (Rep N w wr n s) := h
  have c8 := cell_of_one h.b8
  have f8 := free_of_one h.b8
  have c1 := cell_of_one h.b1
  have c3 := cell_of_one h.b3
  have c0 := ints_cell h.b0 (i := a) (by rw [h.lo]; exact ha)
  have f0 := frozen_of_row wr N a _ _ h.b0
  have c2 := ints_cell h.b2 (i := a) (by rw [h.ll]; exact ha)
  have f2 := frozen_of_row wr (N + 2) a _ _ h.b2
  clear h
  go_enter Try.func22, Try.ntmps22
  go_upto_region 1 with fail
  go_cut [] (fun wr' => Rep N w wr' n { s with met := s.met + 1, order := s.order.set a (s.met + 1), low := s.low.set a (s.met + 1) })
  case first =>
    go_region
    all_goals
      go_wp2_with fail
      go_meet
      case rel =>
        exact ((((HR.out.setMet (s.met + 1)).setOrder a (s.met + 1)).setLow a (s.met + 1)).drewN 1)
  case rest =>
    have HR1 : Hid (Rep N w wc n { s with met := s.met + 1, order := s.order.set a (s.met + 1), low := s.low.set a (s.met + 1) }) := hcut
    clear hcut c8 f8 c1 c3 c0 f0 c2 f2 HR
    obtain ⟨v7, h7, o7⟩ := HR1.out.b7
    have c7 := cell_of_one h7
    have HO7 : Hid (wc.ownsRow (N + 10) 3 1 v7 s.stack.length (s.stack.reverse.map fun (x : Nat) => Value.int .i64 (x : Int))) := o7
    have H7 : Hid (wc.heap[N + 7]? = some (.cells #[v7] 25 (0, 0))) := h7
    clear o7 h7
    go_upto_region 2 with fail
    go_cut [] (fun wr' => Rep N w wr' n { s with met := s.met + 1, order := s.order.set a (s.met + 1), low := s.low.set a (s.met + 1), stack := a :: s.stack })
    case first =>
      obtain ⟨i0, hi, hz0, hz1, hz2⟩ := info_parts info3
      have hsz := HR1.out.size
      go_wp2_with (at_builtin; refine wpList_append_own _ rfl (.tmp 18) (.tmp 20) 25 rfl (N + 10) 3 i0 (.int .i64 0) 1 8 Try.underlying25 hi hz0 hz1 hz2 rfl (by decide) v7 s.stack.length _ rfl (HO7.out.alloc _) ⟨wc.heap.size, 0, none⟩ 1 1 [.int .i64 (a : Int)] rfl rfl (cell_one_new _ _ _) (by intro u hu; simp at hu; subst hu; rfl) (by unfold maxLen; omega) (by omega) (by simp; omega) ?_; intro v' w1 ho hg _; obtain ⟨g', cap', hv', -, -, -⟩ := own_shape ho (by omega); subst hv'; have hb7 := box_kept (N := N) (b := N + 7) (by omega) H7.out HO7.out (Nat.le_refl _) hg; have hc7 := cell_of_one hb7; have hf7 := free_of_one hb7)
      go_meet
      case rel =>
        refine HR1.out.setStack H7.out (fun k hk => (HO7.out.lt k hk).1) (grown_trans (World.grownBy_alloc _ _ _) hg) (a :: s.stack) ?_
        simpa using ho
    case rest =>
      have HR2 : Hid (Rep N w wc n { s with met := s.met + 1, order := s.order.set a (s.met + 1), low := s.low.set a (s.met + 1), stack := a :: s.stack }) := hcut
      clear hcut c7 HR1 HO7 H7
      have c5 := cell_of_one HR2.out.b5
      have c4 := bools_cell HR2.out.b4 (i := a) (by rw [HR2.out.ls]; exact ha)
      have f4 := frozen_of_row wc (N + 4) a _ _ HR2.out.b4
      go_upto_region 3 with fail
      go_cut [] (fun wr' => Rep N w wr' n { s with met := s.met + 1, order := s.order.set a (s.met + 1), low := s.low.set a (s.met + 1), stack := a :: s.stack, onS := s.onS.set a true })
      case first =>
        go_wp2
        go_meet
        case rel => exact HR2.out.setOnS a true
      case rest =>
        have HR3 : Hid (Rep N w wc n { s with met := s.met + 1, order := s.order.set a (s.met + 1), low := s.low.set a (s.met + 1), stack := a :: s.stack, onS := s.onS.set a true }) := hcut
        clear hcut c5 c4 f4 HR2
        obtain ⟨v9, h9, o9⟩ := HR3.out.b9
        have c9 := cell_of_one h9
        have HO9 : Hid (wc.ownsRow (N + 10) 38 2 v9 s.calls.length (callCells s.calls)) := o9
        have H9 : Hid (wc.heap[N + 9]? = some (.cells #[v9] 36 (0, 0))) := h9
        clear o9 h9
        obtain ⟨i0, hi, hz0, hz1, hz2⟩ := info_parts info38
        have hsz := HR3.out.size
        go_wp2_with (at_builtin; refine wpList_append_own _ rfl (.tmp 25) (.tmp 28) 36 rfl (N + 10) 38 i0 (.agg #[.int .i64 0, .int .i64 0]) 2 16 Try.underlying36 hi hz0 hz1 hz2 rfl (by decide) v9 s.calls.length _ rfl (HO9.out.alloc _) ⟨wc.heap.size, 0, none⟩ 1 1 [.int .i64 (a : Int), .int .i64 0] rfl rfl (cell_two_new _ _ _ _) (by intro u hu; simp at hu; rcases hu with rfl | rfl <;> rfl) (by unfold maxLen; omega) (by omega) (by simp; omega) ?_; intro v' w1 ho hg _; obtain ⟨g', cap', hv', -, -, -⟩ := own_shape ho (by omega); subst hv'; have hb9 := box_kept (N := N) (b := N + 9) (by omega) H9.out HO9.out (Nat.le_refl _) hg; have hc9 := cell_of_one hb9; have hf9 := free_of_one hb9)
        go_end0
        refine ⟨rfl, ?_⟩
        refine HR3.out.setCalls H9.out (fun k hk => (HO9.out.lt k hk).1) (grown_trans (World.grownBy_alloc _ _ _) hg) ((a, 0) :: s.calls) ?_
        simpa [callCells] using ho
end Go.Proofs.Qxb6600314a
