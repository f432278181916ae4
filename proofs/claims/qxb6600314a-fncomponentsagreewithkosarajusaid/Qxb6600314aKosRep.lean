import Derived.Test.Qxb6600314aTransWalk
import Derived.Test.Qxb6600314aKosPlain
namespace Go.Proofs.Qxb6600314a
open Go.RowKit

def nints (l : List Nat) : List Value := l.map fun (x : Nat) => Value.int .i64 (x : Int)

/-- The first pass, in memory: seen in block N, finished in N + 1, walkAt in N + 2, walkNext in N + 3. -/
structure K1 (N n : Nat) (w wr : World) (seen : List Bool) (done at_ nx : List Nat) : Prop where
  below : Below N w wr
  size : N + 4 ≤ wr.heap.size
  ls : seen.length = n
  b0 : wr.heap[N]? = some (.cells (bools seen) 4 (0, 0))
  o1 : wr.ownsRow N 3 1 (.slice (some ⟨N + 1, 0, none⟩) done.length n) done.length (nints done.reverse)
  o2 : wr.ownsRow N 3 1 (.slice (some ⟨N + 2, 0, none⟩) at_.length n) at_.length (nints at_.reverse)
  o3 : wr.ownsRow N 3 1 (.slice (some ⟨N + 3, 0, none⟩) nx.length n) nx.length (nints nx.reverse)

section
variable {N n : Nat} {w wr : World} {seen : List Bool} {done at_ nx : List Nat}

theorem K1.setSeen (h : K1 N n w wr seen done at_ nx) (i : Nat) (x : Bool) : K1 N n w (wr.setCell ⟨N, i, none⟩ (.bool x)) (seen.set i x) done at_ nx :=
  ⟨h.below.setCell (by simp) _, by simpa using h.size, by simpa using h.ls, by rw [heap_setCell_same _ _ _ _ _ _ h.b0, bools_set],
    ownsRow_setCell_other h.o1 (by simp [Value.ownBlock]) _, ownsRow_setCell_other h.o2 (by simp [Value.ownBlock]) _, ownsRow_setCell_other h.o3 (by simp [Value.ownBlock]) _⟩

theorem nints_snoc (l : List Nat) (x : Nat) : nints (x :: l).reverse = nints l.reverse ++ [.int .i64 (x : Int)] := by simp [nints]

theorem K1.pushDone (h : K1 N n w wr seen done at_ nx) {o : Obj} {w1 : World} {x : Nat} (hg : (wr.alloc o).grownBy w1 (some (N + 1))) (ho : w1.ownsRow N 3 1 (.slice (some ⟨N + 1, 0, none⟩) (done.length + 1) n) (done.length + 1) (nints done.reverse ++ [.int .i64 (x : Int)])) :
    K1 N n w w1 seen (x :: done) at_ nx := by
  have hs := h.size
  have hs1 := hg.size
  have hal : (wr.alloc o).heap.size = wr.heap.size + 1 := by simp
  refine ⟨(h.below.alloc (by omega) o).grown hg (by omega) (fun k hk => by cases hk; omega), by omega, h.ls, ?_, ?_, (h.o2.alloc o).kept hg (.inr (by simp [Value.ownBlock])), (h.o3.alloc o).kept hg (.inr (by simp [Value.ownBlock]))⟩
  · rw [hg.block N (by omega) (by simp), hB _ _ _ (by omega)]; exact h.b0
  · rw [nints_snoc]; exact ho

theorem K1.pushAt (h : K1 N n w wr seen done at_ nx) {o : Obj} {w1 : World} {x : Nat} (hg : (wr.alloc o).grownBy w1 (some (N + 2))) (ho : w1.ownsRow N 3 1 (.slice (some ⟨N + 2, 0, none⟩) (at_.length + 1) n) (at_.length + 1) (nints at_.reverse ++ [.int .i64 (x : Int)])) :
    K1 N n w w1 seen done (x :: at_) nx := by
  have hs := h.size
  have hs1 := hg.size
  have hal : (wr.alloc o).heap.size = wr.heap.size + 1 := by simp
  refine ⟨(h.below.alloc (by omega) o).grown hg (by omega) (fun k hk => by cases hk; omega), by omega, h.ls, ?_, (h.o1.alloc o).kept hg (.inr (by simp [Value.ownBlock])), ?_, (h.o3.alloc o).kept hg (.inr (by simp [Value.ownBlock]))⟩
  · rw [hg.block N (by omega) (by simp), hB _ _ _ (by omega)]; exact h.b0
  · rw [nints_snoc]; exact ho

theorem K1.pushNx (h : K1 N n w wr seen done at_ nx) {o : Obj} {w1 : World} {x : Nat} (hg : (wr.alloc o).grownBy w1 (some (N + 3))) (ho : w1.ownsRow N 3 1 (.slice (some ⟨N + 3, 0, none⟩) (nx.length + 1) n) (nx.length + 1) (nints nx.reverse ++ [.int .i64 (x : Int)])) :
    K1 N n w w1 seen done at_ (x :: nx) := by
  have hs := h.size
  have hs1 := hg.size
  have hal : (wr.alloc o).heap.size = wr.heap.size + 1 := by simp
  refine ⟨(h.below.alloc (by omega) o).grown hg (by omega) (fun k hk => by cases hk; omega), by omega, h.ls, ?_, (h.o1.alloc o).kept hg (.inr (by simp [Value.ownBlock])), (h.o2.alloc o).kept hg (.inr (by simp [Value.ownBlock])), ?_⟩
  · rw [hg.block N (by omega) (by simp), hB _ _ _ (by omega)]; exact h.b0
  · rw [nints_snoc]; exact ho

theorem K1.pop {a k : Nat} (h : K1 N n w wr seen done (a :: at_) (k :: nx)) : K1 N n w wr seen done at_ nx := by
  refine ⟨h.below, h.size, h.ls, h.b0, h.o1, ?_, ?_⟩
  · have := h.o2
    rw [nints_snoc] at this
    exact ownsRow_pop (by simp [nints]) this
  · have := h.o3
    rw [nints_snoc] at this
    exact ownsRow_pop (by simp [nints]) this

theorem top_cell {N g cap x : Nat} {wr : World} {l : List Nat} (h : wr.ownsRow N 3 1 (.slice (some ⟨g, 0, none⟩) (x :: l).length cap) (x :: l).length (nints (x :: l).reverse)) : wr.cell? ⟨g, l.length, none⟩ = some (.int .i64 (x : Int)) := by
  rw [h.cellAt _ (by simp), nints_snoc, List.getElem?_append_right (by simp [nints])]
  simp [nints]

theorem K1.setNx {a k : Nat} (h : K1 N n w wr seen done (a :: at_) (k :: nx)) (y : Nat) : K1 N n w (wr.setCell ⟨N + 3, nx.length, none⟩ (.int .i64 (y : Int))) seen done (a :: at_) (y :: nx) := by
  refine ⟨h.below.setCell (by simp) _, by simpa using h.size, h.ls, by rw [sB _ _ _ _ _ (by omega)]; exact h.b0, ownsRow_setCell_other h.o1 (by simp [Value.ownBlock]) _, ownsRow_setCell_other h.o2 (by simp [Value.ownBlock]) _, ?_⟩
  have := (h.o3.stored nx.length (.int .i64 (y : Int))).1
  rw [nints_snoc] at this ⊢
  rw [List.set_append_right _ _ (by simp [nints])] at this
  simpa [nints] using this
end

theorem own_new {W : World} {base b n : Nat} {cur : Array Value} (hb : base ≤ b) (hm : n ≤ maxLen) (hs : cur.size = n * 1) (hh : W.heap[b]? = some (.cells cur 3 (0, 0))) : W.ownsRow base 3 1 (.slice (some ⟨b, 0, none⟩) 0 n) 0 [] :=
  ⟨by simp, .inr ⟨b, n, cur, rfl, hb, hh, Nat.zero_le _, hm, hs, by simp⟩⟩

theorem K1.start (w : World) (n : Nat) (hn : n ≤ 65536) : K1 w.heap.size n w ((((w.alloc (.cells (madeCells #[.bool false] n) 4)).alloc (.cells (madeCells #[.int .i64 0] n) 3)).alloc (.cells (madeCells #[.int .i64 0] n) 3)).alloc (.cells (madeCells #[.int .i64 0] n) 3)) (List.replicate n false) [] [] [] := by
  have hsz : (madeCells #[Value.int .i64 0] n).size = n * 1 := by rw [ints_rep]; simp [ints]
  refine ⟨?_, by simp, by simp, ?_, ?_, ?_, ?_⟩
  · refine ((((Below.refl _ _).alloc ?_ _).alloc ?_ _).alloc ?_ _).alloc ?_ _ <;> simp <;> omega
  · iterate 3 rw [hB _ _ _ (by simp; try omega)]
    rw [hA _ _ _ (by simp), bools_rep]
  · refine own_new (by omega) (by unfold maxLen; omega) hsz ?_
    iterate 2 rw [hB _ _ _ (by simp; try omega)]
    rw [hA _ _ _ (by simp)]
  · refine own_new (by omega) (by unfold maxLen; omega) hsz ?_
    iterate 1 rw [hB _ _ _ (by simp; try omega)]
    rw [hA _ _ _ (by simp)]
  · refine own_new (by omega) (by unfold maxLen; omega) hsz ?_
    rw [hA _ _ _ (by simp)]

/-- The second pass, in memory: the labels in block B (behind the transposed graph's), what is pending behind it. -/
def zints (l : List Int) : Array Value := (l.map fun (x : Int) => Value.int .i64 x).toArray

structure K2 (B n : Nat) (w wr : World) (l : List Int) (v : Value) (p : List Nat) : Prop where
  below : Below B w wr
  size : B + 1 ≤ wr.heap.size
  len : l.length = n
  b : wr.heap[B]? = some (.cells (zints l) 3 (0, 0))
  own : wr.ownsRow (B + 1) 3 1 v p.length (nints p.reverse)

theorem zints_set (l : List Int) (i : Nat) (x : Int) : (zints l).setIfInBounds i (.int .i64 x) = zints (l.set i x) := by
  apply Array.ext'
  simp [zints, List.map_set]
theorem zints_cell {wr : World} {b : Nat} {l : List Int} (h : wr.heap[b]? = some (.cells (zints l) 3 (0, 0))) {i : Nat} (hi : i < l.length) : wr.cell? ⟨b, i, none⟩ = some (.int .i64 (l.getD i 0)) := by
  rw [World.cell?, h]
  simp [zints, hi, List.getD]

section
variable {B n : Nat} {w wr : World} {l : List Int} {v : Value} {p : List Nat}
theorem K2.set (h : K2 B n w wr l v p) (i : Nat) (x : Int) : K2 B n w (wr.setCell ⟨B, i, none⟩ (.int .i64 x)) (l.set i x) v p :=
  ⟨h.below.setCell (by simp) _, by simpa using h.size, by simpa using h.len, by rw [heap_setCell_same _ _ _ _ _ _ h.b, zints_set], ownsRow_setCell_below h.own (by simp) _⟩

theorem K2.push (h : K2 B n w wr l v p) {o : Obj} {w1 : World} {v' : Value} {x : Nat} (hg : (wr.alloc o).grownBy w1 v.ownBlock) (ho : w1.ownsRow (B + 1) 3 1 v' (p.length + 1) (nints p.reverse ++ [.int .i64 (x : Int)])) : K2 B n w w1 l v' (x :: p) := by
  have hs := h.size
  have hs1 := hg.size
  have hal : (wr.alloc o).heap.size = wr.heap.size + 1 := by simp
  have hlt := h.own.lt
  refine ⟨(h.below.alloc (by omega) o).grown hg (by omega) (fun k hk => by have := (hlt k hk).1; omega), by omega, h.len, ?_, ?_⟩
  · rw [hg.block B (by omega) (fun e => by have := (hlt B e.symm).1; omega), hB _ _ _ (by omega)]; exact h.b
  · rw [nints_snoc]; exact ho

/-- What is pending has a top. -/
theorem K2.top {x : Nat} (h : K2 B n w wr l v (x :: p)) : ∃ g cap, v = .slice (some ⟨g, 0, none⟩) (p.length + 1) cap ∧ B + 1 ≤ g ∧ p.length + 1 ≤ cap ∧ cap ≤ maxLen ∧ wr.cell? ⟨g, p.length, none⟩ = some (.int .i64 (x : Int)) ∧
    K2 B n w wr l (.slice (some ⟨g, 0, none⟩) p.length cap) p := by
  obtain ⟨g, cap, hv, h1, h2, h3⟩ := own_shape h.own (by simp)
  have ho := h.own
  rw [hv] at ho
  refine ⟨g, cap, hv, h1, h2, h3, top_cell ho, h.below, h.size, h.len, h.b, ?_⟩
  rw [nints_snoc] at ho
  exact ownsRow_pop (by simp [nints]) ho
end
end Go.Proofs.Qxb6600314a
