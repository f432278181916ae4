import Derived.Test.Qxb6600314aCloneWalk
import Derived.Test.Qxb6600314aPlain
namespace Go.Proofs.Qxb6600314a
open Go.RowKit

def ints (l : List Nat) : Array Value := (l.map fun (x : Nat) => Value.int .i64 (x : Int)).toArray
def bools (l : List Bool) : Array Value := (l.map Value.bool).toArray
def callCells : List (Nat × Nat) → List Value
  | [] => []
  | (a, b) :: r => callCells r ++ [.int .i64 (a : Int), .int .i64 (b : Int)]

theorem callCells_length (l : List (Nat × Nat)) : (callCells l).length = l.length * 2 := by
  induction l with
  | nil => rfl
  | cons x r ih => simp [callCells, ih]; omega

/-- The state s of 'components' lies in wr; N: the number of blocks at its call; n: the graph's length. -/
structure Rep (N : Nat) (w wr : World) (n : Nat) (s : TS) : Prop where
  below : Below N w wr
  size : N + 10 ≤ wr.heap.size
  lo : s.order.length = n
  ll : s.low.length = n
  ls : s.onS.length = n
  lc : s.comp.length = n
  b0 : wr.heap[N]? = some (.cells (ints s.order) 3 (0, 0))
  b1 : wr.heap[N + 1]? = some (.cells #[.slice (some ⟨N, 0, none⟩) n n] 25 (0, 0))
  b2 : wr.heap[N + 2]? = some (.cells (ints s.low) 3 (0, 0))
  b3 : wr.heap[N + 3]? = some (.cells #[.slice (some ⟨N + 2, 0, none⟩) n n] 25 (0, 0))
  b4 : wr.heap[N + 4]? = some (.cells (bools s.onS) 4 (0, 0))
  b5 : wr.heap[N + 5]? = some (.cells #[.slice (some ⟨N + 4, 0, none⟩) n n] 33 (0, 0))
  b6 : wr.heap[N + 6]? = some (.cells (ints s.comp) 3 (0, 0))
  b7 : ∃ v, wr.heap[N + 7]? = some (.cells #[v] 25 (0, 0)) ∧ wr.ownsRow (N + 10) 3 1 v s.stack.length (s.stack.reverse.map fun (x : Nat) => Value.int .i64 (x : Int))
  b8 : wr.heap[N + 8]? = some (.cells #[.int .i64 (s.met : Int)] 3 (0, 0))
  b9 : ∃ v, wr.heap[N + 9]? = some (.cells #[v] 36 (0, 0)) ∧ wr.ownsRow (N + 10) 38 2 v s.calls.length (callCells s.calls)

theorem ints_set (l : List Nat) (i x : Nat) : (ints l).setIfInBounds i (.int .i64 (x : Int)) = ints (l.set i x) := by
  apply Array.ext'
  simp [ints, List.map_set]
theorem bools_set (l : List Bool) (i : Nat) (x : Bool) : (bools l).setIfInBounds i (.bool x) = bools (l.set i x) := by
  apply Array.ext'
  simp [bools, List.map_set]

theorem own_type {w : World} {base : Nat} {e : TypeId} {size : Nat} {v : Value} {n : Nat} {xs : List Value} (h : w.ownsRow base e size v n xs) {k : Nat} (hk : v.ownBlock = some k) :
    ∃ cur, w.heap[k]? = some (.cells cur e (0, 0)) := by
  rcases h.2 with ⟨rfl, _⟩ | ⟨g, cap, cur, rfl, hb, hg, _⟩
  · simp [Value.ownBlock] at hk
  · simp [Value.ownBlock] at hk
    subst hk
    exact ⟨cur, hg⟩

theorem own_type_ne {w : World} {base : Nat} {e e' : TypeId} {size : Nat} {v : Value} {n : Nat} {xs : List Value} (h : w.ownsRow base e size v n xs) {k : Nat} (hk : v.ownBlock = some k) (hne : e ≠ e') :
    ¬ ∃ cur, w.heap[k]? = some (.cells cur e' (0, 0)) := by
  obtain ⟨cur, h1⟩ := own_type h hk
  rintro ⟨cur', h2⟩
  rw [h1] at h2
  simp at h2
  exact hne h2.2

section
variable {N n : Nat} {w wr : World} {s : TS}

theorem Rep.drewN (h : Rep N w wr n s) (q : Nat) : Rep N w (wr.drewN q) n s :=
  ⟨below_drewN h.below q, h.size, h.lo, h.ll, h.ls, h.lc, h.b0, h.b1, h.b2, h.b3, h.b4, h.b5, h.b6, h.b7, h.b8, h.b9⟩

/-- A store into one of the fixed blocks: all but that block stays. -/
theorem sB (wr : World) (b i : Nat) (v : Value) (k : Nat) (h : k ≠ b) : (wr.setCell ⟨b, i, none⟩ v).heap[k]? = wr.heap[k]? := Below.heap_setCell _ _ _ _ h

theorem Rep.setOrder (h : Rep N w wr n s) (i x : Nat) : Rep N w (wr.setCell ⟨N, i, none⟩ (.int .i64 (x : Int))) n { s with order := s.order.set i x } := by
  obtain ⟨v7, h7, o7⟩ := h.b7
  obtain ⟨v9, h9, o9⟩ := h.b9
  have hsz := h.size
  refine ⟨h.below.setCell (by simp) _, by simpa using hsz, by simpa using h.lo, h.ll, h.ls, h.lc, ?_, ?_, ?_, ?_, ?_, ?_, ?_, ⟨v7, ?_, ownsRow_setCell_below o7 (by simp) _⟩, ?_, ⟨v9, ?_, ownsRow_setCell_below o9 (by simp) _⟩⟩
  · rw [heap_setCell_same _ _ _ _ _ _ h.b0, ints_set]
  · rw [sB _ _ _ _ _ (by omega)]; exact h.b1
  · rw [sB _ _ _ _ _ (by omega)]; exact h.b2
  · rw [sB _ _ _ _ _ (by omega)]; exact h.b3
  · rw [sB _ _ _ _ _ (by omega)]; exact h.b4
  · rw [sB _ _ _ _ _ (by omega)]; exact h.b5
  · rw [sB _ _ _ _ _ (by omega)]; exact h.b6
  · rw [sB _ _ _ _ _ (by omega)]; exact h7
  · rw [sB _ _ _ _ _ (by omega)]; exact h.b8
  · rw [sB _ _ _ _ _ (by omega)]; exact h9

theorem Rep.setLow (h : Rep N w wr n s) (i x : Nat) : Rep N w (wr.setCell ⟨N + 2, i, none⟩ (.int .i64 (x : Int))) n { s with low := s.low.set i x } := by
  obtain ⟨v7, h7, o7⟩ := h.b7
  obtain ⟨v9, h9, o9⟩ := h.b9
  have hsz := h.size
  refine ⟨h.below.setCell (by simp) _, by simpa using hsz, h.lo, by simpa using h.ll, h.ls, h.lc, ?_, ?_, ?_, ?_, ?_, ?_, ?_, ⟨v7, ?_, ownsRow_setCell_below o7 (by simp) _⟩, ?_, ⟨v9, ?_, ownsRow_setCell_below o9 (by simp) _⟩⟩
  · rw [sB _ _ _ _ _ (by omega)]; exact h.b0
  · rw [sB _ _ _ _ _ (by omega)]; exact h.b1
  · rw [heap_setCell_same _ _ _ _ _ _ h.b2, ints_set]
  · rw [sB _ _ _ _ _ (by omega)]; exact h.b3
  · rw [sB _ _ _ _ _ (by omega)]; exact h.b4
  · rw [sB _ _ _ _ _ (by omega)]; exact h.b5
  · rw [sB _ _ _ _ _ (by omega)]; exact h.b6
  · rw [sB _ _ _ _ _ (by omega)]; exact h7
  · rw [sB _ _ _ _ _ (by omega)]; exact h.b8
  · rw [sB _ _ _ _ _ (by omega)]; exact h9

theorem Rep.setOnS (h : Rep N w wr n s) (i : Nat) (x : Bool) : Rep N w (wr.setCell ⟨N + 4, i, none⟩ (.bool x)) n { s with onS := s.onS.set i x } := by
  obtain ⟨v7, h7, o7⟩ := h.b7
  obtain ⟨v9, h9, o9⟩ := h.b9
  have hsz := h.size
  refine ⟨h.below.setCell (by simp) _, by simpa using hsz, h.lo, h.ll, by simpa using h.ls, h.lc, ?_, ?_, ?_, ?_, ?_, ?_, ?_, ⟨v7, ?_, ownsRow_setCell_below o7 (by simp) _⟩, ?_, ⟨v9, ?_, ownsRow_setCell_below o9 (by simp) _⟩⟩
  · rw [sB _ _ _ _ _ (by omega)]; exact h.b0
  · rw [sB _ _ _ _ _ (by omega)]; exact h.b1
  · rw [sB _ _ _ _ _ (by omega)]; exact h.b2
  · rw [sB _ _ _ _ _ (by omega)]; exact h.b3
  · rw [heap_setCell_same _ _ _ _ _ _ h.b4, bools_set]
  · rw [sB _ _ _ _ _ (by omega)]; exact h.b5
  · rw [sB _ _ _ _ _ (by omega)]; exact h.b6
  · rw [sB _ _ _ _ _ (by omega)]; exact h7
  · rw [sB _ _ _ _ _ (by omega)]; exact h.b8
  · rw [sB _ _ _ _ _ (by omega)]; exact h9

theorem Rep.setComp (h : Rep N w wr n s) (i x : Nat) : Rep N w (wr.setCell ⟨N + 6, i, none⟩ (.int .i64 (x : Int))) n { s with comp := s.comp.set i x } := by
  obtain ⟨v7, h7, o7⟩ := h.b7
  obtain ⟨v9, h9, o9⟩ := h.b9
  have hsz := h.size
  refine ⟨h.below.setCell (by simp) _, by simpa using hsz, h.lo, h.ll, h.ls, by simpa using h.lc, ?_, ?_, ?_, ?_, ?_, ?_, ?_, ⟨v7, ?_, ownsRow_setCell_below o7 (by simp) _⟩, ?_, ⟨v9, ?_, ownsRow_setCell_below o9 (by simp) _⟩⟩
  · rw [sB _ _ _ _ _ (by omega)]; exact h.b0
  · rw [sB _ _ _ _ _ (by omega)]; exact h.b1
  · rw [sB _ _ _ _ _ (by omega)]; exact h.b2
  · rw [sB _ _ _ _ _ (by omega)]; exact h.b3
  · rw [sB _ _ _ _ _ (by omega)]; exact h.b4
  · rw [sB _ _ _ _ _ (by omega)]; exact h.b5
  · rw [heap_setCell_same _ _ _ _ _ _ h.b6, ints_set]
  · rw [sB _ _ _ _ _ (by omega)]; exact h7
  · rw [sB _ _ _ _ _ (by omega)]; exact h.b8
  · rw [sB _ _ _ _ _ (by omega)]; exact h9

theorem Rep.setMet (h : Rep N w wr n s) (x : Nat) : Rep N w (wr.setCell ⟨N + 8, 0, none⟩ (.int .i64 (x : Int))) n { s with met := x } := by
  obtain ⟨v7, h7, o7⟩ := h.b7
  obtain ⟨v9, h9, o9⟩ := h.b9
  have hsz := h.size
  refine ⟨h.below.setCell (by simp) _, by simpa using hsz, h.lo, h.ll, h.ls, h.lc, ?_, ?_, ?_, ?_, ?_, ?_, ?_, ⟨v7, ?_, ownsRow_setCell_below o7 (by simp) _⟩, ?_, ⟨v9, ?_, ownsRow_setCell_below o9 (by simp) _⟩⟩
  · rw [sB _ _ _ _ _ (by omega)]; exact h.b0
  · rw [sB _ _ _ _ _ (by omega)]; exact h.b1
  · rw [sB _ _ _ _ _ (by omega)]; exact h.b2
  · rw [sB _ _ _ _ _ (by omega)]; exact h.b3
  · rw [sB _ _ _ _ _ (by omega)]; exact h.b4
  · rw [sB _ _ _ _ _ (by omega)]; exact h.b5
  · rw [sB _ _ _ _ _ (by omega)]; exact h.b6
  · rw [sB _ _ _ _ _ (by omega)]; exact h7
  · exact one_setCell h.b8
  · rw [sB _ _ _ _ _ (by omega)]; exact h9

/-- The box of the stack is stored; behind a call's append too (w1: the world behind it). -/
theorem Rep.setStack (h : Rep N w wr n s) {w1 : World} {v v' : Value} (hv : wr.heap[N + 7]? = some (.cells #[v] 25 (0, 0))) (hvb : ∀ k, v.ownBlock = some k → N + 10 ≤ k)
    (hg : wr.grownBy w1 v.ownBlock) (st : List Nat) (ho : w1.ownsRow (N + 10) 3 1 v' st.length (st.reverse.map fun (x : Nat) => Value.int .i64 (x : Int))) : Rep N w (w1.setCell ⟨N + 7, 0, none⟩ v') n { s with stack := st } := by
  obtain ⟨v7, h7, o7⟩ := h.b7
  obtain ⟨v9, h9, o9⟩ := h.b9
  have hsz := h.size
  have hsz1 := hg.size
  have keep : ∀ k, k < N + 10 → w1.heap[k]? = wr.heap[k]? := fun k hk => hg.block k (by omega) (fun e => by have := hvb k e.symm; omega)
  have hv7 : v7 = v := by
    rw [hv] at h7
    simpa using h7.symm
  subst hv7
  have o9' : w1.ownsRow (N + 10) 38 2 v9 s.calls.length (callCells s.calls) := by
    refine o9.kept hg ?_
    cases e9 : v9.ownBlock with
    | none => exact .inl rfl
    | some k =>
      right
      intro e7
      exact absurd (own_type o9 e9) (own_type_ne o7 e7.symm (by decide))
  refine ⟨(h.below.grown hg (by omega) (fun k hk => by have := hvb k hk; omega)).setCell (by simp) _, by simp; omega, h.lo, h.ll, h.ls, h.lc, ?_, ?_, ?_, ?_, ?_, ?_, ?_, ⟨v', ?_, ownsRow_setCell_below ho (by simp) _⟩, ?_, ⟨v9, ?_, ownsRow_setCell_below o9' (by simp) _⟩⟩
  · rw [sB _ _ _ _ _ (by omega), keep _ (by omega)]; exact h.b0
  · rw [sB _ _ _ _ _ (by omega), keep _ (by omega)]; exact h.b1
  · rw [sB _ _ _ _ _ (by omega), keep _ (by omega)]; exact h.b2
  · rw [sB _ _ _ _ _ (by omega), keep _ (by omega)]; exact h.b3
  · rw [sB _ _ _ _ _ (by omega), keep _ (by omega)]; exact h.b4
  · rw [sB _ _ _ _ _ (by omega), keep _ (by omega)]; exact h.b5
  · rw [sB _ _ _ _ _ (by omega), keep _ (by omega)]; exact h.b6
  · exact one_setCell (by rw [keep _ (by omega)]; exact hv)
  · rw [sB _ _ _ _ _ (by omega), keep _ (by omega)]; exact h.b8
  · rw [sB _ _ _ _ _ (by omega), keep _ (by omega)]; exact h9

/-- The box of the calls is stored; behind a call's append too (w1: the world behind it). -/
theorem Rep.setCalls (h : Rep N w wr n s) {w1 : World} {v v' : Value} (hv : wr.heap[N + 9]? = some (.cells #[v] 36 (0, 0))) (hvb : ∀ k, v.ownBlock = some k → N + 10 ≤ k)
    (hg : wr.grownBy w1 v.ownBlock) (st : List (Nat × Nat)) (ho : w1.ownsRow (N + 10) 38 2 v' st.length (callCells st)) : Rep N w (w1.setCell ⟨N + 9, 0, none⟩ v') n { s with calls := st } := by
  obtain ⟨v7, h7, o7⟩ := h.b7
  obtain ⟨v9, h9, o9⟩ := h.b9
  have hsz := h.size
  have hsz1 := hg.size
  have keep : ∀ k, k < N + 10 → w1.heap[k]? = wr.heap[k]? := fun k hk => hg.block k (by omega) (fun e => by have := hvb k e.symm; omega)
  have hv9 : v9 = v := by
    rw [hv] at h9
    simpa using h9.symm
  subst hv9
  have o7' : w1.ownsRow (N + 10) 3 1 v7 s.stack.length (s.stack.reverse.map fun (x : Nat) => Value.int .i64 (x : Int)) := by
    refine o7.kept hg ?_
    cases e7 : v7.ownBlock with
    | none => exact .inl rfl
    | some k =>
      right
      intro e9
      exact absurd (own_type o7 e7) (own_type_ne o9 e9.symm (by decide))
  refine ⟨(h.below.grown hg (by omega) (fun k hk => by have := hvb k hk; omega)).setCell (by simp) _, by simp; omega, h.lo, h.ll, h.ls, h.lc, ?_, ?_, ?_, ?_, ?_, ?_, ?_, ⟨v7, ?_, ownsRow_setCell_below o7' (by simp) _⟩, ?_, ⟨v', ?_, ownsRow_setCell_below ho (by simp) _⟩⟩
  · rw [sB _ _ _ _ _ (by omega), keep _ (by omega)]; exact h.b0
  · rw [sB _ _ _ _ _ (by omega), keep _ (by omega)]; exact h.b1
  · rw [sB _ _ _ _ _ (by omega), keep _ (by omega)]; exact h.b2
  · rw [sB _ _ _ _ _ (by omega), keep _ (by omega)]; exact h.b3
  · rw [sB _ _ _ _ _ (by omega), keep _ (by omega)]; exact h.b4
  · rw [sB _ _ _ _ _ (by omega), keep _ (by omega)]; exact h.b5
  · rw [sB _ _ _ _ _ (by omega), keep _ (by omega)]; exact h.b6
  · rw [sB _ _ _ _ _ (by omega), keep _ (by omega)]; exact h7
  · rw [sB _ _ _ _ _ (by omega), keep _ (by omega)]; exact h.b8
  · exact one_setCell (by rw [keep _ (by omega)]; exact hv)

theorem ints_cell {wr : World} {b : Nat} {l : List Nat} (h : wr.heap[b]? = some (.cells (ints l) 3 (0, 0))) {i : Nat} (hi : i < l.length) : wr.cell? ⟨b, i, none⟩ = some (.int .i64 ((l.getD i 0 : Nat) : Int)) := by
  rw [World.cell?, h]
  simp [ints, hi, List.getD]
theorem bools_cell {wr : World} {b : Nat} {l : List Bool} (h : wr.heap[b]? = some (.cells (bools l) 4 (0, 0))) {i : Nat} (hi : i < l.length) : wr.cell? ⟨b, i, none⟩ = some (.bool (l.getD i false)) := by
  rw [World.cell?, h]
  simp [bools, hi, List.getD]
end
end Go.Proofs.Qxb6600314a
