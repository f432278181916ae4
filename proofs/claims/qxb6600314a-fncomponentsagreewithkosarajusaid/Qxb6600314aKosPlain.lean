import Derived.Test.Qxb6600314aTransPlain
/-
  Plain relations that mirror 'kosaraju', round for round. No Go in sight.
-/
namespace Go.Proofs.Qxb6600314a

/-- The state of the first pass. Lists are written last first. -/
structure KS where
  seen : List Bool
  done : List Nat
  calls : List (Nat × Nat)

def KStep (g : List (List Nat)) (s s' : KS) : Prop :=
  ∃ a nx cs, s.calls = (a, nx) :: cs ∧ a < g.length ∧ cs.length < g.length ∧
    ((nx < (rowN g a).length ∧ (rowN g a).getD nx 0 < g.length ∧
        ((s.seen.getD ((rowN g a).getD nx 0) false = false ∧ cs.length + 2 ≤ g.length ∧ s' = { s with seen := s.seen.set ((rowN g a).getD nx 0) true, calls := ((rowN g a).getD nx 0, 0) :: (a, nx + 1) :: cs }) ∨
         (s.seen.getD ((rowN g a).getD nx 0) false = true ∧ s' = { s with calls := (a, nx + 1) :: cs }))) ∨
     ((rowN g a).length ≤ nx ∧ nx ≤ 1048576 ∧ s.done.length < g.length ∧ s' = { s with calls := cs, done := a :: s.done }))

def KInner (g : List (List Nat)) : Nat → KS → KS → Prop
  | 0, s, s' => s.calls = [] ∧ s' = s
  | k + 1, s, s' => ∃ m, KStep g s m ∧ KInner g k m s'

def KOuter (g : List (List Nat)) : Nat → Nat → KS → KS → Prop
  | 0, _, s, s' => s.calls = [] ∧ s' = s
  | j + 1, r, s, s' => s.calls = [] ∧
    ((s.seen.getD r false = true ∧ KOuter g j (r + 1) s s') ∨
     (s.seen.getD r false = false ∧ ∃ k m, KInner g k { s with seen := s.seen.set r true, calls := [(r, 0)] } m ∧ KOuter g j (r + 1) m s'))

def kstart (n : Nat) : KS := { seen := List.replicate n false, done := [], calls := [] }

/-- The second pass: one position of the reversed graph is looked at. -/
def scanStep (c : Nat) (lp : List Int × List Nat) (u : Nat) : List Int × List Nat := if lp.1.getD u 0 < 0 then (lp.1.set u (c : Int), u :: lp.2) else lp
def scanRun (I : List Nat) (c : Nat) : Nat → Nat → List Int × List Nat → List Int × List Nat
  | 0, _, lp => lp
  | j + 1, k, lp => scanRun I c j (k + 1) (scanStep c lp (I.getD k 0))

def Sweep (S I : List Nat) (c n : Nat) : Nat → List Int × List Nat → List Int → Prop
  | 0, lp, l' => lp.2 = [] ∧ l' = lp.1
  | k + 1, lp, l' => ∃ v r, lp.2 = v :: r ∧ v < n ∧ lp.2.length ≤ 65536 ∧ Sweep S I c n k (scanRun I c (S.getD (v + 1) 0 - S.getD v 0) (S.getD v 0) (lp.1, r)) l'

def Roots (S I : List Nat) (n : Nat) : List Nat → List Int → Nat → List Int → Nat → Prop
  | [], l, c, l', c' => l' = l ∧ c' = c
  | s :: rest, l, c, l', c' => s < n ∧ c < 65536 ∧
    ((0 ≤ l.getD s 0 ∧ Roots S I n rest l c l' c') ∨
     (l.getD s 0 < 0 ∧ ∃ k m, Sweep S I c n k (l.set s (c : Int), [s]) m ∧ Roots S I n rest m (c + 1) l' c'))
end Go.Proofs.Qxb6600314a
