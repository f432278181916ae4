/-
  Plain functions that mirror 'components' (Tarjan's algorithm with a stack of its own), round for round. No Go in sight.
-/
namespace Go.Proofs.Qxb6600314a

/-- The state of 'components'. Stacks are written top first. -/
structure TS where
  order : List Nat
  low : List Nat
  onS : List Bool
  comp : List Nat
  stack : List Nat
  met : Nat
  found : Nat
  calls : List (Nat × Nat)

/-- Row i of a graph. -/
def rowN (g : List (List Nat)) (i : Nat) : List Nat := g.getD i []

def meetS (s : TS) (a : Nat) : TS :=
  { s with met := s.met + 1, order := s.order.set a (s.met + 1), low := s.low.set a (s.met + 1), stack := a :: s.stack, onS := s.onS.set a true, calls := (a, 0) :: s.calls }

/-- The loop that takes a component off the stack. -/
def popTo (a c n : Nat) : List Nat → List Bool → List Nat → Option (List Nat × List Bool × List Nat)
  | [], _, _ => none
  | x :: r, o, k => if x < n then (if x = a then some (r, o.set x false, k.set x c) else popTo a c n r (o.set x false) (k.set x c)) else none

def fits (s : TS) (a n : Nat) : Prop := a < n ∧ s.met < 1048576 ∧ s.stack.length < 1048576 ∧ s.calls.length < 1048576

/-- The low row behind a call's end: the caller takes the callee's. -/
def lowOf (s : TS) (a : Nat) : List (Nat × Nat) → List Nat
  | [] => s.low
  | (b, _) :: _ => s.low.set b (min (s.low.getD b 0) (s.low.getD a 0))

def callerOk (n : Nat) : List (Nat × Nat) → Prop
  | [] => True
  | (b, _) :: _ => b < n

def adv (s : TS) (a nx : Nat) (cs : List (Nat × Nat)) : TS := { s with calls := (a, nx + 1) :: cs }

/-- Step g s s': from s one round of the inner loop comes to s'. -/
def Step (g : List (List Nat)) (s s' : TS) : Prop :=
  ∃ a nx cs, s.calls = (a, nx) :: cs ∧ a < g.length ∧ nx ≤ 1048576 ∧ cs.length < 1048576 ∧
    ((nx < (rowN g a).length ∧ (rowN g a).getD nx 0 < g.length ∧
        ((s.order.getD ((rowN g a).getD nx 0) 0 = 0 ∧ fits s ((rowN g a).getD nx 0) g.length ∧ s' = meetS (adv s a nx cs) ((rowN g a).getD nx 0)) ∨
         (s.order.getD ((rowN g a).getD nx 0) 0 ≠ 0 ∧ s.onS.getD ((rowN g a).getD nx 0) false = true ∧
            s' = { adv s a nx cs with low := s.low.set a (min (s.low.getD a 0) (s.order.getD ((rowN g a).getD nx 0) 0)) }) ∨
         (s.order.getD ((rowN g a).getD nx 0) 0 ≠ 0 ∧ s.onS.getD ((rowN g a).getD nx 0) false = false ∧ s' = adv s a nx cs))) ∨
     ((rowN g a).length ≤ nx ∧ callerOk g.length cs ∧
        (((lowOf s a cs).getD a 0 ≠ s.order.getD a 0 ∧ s' = { s with calls := cs, low := lowOf s a cs }) ∨
         ((lowOf s a cs).getD a 0 = s.order.getD a 0 ∧ s.found < 1048576 ∧ ∃ st o k, popTo a s.found g.length s.stack s.onS s.comp = some (st, o, k) ∧
            s' = { s with calls := cs, low := lowOf s a cs, stack := st, onS := o, comp := k, found := s.found + 1 }))))

/-- Inner k s s': from s the inner loop comes to its end in s', in k rounds. -/
def Inner (g : List (List Nat)) : Nat → TS → TS → Prop
  | 0, s, s' => s.calls = [] ∧ s' = s
  | k + 1, s, s' => ∃ m, Step g s m ∧ Inner g k m s'

/-- Outer r s s': the outer loop from root r on, in state s, ends in s'. j: how many roots are to come. -/
def Outer (g : List (List Nat)) : Nat → Nat → TS → TS → Prop
  | 0, _, s, s' => s' = s
  | j + 1, r, s, s' =>
    (s.order.getD r 0 ≠ 0 ∧ Outer g j (r + 1) s s') ∨
    (s.order.getD r 0 = 0 ∧ fits s r g.length ∧ ∃ k m, Inner g k (meetS s r) m ∧ Outer g j (r + 1) m s')

def startS (n : Nat) : TS :=
  { order := List.replicate n 0, low := List.replicate n 0, onS := List.replicate n false, comp := List.replicate n 0, stack := [], met := 0, found := 0, calls := [] }

end Go.Proofs.Qxb6600314a
