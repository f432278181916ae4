/-
  No cell of these rows narrows 'for every input' (looked for: loops, veiled, ifaces, maps, wideKeys, modest, calm, conditions, laid).
  DERIVED. THE GIVEN ROWS OF THIS SEAT. 1 by the template 'for every input the law returns true; each argument reads behind the call as it read before'; 0 by the template 'total and deterministic' (their statements: Qxb6600348aTotals.lean).
  GIVEN WITH THE SEED: the statements are not yours to turn. If you find one false, say at which input.
  Laid BY PROGRAM, IN A SANDBOX (cutbox-rows.mjs): the forced cells as the released guide's own fill.sh prints them over the translation e7bab8328c494675… (all of the seat's roots in one cut). By AI agents, Wed Nov 11 2026. No macro, syntax, notation, axiom, sorry.
-/
import Derived.Test.Qxb6600348aChecked
import GoSem.Claim
import GoSem.ClaimJoined
import GoSem.ClaimMapViews
import Derived.JoinedTies
import Derived.KernelRfl
namespace Go.Proofs.Qxb6600348a
/- THE CELL 'sum', in the pinned program and in every row, IS THE sha256 OF THE DUMP (.gsa) THAT Qxb6600348aProg.lean LOADS. Nothing in Lean hashes anything: it is a label: what it is worth is what the hold of that sum in a sandbox is worth. -/
noncomputable def Try.pinned : Pinned := { name := "qxb6600348a", sum := "e7bab8328c4946759b8faef5c965f691110d0914d243bf60a75e60aec9d0bdaf", checked := Try.checked }
namespace Rows
def none {H : Type} : Left H := { results := [], args := [] }

/-- 'zzlaws_workload_bank_b1.FnScanDigitsMatchesRightToLeftModel': WHATEVER THE INPUT: true; the input reads as it did. -/
def fnScanDigitsMatchesRightToLeftModelSpec : ChangeSpec := { name := "fnScanDigitsMatchesRightToLeftModel", fn := fun _ => fun
  | [d1, d2] => { results := [.lit (.bool true)], args := [d1, d2] }
  | _ => none }
def fnScanDigitsMatchesRightToLeftModelRow : OpenClaim := { program := "qxb6600348a", sum := "e7bab8328c4946759b8faef5c965f691110d0914d243bf60a75e60aec9d0bdaf", func := "example.com/presage/presage/zzlaws_workload_bank_b1.FnScanDigitsMatchesRightToLeftModel", spec := "fnScanDigitsMatchesRightToLeftModel", apart := false }
def FnScanDigitsMatchesRightToLeftModelSaid : Prop := fnScanDigitsMatchesRightToLeftModelRow.holds Try.pinned (OpenSpec.ofChange fnScanDigitsMatchesRightToLeftModelSpec)

/-- ITS FALSE NEIGHBOUR: 'it returns false'. Refute it at one input. -/
def fnScanDigitsMatchesRightToLeftModelWrong : ChangeSpec := { name := "fnScanDigitsMatchesRightToLeftModel", fn := fun _ => fun
  | [d1, d2] => { results := [.lit (.bool false)], args := [d1, d2] }
  | _ => none }
def FnScanDigitsMatchesRightToLeftModelWrongFalsely : Prop := fnScanDigitsMatchesRightToLeftModelRow.holds Try.pinned (OpenSpec.ofChange fnScanDigitsMatchesRightToLeftModelWrong)

end Rows
end Go.Proofs.Qxb6600348a
