/-
  No cell of these rows narrows 'for every input' (looked for: loops, veiled, ifaces, maps, wideKeys, modest, calm, conditions, laid).
  DERIVED. THE GIVEN ROWS OF THIS SEAT. 5 by the template 'for every input the law returns true; each argument reads behind the call as it read before'; 0 by the template 'total and deterministic' (their statements: Qxb6000049aTotals.lean).
  GIVEN WITH THE SEED: the statements are not yours to turn. If you find one false, say at which input.
  Laid BY PROGRAM, IN A SANDBOX (cutbox-rows.mjs): the forced cells as the released guide's own fill.sh prints them over the translation 2046267673ad5c48… (all of the seat's roots in one cut). By AI agents, Wed Nov 11 2026. No macro, syntax, notation, axiom, sorry.
-/
import Derived.Test.Qxb6000049aChecked
import GoSem.Claim
import GoSem.ClaimJoined
import GoSem.ClaimMapViews
import Derived.JoinedTies
import Derived.KernelRfl
namespace Go.Proofs.Qxb6000049a
/- THE CELL 'sum', in the pinned program and in every row, IS THE sha256 OF THE DUMP (.gsa) THAT Qxb6000049aProg.lean LOADS. Nothing in Lean hashes anything: it is a label: what it is worth is what the hold of that sum in a sandbox is worth. -/
noncomputable def Try.pinned : Pinned := { name := "qxb6000049a", sum := "2046267673ad5c4804af6bedcbff4759e846a38917089040e267c7d7cb0fff07", checked := Try.checked }
namespace Rows
def none {H : Type} : Left H := { results := [], args := [] }

/-- 'zzlaws_internal_jsonvalue_b1.FnHex4MatchesHexDigitModel': WHATEVER THE INPUT: true; the input reads as it did. -/
def fnHex4MatchesHexDigitModelSpec : ChangeSpec := { name := "fnHex4MatchesHexDigitModel", fn := fun _ => fun
  | [d] => { results := [.lit (.bool true)], args := [d] }
  | _ => none }
def fnHex4MatchesHexDigitModelRow : OpenClaim := { program := "qxb6000049a", sum := "2046267673ad5c4804af6bedcbff4759e846a38917089040e267c7d7cb0fff07", func := "example.com/osprey/osprey/zzlaws_internal_jsonvalue_b1.FnHex4MatchesHexDigitModel", spec := "fnHex4MatchesHexDigitModel", apart := false }
def FnHex4MatchesHexDigitModelSaid : Prop := fnHex4MatchesHexDigitModelRow.holds Try.pinned (OpenSpec.ofChange fnHex4MatchesHexDigitModelSpec)

/-- ITS FALSE NEIGHBOUR: 'it returns false'. Refute it at one input. -/
def fnHex4MatchesHexDigitModelWrong : ChangeSpec := { name := "fnHex4MatchesHexDigitModel", fn := fun _ => fun
  | [d] => { results := [.lit (.bool false)], args := [d] }
  | _ => none }
def FnHex4MatchesHexDigitModelWrongFalsely : Prop := fnHex4MatchesHexDigitModelRow.holds Try.pinned (OpenSpec.ofChange fnHex4MatchesHexDigitModelWrong)

/-- 'zzlaws_internal_jsonvalue_b1.FnHex4ReadsEveryFormatting': WHATEVER THE INPUT: true; the input reads as it did. -/
def fnHex4ReadsEveryFormattingSpec : ChangeSpec := { name := "fnHex4ReadsEveryFormatting", fn := fun _ => fun
  | [d1, d2] => { results := [.lit (.bool true)], args := [d1, d2] }
  | _ => none }
def fnHex4ReadsEveryFormattingRow : OpenClaim := { program := "qxb6000049a", sum := "2046267673ad5c4804af6bedcbff4759e846a38917089040e267c7d7cb0fff07", func := "example.com/osprey/osprey/zzlaws_internal_jsonvalue_b1.FnHex4ReadsEveryFormatting", spec := "fnHex4ReadsEveryFormatting", apart := false }
def FnHex4ReadsEveryFormattingSaid : Prop := fnHex4ReadsEveryFormattingRow.holds Try.pinned (OpenSpec.ofChange fnHex4ReadsEveryFormattingSpec)

/-- ITS FALSE NEIGHBOUR: 'it returns false'. Refute it at one input. -/
def fnHex4ReadsEveryFormattingWrong : ChangeSpec := { name := "fnHex4ReadsEveryFormatting", fn := fun _ => fun
  | [d1, d2] => { results := [.lit (.bool false)], args := [d1, d2] }
  | _ => none }
def FnHex4ReadsEveryFormattingWrongFalsely : Prop := fnHex4ReadsEveryFormattingRow.holds Try.pinned (OpenSpec.ofChange fnHex4ReadsEveryFormattingWrong)

/-- 'zzlaws_internal_jsonvalue_b1.FnAppendEscapeMatchesJSONEscape': WHATEVER THE INPUT: true; the input reads as it did. -/
def fnAppendEscapeMatchesJSONEscapeSpec : ChangeSpec := { name := "fnAppendEscapeMatchesJSONEscape", fn := fun _ => fun
  | [d1, d2] => { results := [.lit (.bool true)], args := [d1, d2] }
  | _ => none }
def fnAppendEscapeMatchesJSONEscapeRow : OpenClaim := { program := "qxb6000049a", sum := "2046267673ad5c4804af6bedcbff4759e846a38917089040e267c7d7cb0fff07", func := "example.com/osprey/osprey/zzlaws_internal_jsonvalue_b1.FnAppendEscapeMatchesJSONEscape", spec := "fnAppendEscapeMatchesJSONEscape", apart := false }
def FnAppendEscapeMatchesJSONEscapeSaid : Prop := fnAppendEscapeMatchesJSONEscapeRow.holds Try.pinned (OpenSpec.ofChange fnAppendEscapeMatchesJSONEscapeSpec)

/-- ITS FALSE NEIGHBOUR: 'it returns false'. Refute it at one input. -/
def fnAppendEscapeMatchesJSONEscapeWrong : ChangeSpec := { name := "fnAppendEscapeMatchesJSONEscape", fn := fun _ => fun
  | [d1, d2] => { results := [.lit (.bool false)], args := [d1, d2] }
  | _ => none }
def FnAppendEscapeMatchesJSONEscapeWrongFalsely : Prop := fnAppendEscapeMatchesJSONEscapeRow.holds Try.pinned (OpenSpec.ofChange fnAppendEscapeMatchesJSONEscapeWrong)

/-- 'zzlaws_internal_jsonvalue_b1.FnAppendEscapeInjective': WHATEVER THE INPUT: true; the input reads as it did. -/
def fnAppendEscapeInjectiveSpec : ChangeSpec := { name := "fnAppendEscapeInjective", fn := fun _ => fun
  | [d1, d2] => { results := [.lit (.bool true)], args := [d1, d2] }
  | _ => none }
def fnAppendEscapeInjectiveRow : OpenClaim := { program := "qxb6000049a", sum := "2046267673ad5c4804af6bedcbff4759e846a38917089040e267c7d7cb0fff07", func := "example.com/osprey/osprey/zzlaws_internal_jsonvalue_b1.FnAppendEscapeInjective", spec := "fnAppendEscapeInjective", apart := false }
def FnAppendEscapeInjectiveSaid : Prop := fnAppendEscapeInjectiveRow.holds Try.pinned (OpenSpec.ofChange fnAppendEscapeInjectiveSpec)

/-- ITS FALSE NEIGHBOUR: 'it returns false'. Refute it at one input. -/
def fnAppendEscapeInjectiveWrong : ChangeSpec := { name := "fnAppendEscapeInjective", fn := fun _ => fun
  | [d1, d2] => { results := [.lit (.bool false)], args := [d1, d2] }
  | _ => none }
def FnAppendEscapeInjectiveWrongFalsely : Prop := fnAppendEscapeInjectiveRow.holds Try.pinned (OpenSpec.ofChange fnAppendEscapeInjectiveWrong)

/-- 'zzlaws_internal_jsonvalue_b1.FnAppendEscapeIsPrintableEscape': WHATEVER THE INPUT: true; the input reads as it did. -/
def fnAppendEscapeIsPrintableEscapeSpec : ChangeSpec := { name := "fnAppendEscapeIsPrintableEscape", fn := fun _ => fun
  | [d] => { results := [.lit (.bool true)], args := [d] }
  | _ => none }
def fnAppendEscapeIsPrintableEscapeRow : OpenClaim := { program := "qxb6000049a", sum := "2046267673ad5c4804af6bedcbff4759e846a38917089040e267c7d7cb0fff07", func := "example.com/osprey/osprey/zzlaws_internal_jsonvalue_b1.FnAppendEscapeIsPrintableEscape", spec := "fnAppendEscapeIsPrintableEscape", apart := false }
def FnAppendEscapeIsPrintableEscapeSaid : Prop := fnAppendEscapeIsPrintableEscapeRow.holds Try.pinned (OpenSpec.ofChange fnAppendEscapeIsPrintableEscapeSpec)

/-- ITS FALSE NEIGHBOUR: 'it returns false'. Refute it at one input. -/
def fnAppendEscapeIsPrintableEscapeWrong : ChangeSpec := { name := "fnAppendEscapeIsPrintableEscape", fn := fun _ => fun
  | [d] => { results := [.lit (.bool false)], args := [d] }
  | _ => none }
def FnAppendEscapeIsPrintableEscapeWrongFalsely : Prop := fnAppendEscapeIsPrintableEscapeRow.holds Try.pinned (OpenSpec.ofChange fnAppendEscapeIsPrintableEscapeWrong)

end Rows
end Go.Proofs.Qxb6000049a
