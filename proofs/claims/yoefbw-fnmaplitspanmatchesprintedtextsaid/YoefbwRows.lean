/-
  No cell of these rows narrows 'for every input' (looked for: loops, veiled, ifaces, maps, wideKeys, modest, calm, conditions, laid).
  DERIVED. THE GIVEN ROWS OF THIS SEAT. 3 by the template 'for every input the law returns true; each argument reads behind the call as it read before'; 0 by the template 'total and deterministic' (their statements: YoefbwTotals.lean).
  GIVEN WITH THE SEED: the statements are not yours to turn. If you find one false, say at which input.
  Laid BY PROGRAM, IN A SANDBOX (cutbox-rows.mjs): the forced cells as the released guide's own fill.sh prints them over the translation 22e9c129baf4ce5a… (all of the seat's roots in one cut). By AI agents, Wed Nov 11 2026. No macro, syntax, notation, axiom, sorry.
-/
import Derived.Test.YoefbwChecked
import GoSem.Claim
import GoSem.ClaimJoined
import GoSem.ClaimMapViews
import Derived.JoinedTies
import Derived.KernelRfl
namespace Go.Proofs.Yoefbw
/- THE CELL 'sum', in the pinned program and in every row, IS THE sha256 OF THE DUMP (.gsa) THAT YoefbwProg.lean LOADS. Nothing in Lean hashes anything: it is a label: what it is worth is what the hold of that sum in a sandbox is worth. -/
noncomputable def Efbg.pinned : Pinned := { name := "yoefbw", sum := "22e9c129baf4ce5a8c2067e13a1169d9d6a36d82e83eb35ee7b210cbb6d0ceeb", checked := Efbg.checked }
namespace Rows
def none {H : Type} : Left H := { results := [], args := [] }

/-- 'zzlaws_parser_b19.FnMapLitStringModel': WHATEVER THE INPUT: true; the input reads as it did. -/
def fnMapLitStringModelSpec : ChangeSpec := { name := "fnMapLitStringModel", fn := fun _ => fun
  | [d1, d2] => { results := [.lit (.bool true)], args := [d1, d2] }
  | _ => none }
def fnMapLitStringModelRow : OpenClaim := { program := "yoefbw", sum := "22e9c129baf4ce5a8c2067e13a1169d9d6a36d82e83eb35ee7b210cbb6d0ceeb", func := "github.com/d5/tengo/v2/zzlaws_parser_b19.FnMapLitStringModel", spec := "fnMapLitStringModel", inPlace := ["internal/abi.NoEscape", "internal/bytealg.MakeNoZero"], unfollowed := true, recurses := true, apart := false }
def FnMapLitStringModelSaid : Prop := fnMapLitStringModelRow.holds Efbg.pinned (OpenSpec.ofChange fnMapLitStringModelSpec)

/-- ITS FALSE NEIGHBOUR: 'it returns false'. Refute it at one input. -/
def fnMapLitStringModelWrong : ChangeSpec := { name := "fnMapLitStringModel", fn := fun _ => fun
  | [d1, d2] => { results := [.lit (.bool false)], args := [d1, d2] }
  | _ => none }
def FnMapLitStringModelWrongFalsely : Prop := fnMapLitStringModelRow.holds Efbg.pinned (OpenSpec.ofChange fnMapLitStringModelWrong)

/-- 'zzlaws_parser_b19.FnMapLitStringAgreesWithArrayLit': WHATEVER THE INPUT: true; the input reads as it did. -/
def fnMapLitStringAgreesWithArrayLitSpec : ChangeSpec := { name := "fnMapLitStringAgreesWithArrayLit", fn := fun _ => fun
  | [d1, d2] => { results := [.lit (.bool true)], args := [d1, d2] }
  | _ => none }
def fnMapLitStringAgreesWithArrayLitRow : OpenClaim := { program := "yoefbw", sum := "22e9c129baf4ce5a8c2067e13a1169d9d6a36d82e83eb35ee7b210cbb6d0ceeb", func := "github.com/d5/tengo/v2/zzlaws_parser_b19.FnMapLitStringAgreesWithArrayLit", spec := "fnMapLitStringAgreesWithArrayLit", inPlace := ["internal/abi.NoEscape", "internal/bytealg.MakeNoZero"], unfollowed := true, recurses := true, apart := false }
def FnMapLitStringAgreesWithArrayLitSaid : Prop := fnMapLitStringAgreesWithArrayLitRow.holds Efbg.pinned (OpenSpec.ofChange fnMapLitStringAgreesWithArrayLitSpec)

/-- ITS FALSE NEIGHBOUR: 'it returns false'. Refute it at one input. -/
def fnMapLitStringAgreesWithArrayLitWrong : ChangeSpec := { name := "fnMapLitStringAgreesWithArrayLit", fn := fun _ => fun
  | [d1, d2] => { results := [.lit (.bool false)], args := [d1, d2] }
  | _ => none }
def FnMapLitStringAgreesWithArrayLitWrongFalsely : Prop := fnMapLitStringAgreesWithArrayLitRow.holds Efbg.pinned (OpenSpec.ofChange fnMapLitStringAgreesWithArrayLitWrong)

/-- 'zzlaws_parser_b19.FnMapLitSpanMatchesPrintedText': WHATEVER THE INPUT: true; the input reads as it did. -/
def fnMapLitSpanMatchesPrintedTextSpec : ChangeSpec := { name := "fnMapLitSpanMatchesPrintedText", fn := fun _ => fun
  | [d1, d2, d3] => { results := [.lit (.bool true)], args := [d1, d2, d3] }
  | _ => none }
def fnMapLitSpanMatchesPrintedTextRow : OpenClaim := { program := "yoefbw", sum := "22e9c129baf4ce5a8c2067e13a1169d9d6a36d82e83eb35ee7b210cbb6d0ceeb", func := "github.com/d5/tengo/v2/zzlaws_parser_b19.FnMapLitSpanMatchesPrintedText", spec := "fnMapLitSpanMatchesPrintedText", inPlace := ["internal/abi.NoEscape", "internal/bytealg.MakeNoZero"], unfollowed := true, recurses := true, apart := false }
def FnMapLitSpanMatchesPrintedTextSaid : Prop := fnMapLitSpanMatchesPrintedTextRow.holds Efbg.pinned (OpenSpec.ofChange fnMapLitSpanMatchesPrintedTextSpec)

/-- ITS FALSE NEIGHBOUR: 'it returns false'. Refute it at one input. -/
def fnMapLitSpanMatchesPrintedTextWrong : ChangeSpec := { name := "fnMapLitSpanMatchesPrintedText", fn := fun _ => fun
  | [d1, d2, d3] => { results := [.lit (.bool false)], args := [d1, d2, d3] }
  | _ => none }
def FnMapLitSpanMatchesPrintedTextWrongFalsely : Prop := fnMapLitSpanMatchesPrintedTextRow.holds Efbg.pinned (OpenSpec.ofChange fnMapLitSpanMatchesPrintedTextWrong)

end Rows
end Go.Proofs.Yoefbw
