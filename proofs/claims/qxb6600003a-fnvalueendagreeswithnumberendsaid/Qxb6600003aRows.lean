/-
  No cell of these rows narrows 'for every input' (looked for: loops, veiled, ifaces, maps, wideKeys, modest, calm, conditions, laid).
  DERIVED. THE GIVEN ROWS OF THIS SEAT. 9 by the template 'for every input the law returns true; each argument reads behind the call as it read before'; 0 by the template 'total and deterministic' (their statements: Qxb6600003aTotals.lean).
  GIVEN WITH THE SEED: the statements are not yours to turn. If you find one false, say at which input.
  Laid BY PROGRAM, IN A SANDBOX (cutbox-rows.mjs): the forced cells as the released guide's own fill.sh prints them over the translation 2e4434764c10f7f5… (all of the seat's roots in one cut). By AI agents, Wed Nov 11 2026. No macro, syntax, notation, axiom, sorry.
-/
import Derived.Test.Qxb6600003aChecked
import GoSem.Claim
import GoSem.ClaimJoined
import GoSem.ClaimMapViews
import Derived.JoinedTies
import Derived.KernelRfl
namespace Go.Proofs.Qxb6600003a
/- THE CELL 'sum', in the pinned program and in every row, IS THE sha256 OF THE DUMP (.gsa) THAT Qxb6600003aProg.lean LOADS. Nothing in Lean hashes anything: it is a label: what it is worth is what the hold of that sum in a sandbox is worth. -/
noncomputable def Try.pinned : Pinned := { name := "qxb6600003a", sum := "2e4434764c10f7f521f932b99db8c559d904f8ce01da301c35f5ee8b52c40756", checked := Try.checked }
namespace Rows
def none {H : Type} : Left H := { results := [], args := [] }

/-- 'zzlaws_jsonread_b1.FnStringEndAcceptsEscapedText': WHATEVER THE INPUT: true; the input reads as it did. -/
def fnStringEndAcceptsEscapedTextSpec : ChangeSpec := { name := "fnStringEndAcceptsEscapedText", fn := fun _ => fun
  | [d1, d2, d3, d4] => { results := [.lit (.bool true)], args := [d1, d2, d3, d4] }
  | _ => none }
def fnStringEndAcceptsEscapedTextRow : OpenClaim := { program := "qxb6600003a", sum := "2e4434764c10f7f521f932b99db8c559d904f8ce01da301c35f5ee8b52c40756", func := "example.com/okraj/okraj/zzlaws_jsonread_b1.FnStringEndAcceptsEscapedText", spec := "fnStringEndAcceptsEscapedText", inPlace := ["internal/bytealg.IndexByte"], apart := false }
def FnStringEndAcceptsEscapedTextSaid : Prop := fnStringEndAcceptsEscapedTextRow.holds Try.pinned (OpenSpec.ofChange fnStringEndAcceptsEscapedTextSpec)

/-- ITS FALSE NEIGHBOUR: 'it returns false'. Refute it at one input. -/
def fnStringEndAcceptsEscapedTextWrong : ChangeSpec := { name := "fnStringEndAcceptsEscapedText", fn := fun _ => fun
  | [d1, d2, d3, d4] => { results := [.lit (.bool false)], args := [d1, d2, d3, d4] }
  | _ => none }
def FnStringEndAcceptsEscapedTextWrongFalsely : Prop := fnStringEndAcceptsEscapedTextRow.holds Try.pinned (OpenSpec.ofChange fnStringEndAcceptsEscapedTextWrong)

/-- 'zzlaws_jsonread_b1.FnStringEndAcceptedShape': WHATEVER THE INPUT: true; the input reads as it did. -/
def fnStringEndAcceptedShapeSpec : ChangeSpec := { name := "fnStringEndAcceptedShape", fn := fun _ => fun
  | [d1, d2] => { results := [.lit (.bool true)], args := [d1, d2] }
  | _ => none }
def fnStringEndAcceptedShapeRow : OpenClaim := { program := "qxb6600003a", sum := "2e4434764c10f7f521f932b99db8c559d904f8ce01da301c35f5ee8b52c40756", func := "example.com/okraj/okraj/zzlaws_jsonread_b1.FnStringEndAcceptedShape", spec := "fnStringEndAcceptedShape", apart := false }
def FnStringEndAcceptedShapeSaid : Prop := fnStringEndAcceptedShapeRow.holds Try.pinned (OpenSpec.ofChange fnStringEndAcceptedShapeSpec)

/-- ITS FALSE NEIGHBOUR: 'it returns false'. Refute it at one input. -/
def fnStringEndAcceptedShapeWrong : ChangeSpec := { name := "fnStringEndAcceptedShape", fn := fun _ => fun
  | [d1, d2] => { results := [.lit (.bool false)], args := [d1, d2] }
  | _ => none }
def FnStringEndAcceptedShapeWrongFalsely : Prop := fnStringEndAcceptedShapeRow.holds Try.pinned (OpenSpec.ofChange fnStringEndAcceptedShapeWrong)

/-- 'zzlaws_jsonread_b1.FnStringEndRefusesBadByte': WHATEVER THE INPUT: true; the input reads as it did. -/
def fnStringEndRefusesBadByteSpec : ChangeSpec := { name := "fnStringEndRefusesBadByte", fn := fun _ => fun
  | [d1, d2, d3, d4, d5] => { results := [.lit (.bool true)], args := [d1, d2, d3, d4, d5] }
  | _ => none }
def fnStringEndRefusesBadByteRow : OpenClaim := { program := "qxb6600003a", sum := "2e4434764c10f7f521f932b99db8c559d904f8ce01da301c35f5ee8b52c40756", func := "example.com/okraj/okraj/zzlaws_jsonread_b1.FnStringEndRefusesBadByte", spec := "fnStringEndRefusesBadByte", apart := false }
def FnStringEndRefusesBadByteSaid : Prop := fnStringEndRefusesBadByteRow.holds Try.pinned (OpenSpec.ofChange fnStringEndRefusesBadByteSpec)

/-- ITS FALSE NEIGHBOUR: 'it returns false'. Refute it at one input. -/
def fnStringEndRefusesBadByteWrong : ChangeSpec := { name := "fnStringEndRefusesBadByte", fn := fun _ => fun
  | [d1, d2, d3, d4, d5] => { results := [.lit (.bool false)], args := [d1, d2, d3, d4, d5] }
  | _ => none }
def FnStringEndRefusesBadByteWrongFalsely : Prop := fnStringEndRefusesBadByteRow.holds Try.pinned (OpenSpec.ofChange fnStringEndRefusesBadByteWrong)

/-- 'zzlaws_jsonread_b1.FnNumberEndAcceptsBuiltNumber': WHATEVER THE INPUT: true; the input reads as it did. -/
def fnNumberEndAcceptsBuiltNumberSpec : ChangeSpec := { name := "fnNumberEndAcceptsBuiltNumber", fn := fun _ => fun
  | [d1, d2, d3, d4, d5, d6, d7, d8, d9] => { results := [.lit (.bool true)], args := [d1, d2, d3, d4, d5, d6, d7, d8, d9] }
  | _ => none }
def fnNumberEndAcceptsBuiltNumberRow : OpenClaim := { program := "qxb6600003a", sum := "2e4434764c10f7f521f932b99db8c559d904f8ce01da301c35f5ee8b52c40756", func := "example.com/okraj/okraj/zzlaws_jsonread_b1.FnNumberEndAcceptsBuiltNumber", spec := "fnNumberEndAcceptsBuiltNumber", apart := false }
def FnNumberEndAcceptsBuiltNumberSaid : Prop := fnNumberEndAcceptsBuiltNumberRow.holds Try.pinned (OpenSpec.ofChange fnNumberEndAcceptsBuiltNumberSpec)

/-- ITS FALSE NEIGHBOUR: 'it returns false'. Refute it at one input. -/
def fnNumberEndAcceptsBuiltNumberWrong : ChangeSpec := { name := "fnNumberEndAcceptsBuiltNumber", fn := fun _ => fun
  | [d1, d2, d3, d4, d5, d6, d7, d8, d9] => { results := [.lit (.bool false)], args := [d1, d2, d3, d4, d5, d6, d7, d8, d9] }
  | _ => none }
def FnNumberEndAcceptsBuiltNumberWrongFalsely : Prop := fnNumberEndAcceptsBuiltNumberRow.holds Try.pinned (OpenSpec.ofChange fnNumberEndAcceptsBuiltNumberWrong)

/-- 'zzlaws_jsonread_b1.FnNumberEndAcceptedShape': WHATEVER THE INPUT: true; the input reads as it did. -/
def fnNumberEndAcceptedShapeSpec : ChangeSpec := { name := "fnNumberEndAcceptedShape", fn := fun _ => fun
  | [d1, d2] => { results := [.lit (.bool true)], args := [d1, d2] }
  | _ => none }
def fnNumberEndAcceptedShapeRow : OpenClaim := { program := "qxb6600003a", sum := "2e4434764c10f7f521f932b99db8c559d904f8ce01da301c35f5ee8b52c40756", func := "example.com/okraj/okraj/zzlaws_jsonread_b1.FnNumberEndAcceptedShape", spec := "fnNumberEndAcceptedShape", apart := false }
def FnNumberEndAcceptedShapeSaid : Prop := fnNumberEndAcceptedShapeRow.holds Try.pinned (OpenSpec.ofChange fnNumberEndAcceptedShapeSpec)

/-- ITS FALSE NEIGHBOUR: 'it returns false'. Refute it at one input. -/
def fnNumberEndAcceptedShapeWrong : ChangeSpec := { name := "fnNumberEndAcceptedShape", fn := fun _ => fun
  | [d1, d2] => { results := [.lit (.bool false)], args := [d1, d2] }
  | _ => none }
def FnNumberEndAcceptedShapeWrongFalsely : Prop := fnNumberEndAcceptedShapeRow.holds Try.pinned (OpenSpec.ofChange fnNumberEndAcceptedShapeWrong)

/-- 'zzlaws_jsonread_b1.FnNumberEndRefusesEmptyPart': WHATEVER THE INPUT: true; the input reads as it did. -/
def fnNumberEndRefusesEmptyPartSpec : ChangeSpec := { name := "fnNumberEndRefusesEmptyPart", fn := fun _ => fun
  | [d1, d2, d3, d4, d5, d6] => { results := [.lit (.bool true)], args := [d1, d2, d3, d4, d5, d6] }
  | _ => none }
def fnNumberEndRefusesEmptyPartRow : OpenClaim := { program := "qxb6600003a", sum := "2e4434764c10f7f521f932b99db8c559d904f8ce01da301c35f5ee8b52c40756", func := "example.com/okraj/okraj/zzlaws_jsonread_b1.FnNumberEndRefusesEmptyPart", spec := "fnNumberEndRefusesEmptyPart", apart := false }
def FnNumberEndRefusesEmptyPartSaid : Prop := fnNumberEndRefusesEmptyPartRow.holds Try.pinned (OpenSpec.ofChange fnNumberEndRefusesEmptyPartSpec)

/-- ITS FALSE NEIGHBOUR: 'it returns false'. Refute it at one input. -/
def fnNumberEndRefusesEmptyPartWrong : ChangeSpec := { name := "fnNumberEndRefusesEmptyPart", fn := fun _ => fun
  | [d1, d2, d3, d4, d5, d6] => { results := [.lit (.bool false)], args := [d1, d2, d3, d4, d5, d6] }
  | _ => none }
def FnNumberEndRefusesEmptyPartWrongFalsely : Prop := fnNumberEndRefusesEmptyPartRow.holds Try.pinned (OpenSpec.ofChange fnNumberEndRefusesEmptyPartWrong)

/-- 'zzlaws_jsonread_b1.FnValueEndBounds': WHATEVER THE INPUT: true; the input reads as it did. -/
def fnValueEndBoundsSpec : ChangeSpec := { name := "fnValueEndBounds", fn := fun _ => fun
  | [d1, d2] => { results := [.lit (.bool true)], args := [d1, d2] }
  | _ => none }
def fnValueEndBoundsRow : OpenClaim := { program := "qxb6600003a", sum := "2e4434764c10f7f521f932b99db8c559d904f8ce01da301c35f5ee8b52c40756", func := "example.com/okraj/okraj/zzlaws_jsonread_b1.FnValueEndBounds", spec := "fnValueEndBounds", inPlace := ["internal/bytealg.IndexByte"], apart := false }
def FnValueEndBoundsSaid : Prop := fnValueEndBoundsRow.holds Try.pinned (OpenSpec.ofChange fnValueEndBoundsSpec)

/-- ITS FALSE NEIGHBOUR: 'it returns false'. Refute it at one input. -/
def fnValueEndBoundsWrong : ChangeSpec := { name := "fnValueEndBounds", fn := fun _ => fun
  | [d1, d2] => { results := [.lit (.bool false)], args := [d1, d2] }
  | _ => none }
def FnValueEndBoundsWrongFalsely : Prop := fnValueEndBoundsRow.holds Try.pinned (OpenSpec.ofChange fnValueEndBoundsWrong)

/-- 'zzlaws_jsonread_b1.FnValueEndAgreesWithStringEnd': WHATEVER THE INPUT: true; the input reads as it did. -/
def fnValueEndAgreesWithStringEndSpec : ChangeSpec := { name := "fnValueEndAgreesWithStringEnd", fn := fun _ => fun
  | [d1, d2] => { results := [.lit (.bool true)], args := [d1, d2] }
  | _ => none }
def fnValueEndAgreesWithStringEndRow : OpenClaim := { program := "qxb6600003a", sum := "2e4434764c10f7f521f932b99db8c559d904f8ce01da301c35f5ee8b52c40756", func := "example.com/okraj/okraj/zzlaws_jsonread_b1.FnValueEndAgreesWithStringEnd", spec := "fnValueEndAgreesWithStringEnd", inPlace := ["internal/bytealg.IndexByte"], apart := false }
def FnValueEndAgreesWithStringEndSaid : Prop := fnValueEndAgreesWithStringEndRow.holds Try.pinned (OpenSpec.ofChange fnValueEndAgreesWithStringEndSpec)

/-- ITS FALSE NEIGHBOUR: 'it returns false'. Refute it at one input. -/
def fnValueEndAgreesWithStringEndWrong : ChangeSpec := { name := "fnValueEndAgreesWithStringEnd", fn := fun _ => fun
  | [d1, d2] => { results := [.lit (.bool false)], args := [d1, d2] }
  | _ => none }
def FnValueEndAgreesWithStringEndWrongFalsely : Prop := fnValueEndAgreesWithStringEndRow.holds Try.pinned (OpenSpec.ofChange fnValueEndAgreesWithStringEndWrong)

/-- 'zzlaws_jsonread_b1.FnValueEndAgreesWithNumberEnd': WHATEVER THE INPUT: true; the input reads as it did. -/
def fnValueEndAgreesWithNumberEndSpec : ChangeSpec := { name := "fnValueEndAgreesWithNumberEnd", fn := fun _ => fun
  | [d1, d2] => { results := [.lit (.bool true)], args := [d1, d2] }
  | _ => none }
def fnValueEndAgreesWithNumberEndRow : OpenClaim := { program := "qxb6600003a", sum := "2e4434764c10f7f521f932b99db8c559d904f8ce01da301c35f5ee8b52c40756", func := "example.com/okraj/okraj/zzlaws_jsonread_b1.FnValueEndAgreesWithNumberEnd", spec := "fnValueEndAgreesWithNumberEnd", inPlace := ["internal/bytealg.IndexByte"], apart := false }
def FnValueEndAgreesWithNumberEndSaid : Prop := fnValueEndAgreesWithNumberEndRow.holds Try.pinned (OpenSpec.ofChange fnValueEndAgreesWithNumberEndSpec)

/-- ITS FALSE NEIGHBOUR: 'it returns false'. Refute it at one input. -/
def fnValueEndAgreesWithNumberEndWrong : ChangeSpec := { name := "fnValueEndAgreesWithNumberEnd", fn := fun _ => fun
  | [d1, d2] => { results := [.lit (.bool false)], args := [d1, d2] }
  | _ => none }
def FnValueEndAgreesWithNumberEndWrongFalsely : Prop := fnValueEndAgreesWithNumberEndRow.holds Try.pinned (OpenSpec.ofChange fnValueEndAgreesWithNumberEndWrong)

end Rows
end Go.Proofs.Qxb6600003a
