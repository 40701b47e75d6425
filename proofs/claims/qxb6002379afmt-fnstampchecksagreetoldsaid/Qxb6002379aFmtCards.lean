/-
  DERIVED. GIVEN WITH THE SEED: THE CARDS: each row of Qxb6002379aFmtRows.lean that lists a variable, with what it lists TIED to the program's text (the seventh form; the later family's looks); each row that meets fmt, with fmt's text TOLD by the authors' own Lean function (tested against real Go, not proved from fmt's source: count such statements apart). THE CARD IS WHAT COUNTS. Prove the row's statement (the work); the ties are given (Qxb6002379aFmtTie.lean); close each card by the builder's one call (the guide's Derived/Test/ToyasCard.lean, 'card_holds'). Laid BY PROGRAM, IN A SANDBOX (cutbox-door.mjs). By AI agents, Wed Nov 11 2026. No macro, syntax, notation, axiom, sorry.
-/
import Derived.Test.Qxb6002379aFmtRows
import GoSem.ClaimSeven
namespace Go.Proofs.Qxb6002379aFmt
namespace Rows

/-- THE TOLD CARD OF 'zzlaws_root_g1.FnParseStampAcceptsExactlyValid'. -/
def fnParseStampAcceptsExactlyValidCard : Claim7 := { stood := { row := fnParseStampAcceptsExactlyValidRow, standIns := [], harness := (true, "a75f265998030a372216351e6dbfa42c648b5ffbbbb27400f6b2d44b8a919c1f"), looks := false }, told := true, goes := false }
def FnParseStampAcceptsExactlyValidToldSaid : Prop := Claim7.holds Tryf.pinned (.plain (OpenSpec.ofChange fnParseStampAcceptsExactlyValidSpec)) fnParseStampAcceptsExactlyValidCard
/-- ITS FALSE NEIGHBOUR. Refute it at one input. -/
def FnParseStampAcceptsExactlyValidToldWrongFalsely : Prop := Claim7.holds Tryf.pinned (.plain (OpenSpec.ofChange fnParseStampAcceptsExactlyValidWrong)) fnParseStampAcceptsExactlyValidCard

/-- THE TOLD AND TIED CARD OF 'zzlaws_root_g1.FnParseStampCanonical'. -/
def fnParseStampCanonicalCard : Claim7 := { stood := { row := fnParseStampCanonicalRow, standIns := [], harness := (true, "a75f265998030a372216351e6dbfa42c648b5ffbbbb27400f6b2d44b8a919c1f"), looks := false }, told := true, laidByText := true, laidKinds := [.data, .data, .data], laidTests := true, laidLooks := .later, goes := false }
def FnParseStampCanonicalToldSaid : Prop := Claim7.holds Tryf.pinned (.plain (OpenSpec.ofChange fnParseStampCanonicalSpec)) fnParseStampCanonicalCard
/-- ITS FALSE NEIGHBOUR. Refute it at one input. -/
def FnParseStampCanonicalToldWrongFalsely : Prop := Claim7.holds Tryf.pinned (.plain (OpenSpec.ofChange fnParseStampCanonicalWrong)) fnParseStampCanonicalCard

/-- THE TOLD CARD OF 'zzlaws_root_g1.FnStampChecksAgree'. -/
def fnStampChecksAgreeCard : Claim7 := { stood := { row := fnStampChecksAgreeRow, standIns := [], harness := (true, "a75f265998030a372216351e6dbfa42c648b5ffbbbb27400f6b2d44b8a919c1f"), looks := false }, told := true, goes := false }
def FnStampChecksAgreeToldSaid : Prop := Claim7.holds Tryf.pinned (.plain (OpenSpec.ofChange fnStampChecksAgreeSpec)) fnStampChecksAgreeCard
/-- ITS FALSE NEIGHBOUR. Refute it at one input. -/
def FnStampChecksAgreeToldWrongFalsely : Prop := Claim7.holds Tryf.pinned (.plain (OpenSpec.ofChange fnStampChecksAgreeWrong)) fnStampChecksAgreeCard

/-- THE TOLD CARD OF 'zzlaws_root_g1.FnKindCheckAgreesWithKindOf'. -/
def fnKindCheckAgreesWithKindOfCard : Claim7 := { stood := { row := fnKindCheckAgreesWithKindOfRow, standIns := [], harness := (true, "a75f265998030a372216351e6dbfa42c648b5ffbbbb27400f6b2d44b8a919c1f"), looks := false }, told := true, goes := false }
def FnKindCheckAgreesWithKindOfToldSaid : Prop := Claim7.holds Tryf.pinned (.plain (OpenSpec.ofChange fnKindCheckAgreesWithKindOfSpec)) fnKindCheckAgreesWithKindOfCard
/-- ITS FALSE NEIGHBOUR. Refute it at one input. -/
def FnKindCheckAgreesWithKindOfToldWrongFalsely : Prop := Claim7.holds Tryf.pinned (.plain (OpenSpec.ofChange fnKindCheckAgreesWithKindOfWrong)) fnKindCheckAgreesWithKindOfCard
end Rows
end Go.Proofs.Qxb6002379aFmt
