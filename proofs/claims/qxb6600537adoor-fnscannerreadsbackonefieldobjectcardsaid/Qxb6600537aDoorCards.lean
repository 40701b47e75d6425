/-
  DERIVED. GIVEN WITH THE SEED: THE CARDS: each row of Qxb6600537aDoorRows.lean that lists a variable, with what it lists TIED to the program's text (the seventh form; the later family's looks); each row that meets fmt, with fmt's text TOLD by the authors' own Lean function (tested against real Go, not proved from fmt's source: count such statements apart). THE CARD IS WHAT COUNTS. Prove the row's statement (the work); the ties are given (Qxb6600537aDoorTie.lean); close each card by the builder's one call (the guide's Derived/Test/ToyasCard.lean, 'card_holds'). Laid BY PROGRAM, IN A SANDBOX (cutbox-door.mjs). By AI agents, Wed Nov 11 2026. No macro, syntax, notation, axiom, sorry.
-/
import Derived.Test.Qxb6600537aDoorRows
import GoSem.ClaimSeven
namespace Go.Proofs.Qxb6600537aDoor
namespace Rows

/-- THE TIED CARD OF 'zzlaws_httpapi_b1.FnWholeNumberExact'. -/
def fnWholeNumberExactCard : Claim7 := { stood := { row := fnWholeNumberExactRow, standIns := [], harness := (true, "0a9cf9829816289c1c7ee6161a8ea8fa4ab600a8c9ff991aaca7d8e6151088bb"), looks := true }, kinds := [], alts := [], laidByText := true, laidKinds := [.data, .data, .data, .sentinel, .sentinel], laidTests := true, laidLooks := .later }
def FnWholeNumberExactCardSaid : Prop := Claim7.holds Tryd.pinned (.plain (OpenSpec.ofChange fnWholeNumberExactSpec)) fnWholeNumberExactCard

/-- THE TIED CARD OF 'zzlaws_httpapi_b1.FnWholeNumberReadsBackDecimal'. -/
def fnWholeNumberReadsBackDecimalCard : Claim7 := { stood := { row := fnWholeNumberReadsBackDecimalRow, standIns := [], harness := (true, "0a9cf9829816289c1c7ee6161a8ea8fa4ab600a8c9ff991aaca7d8e6151088bb"), looks := true }, kinds := [], alts := [], laidByText := true, laidKinds := [.data, .data, .data, .sentinel, .sentinel], laidTests := true, laidLooks := .later }
def FnWholeNumberReadsBackDecimalCardSaid : Prop := Claim7.holds Tryd.pinned (.plain (OpenSpec.ofChange fnWholeNumberReadsBackDecimalSpec)) fnWholeNumberReadsBackDecimalCard

/-- THE TIED CARD OF 'zzlaws_httpapi_b1.FnScannerReadsBackOneFieldObject'. -/
def fnScannerReadsBackOneFieldObjectCard : Claim7 := { stood := { row := fnScannerReadsBackOneFieldObjectRow, standIns := [], harness := (true, "0a9cf9829816289c1c7ee6161a8ea8fa4ab600a8c9ff991aaca7d8e6151088bb"), looks := true }, kinds := [], alts := [], laidByText := true, laidKinds := [.data, .data, .data, .sentinel, .sentinel], laidTests := true, laidLooks := .later }
def FnScannerReadsBackOneFieldObjectCardSaid : Prop := Claim7.holds Tryd.pinned (.plain (OpenSpec.ofChange fnScannerReadsBackOneFieldObjectSpec)) fnScannerReadsBackOneFieldObjectCard
end Rows
end Go.Proofs.Qxb6600537aDoor
