/-
  DERIVED. GIVEN WITH THE SEED: THE CARDS: each row of Qxb6612929aDoorRows.lean that lists a variable, with what it lists TIED to the program's text (the seventh form; the later family's looks); each row that meets fmt, with fmt's text TOLD by the authors' own Lean function (tested against real Go, not proved from fmt's source: count such statements apart). THE CARD IS WHAT COUNTS. Prove the row's statement (the work); the ties are given (Qxb6612929aDoorTie.lean); close each card by the builder's one call (the guide's Derived/Test/ToyasCard.lean, 'card_holds'). Laid BY PROGRAM, IN A SANDBOX (cutbox-door.mjs). By AI agents, Wed Nov 11 2026. No macro, syntax, notation, axiom, sorry.
-/
import Derived.Test.Qxb6612929aDoorRows
import GoSem.ClaimSeven
namespace Go.Proofs.Qxb6612929aDoor
namespace Rows

/-- THE TIED CARD OF 'zzlaws_root_b1.FnStringFormIntegerReadsAsDecimal'. -/
def fnStringFormIntegerReadsAsDecimalCard : Claim7 := { stood := { row := fnStringFormIntegerReadsAsDecimalRow, standIns := [], harness := (true, "cea7f5987b6dbcdb5533ef97c51c2d256e5380f797a3adbd7cee9952f77f662a"), looks := true }, kinds := [], alts := [], laidByText := true, laidKinds := [.data, .data, .data, .data, .pinned, .pinned], laidTests := true, laidLooks := .later }
def FnStringFormIntegerReadsAsDecimalCardSaid : Prop := Claim7.holds Tryd.pinned (.plain (OpenSpec.ofChange fnStringFormIntegerReadsAsDecimalSpec)) fnStringFormIntegerReadsAsDecimalCard

/-- THE TIED CARD OF 'zzlaws_root_b1.FnStringFormRefusesAndReadsInPlace'. -/
def fnStringFormRefusesAndReadsInPlaceCard : Claim7 := { stood := { row := fnStringFormRefusesAndReadsInPlaceRow, standIns := [], harness := (true, "cea7f5987b6dbcdb5533ef97c51c2d256e5380f797a3adbd7cee9952f77f662a"), looks := true }, kinds := [], alts := [], laidByText := true, laidKinds := [.data, .data, .data, .data, .pinned, .pinned], laidTests := true, laidLooks := .later }
def FnStringFormRefusesAndReadsInPlaceCardSaid : Prop := Claim7.holds Tryd.pinned (.plain (OpenSpec.ofChange fnStringFormRefusesAndReadsInPlaceSpec)) fnStringFormRefusesAndReadsInPlaceCard
end Rows
end Go.Proofs.Qxb6612929aDoor
