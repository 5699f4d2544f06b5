/-
  DERIVED. GIVEN WITH THE SEED: THE CARDS: each row of Qxb6606039aDoorRows.lean that lists a variable, with what it lists TIED to the program's text (the seventh form; the later family's looks); each row that meets fmt, with fmt's text TOLD by the authors' own Lean function (tested against real Go, not proved from fmt's source: count such statements apart). THE CARD IS WHAT COUNTS. Prove the row's statement (the work); the ties are given (Qxb6606039aDoorTie.lean); close each card by the builder's one call (the guide's Derived/Test/ToyasCard.lean, 'card_holds'). Laid BY PROGRAM, IN A SANDBOX (cutbox-door.mjs). By AI agents, Wed Nov 11 2026. No macro, syntax, notation, axiom, sorry.
-/
import Derived.Test.Qxb6606039aDoorRows
import GoSem.ClaimSeven
namespace Go.Proofs.Qxb6606039aDoor
namespace Rows

/-- THE TIED CARD OF 'zzlaws_internal_jsonvalue_b1.FnPlusAgreesWithSchoolbookAddition'. -/
def fnPlusAgreesWithSchoolbookAdditionCard : Claim7 := { stood := { row := fnPlusAgreesWithSchoolbookAdditionRow, standIns := [], harness := (true, "0e4dd86efb4af9b89d97004d60a9176cd1551e3bbc60d32caa3e931bca00e4ad"), looks := true }, kinds := [], alts := [], laidByText := true, laidKinds := [.data, .data, .data, .data, .sentinel, .sentinel, .pinned], laidTests := true, laidLooks := .later }
def FnPlusAgreesWithSchoolbookAdditionCardSaid : Prop := Claim7.holds Tryd.pinned (.plain (OpenSpec.ofChange fnPlusAgreesWithSchoolbookAdditionSpec)) fnPlusAgreesWithSchoolbookAdditionCard

/-- THE TIED CARD OF 'zzlaws_internal_jsonvalue_b1.FnPlusComposes'. -/
def fnPlusComposesCard : Claim7 := { stood := { row := fnPlusComposesRow, standIns := [], harness := (true, "0e4dd86efb4af9b89d97004d60a9176cd1551e3bbc60d32caa3e931bca00e4ad"), looks := true }, kinds := [], alts := [], laidByText := true, laidKinds := [.data, .data, .data, .data, .sentinel, .sentinel, .pinned], laidTests := true, laidLooks := .later }
def FnPlusComposesCardSaid : Prop := Claim7.holds Tryd.pinned (.plain (OpenSpec.ofChange fnPlusComposesSpec)) fnPlusComposesCard

/-- THE TIED CARD OF 'zzlaws_internal_jsonvalue_b1.FnPlusCommutesWithNegation'. -/
def fnPlusCommutesWithNegationCard : Claim7 := { stood := { row := fnPlusCommutesWithNegationRow, standIns := [], harness := (true, "0e4dd86efb4af9b89d97004d60a9176cd1551e3bbc60d32caa3e931bca00e4ad"), looks := true }, kinds := [], alts := [], laidByText := true, laidKinds := [.data, .data, .data, .data, .sentinel, .sentinel, .pinned], laidTests := true, laidLooks := .later }
def FnPlusCommutesWithNegationCardSaid : Prop := Claim7.holds Tryd.pinned (.plain (OpenSpec.ofChange fnPlusCommutesWithNegationSpec)) fnPlusCommutesWithNegationCard
end Rows
end Go.Proofs.Qxb6606039aDoor
