/-
  DERIVED. GIVEN WITH THE SEED: THE CARDS: each row of Qxb6612848aDoorRows.lean that lists a variable, with what it lists TIED to the program's text (the seventh form; the later family's looks); each row that meets fmt, with fmt's text TOLD by the authors' own Lean function (tested against real Go, not proved from fmt's source: count such statements apart). THE CARD IS WHAT COUNTS. Prove the row's statement (the work); the ties are given (Qxb6612848aDoorTie.lean); close each card by the builder's one call (the guide's Derived/Test/ToyasCard.lean, 'card_holds'). Laid BY PROGRAM, IN A SANDBOX (cutbox-door.mjs). By AI agents, Wed Nov 11 2026. No macro, syntax, notation, axiom, sorry.
-/
import Derived.Test.Qxb6612848aDoorRows
import GoSem.ClaimSeven
namespace Go.Proofs.Qxb6612848aDoor
namespace Rows

/-- THE TIED CARD OF 'zzlaws_internal_cases_b1.FnLabelNamesItsStatus'. -/
def fnLabelNamesItsStatusCard : Claim7 := { stood := { row := fnLabelNamesItsStatusRow, standIns := [], harness := (true, "4671a272a49c85c232bc8e8705776daee29dacba780d2ab9d6258a2095ece8c9"), looks := false }, kinds := [], alts := [], laidByText := true, laidKinds := [.mappedDeep], laidTests := true, laidLooks := .later }
def FnLabelNamesItsStatusCardSaid : Prop := Claim7.holds Tryd.pinned (.plain (OpenSpec.ofChange fnLabelNamesItsStatusSpec)) fnLabelNamesItsStatusCard

/-- THE TIED CARD OF 'zzlaws_internal_cases_b1.FnLabelTellsStatusesApart'. -/
def fnLabelTellsStatusesApartCard : Claim7 := { stood := { row := fnLabelTellsStatusesApartRow, standIns := [], harness := (true, "4671a272a49c85c232bc8e8705776daee29dacba780d2ab9d6258a2095ece8c9"), looks := false }, kinds := [], alts := [], laidByText := true, laidKinds := [.mappedDeep], laidTests := true, laidLooks := .later }
def FnLabelTellsStatusesApartCardSaid : Prop := Claim7.holds Tryd.pinned (.plain (OpenSpec.ofChange fnLabelTellsStatusesApartSpec)) fnLabelTellsStatusesApartCard

/-- THE TIED CARD OF 'zzlaws_internal_cases_b1.FnOpenSplitsLabelledStatuses'. -/
def fnOpenSplitsLabelledStatusesCard : Claim7 := { stood := { row := fnOpenSplitsLabelledStatusesRow, standIns := [], harness := (true, "4671a272a49c85c232bc8e8705776daee29dacba780d2ab9d6258a2095ece8c9"), looks := false }, kinds := [], alts := [], laidByText := true, laidKinds := [.mappedDeep], laidTests := true, laidLooks := .later }
def FnOpenSplitsLabelledStatusesCardSaid : Prop := Claim7.holds Tryd.pinned (.plain (OpenSpec.ofChange fnOpenSplitsLabelledStatusesSpec)) fnOpenSplitsLabelledStatusesCard
end Rows
end Go.Proofs.Qxb6612848aDoor
