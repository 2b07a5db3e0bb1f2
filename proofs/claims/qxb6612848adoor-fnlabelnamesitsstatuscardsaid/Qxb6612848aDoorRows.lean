/-
  NARROWER THAN 'FOR EVERY INPUT', by the rows' own cells (each row's printed sentence says how): FnLabelNamesItsStatus: maps, laid · FnLabelTellsStatusesApart: maps, laid · FnOpenSplitsLabelledStatuses: maps, laid.
  DERIVED. THE GIVEN ROWS OF THIS SEAT. 3 by the template 'for every input the law returns true; each argument reads behind the call as it read before'; 0 by the template 'total and deterministic' (their statements: Qxb6612848aDoorTotals.lean).
  GIVEN WITH THE SEED: the statements are not yours to turn. If you find one false, say at which input.
  Laid BY PROGRAM, IN A SANDBOX (cutbox-rows.mjs): the forced cells as the released guide's own fill.sh prints them over the translation 5ca5abed2b2abd6d… (all of the seat's roots in one cut). By AI agents, Wed Nov 11 2026. No macro, syntax, notation, axiom, sorry.
-/
import Derived.Test.Qxb6612848aDoorChecked
import GoSem.Claim
import GoSem.ClaimJoined
import GoSem.ClaimMapViews
import Derived.JoinedTies
import Derived.KernelRfl
namespace Go.Proofs.Qxb6612848aDoor
/- THE CELL 'sum', in the pinned program and in every row, IS THE sha256 OF THE DUMP (.gsa) THAT Qxb6612848aDoorProg.lean LOADS. Nothing in Lean hashes anything: it is a label: what it is worth is what the hold of that sum in a sandbox is worth. -/
noncomputable def Tryd.pinned : Pinned := { name := "qxb6612848adoor", sum := "5ca5abed2b2abd6d040306b80d23d68e739f2259792dc63aa58be72e79b83a11", checked := Tryd.checked }
namespace Rows
def none {H : Type} : Left H := { results := [], args := [] }

/- WHAT THE LISTED PACKAGE-LEVEL VARIABLES READ AS WHEN THE CALL BEGINS. Each datum BY PROGRAM (the guide's laid-datum.mjs) off the statement by which the dump's own 'gosem.cut.vars' lays the variable. In a bare row this is a premise. The card (Qxb6612848aDoorCards.lean) ties it to the program's text. -/
def laid_example_com_flagdeck_flagdeck_internal_cases_statusLabels {H : Type} : DataW H := .map [(.string [97, 115, 115, 105, 103, 110, 101, 100], .lit (.string [82, 101, 118, 105, 101, 119, 101, 114, 32, 65, 115, 115, 105, 103, 110, 101, 100])), (.string [100, 105, 115, 109, 105, 115, 115, 101, 100], .lit (.string [70, 108, 97, 103, 32, 68, 105, 115, 109, 105, 115, 115, 101, 100])), (.string [112, 101, 110, 100, 105, 110, 103], .lit (.string [80, 101, 110, 100, 105, 110, 103])), (.string [114, 101, 109, 111, 118, 101, 100], .lit (.string [82, 101, 109, 111, 118, 101, 100]))]

/-- 'zzlaws_internal_cases_b1.FnLabelNamesItsStatus': WHATEVER THE INPUT: true; the input reads as it did. -/
def fnLabelNamesItsStatusSpec : ChangeSpec := { name := "fnLabelNamesItsStatus", vars := ["example.com/flagdeck/flagdeck/internal/cases.statusLabels"], fn := fun _ => fun
  | [d, g1] => { results := [.lit (.bool true)], args := [d], vars := [g1] }
  | _ => none }
def fnLabelNamesItsStatusRow : OpenClaim := { program := "qxb6612848adoor", sum := "5ca5abed2b2abd6d040306b80d23d68e739f2259792dc63aa58be72e79b83a11", func := "example.com/flagdeck/flagdeck/zzlaws_internal_cases_b1.FnLabelNamesItsStatus", spec := "fnLabelNamesItsStatus", named := ["example.com/flagdeck/flagdeck/internal/cases.statusLabels"], maps := true, apart := false, laid := [("example.com/flagdeck/flagdeck/internal/cases.statusLabels", laid_example_com_flagdeck_flagdeck_internal_cases_statusLabels)] }
def FnLabelNamesItsStatusSaid : Prop := fnLabelNamesItsStatusRow.holds Tryd.pinned (OpenSpec.ofChange fnLabelNamesItsStatusSpec)

/-- ITS FALSE NEIGHBOUR: 'it returns false'. Refute it at one input. -/
def fnLabelNamesItsStatusWrong : ChangeSpec := { name := "fnLabelNamesItsStatus", vars := ["example.com/flagdeck/flagdeck/internal/cases.statusLabels"], fn := fun _ => fun
  | [d, g1] => { results := [.lit (.bool false)], args := [d], vars := [g1] }
  | _ => none }
def FnLabelNamesItsStatusWrongFalsely : Prop := fnLabelNamesItsStatusRow.holds Tryd.pinned (OpenSpec.ofChange fnLabelNamesItsStatusWrong)

/-- 'zzlaws_internal_cases_b1.FnLabelTellsStatusesApart': WHATEVER THE INPUT: true; the input reads as it did. -/
def fnLabelTellsStatusesApartSpec : ChangeSpec := { name := "fnLabelTellsStatusesApart", vars := ["example.com/flagdeck/flagdeck/internal/cases.statusLabels"], fn := fun _ => fun
  | [d1, d2, g1] => { results := [.lit (.bool true)], args := [d1, d2], vars := [g1] }
  | _ => none }
def fnLabelTellsStatusesApartRow : OpenClaim := { program := "qxb6612848adoor", sum := "5ca5abed2b2abd6d040306b80d23d68e739f2259792dc63aa58be72e79b83a11", func := "example.com/flagdeck/flagdeck/zzlaws_internal_cases_b1.FnLabelTellsStatusesApart", spec := "fnLabelTellsStatusesApart", named := ["example.com/flagdeck/flagdeck/internal/cases.statusLabels"], maps := true, apart := false, laid := [("example.com/flagdeck/flagdeck/internal/cases.statusLabels", laid_example_com_flagdeck_flagdeck_internal_cases_statusLabels)] }
def FnLabelTellsStatusesApartSaid : Prop := fnLabelTellsStatusesApartRow.holds Tryd.pinned (OpenSpec.ofChange fnLabelTellsStatusesApartSpec)

/-- ITS FALSE NEIGHBOUR: 'it returns false'. Refute it at one input. -/
def fnLabelTellsStatusesApartWrong : ChangeSpec := { name := "fnLabelTellsStatusesApart", vars := ["example.com/flagdeck/flagdeck/internal/cases.statusLabels"], fn := fun _ => fun
  | [d1, d2, g1] => { results := [.lit (.bool false)], args := [d1, d2], vars := [g1] }
  | _ => none }
def FnLabelTellsStatusesApartWrongFalsely : Prop := fnLabelTellsStatusesApartRow.holds Tryd.pinned (OpenSpec.ofChange fnLabelTellsStatusesApartWrong)

/-- 'zzlaws_internal_cases_b1.FnOpenSplitsLabelledStatuses': WHATEVER THE INPUT: true; the input reads as it did. -/
def fnOpenSplitsLabelledStatusesSpec : ChangeSpec := { name := "fnOpenSplitsLabelledStatuses", vars := ["example.com/flagdeck/flagdeck/internal/cases.statusLabels"], fn := fun _ => fun
  | [d, g1] => { results := [.lit (.bool true)], args := [d], vars := [g1] }
  | _ => none }
def fnOpenSplitsLabelledStatusesRow : OpenClaim := { program := "qxb6612848adoor", sum := "5ca5abed2b2abd6d040306b80d23d68e739f2259792dc63aa58be72e79b83a11", func := "example.com/flagdeck/flagdeck/zzlaws_internal_cases_b1.FnOpenSplitsLabelledStatuses", spec := "fnOpenSplitsLabelledStatuses", named := ["example.com/flagdeck/flagdeck/internal/cases.statusLabels"], maps := true, apart := false, laid := [("example.com/flagdeck/flagdeck/internal/cases.statusLabels", laid_example_com_flagdeck_flagdeck_internal_cases_statusLabels)] }
def FnOpenSplitsLabelledStatusesSaid : Prop := fnOpenSplitsLabelledStatusesRow.holds Tryd.pinned (OpenSpec.ofChange fnOpenSplitsLabelledStatusesSpec)

/-- ITS FALSE NEIGHBOUR: 'it returns false'. Refute it at one input. -/
def fnOpenSplitsLabelledStatusesWrong : ChangeSpec := { name := "fnOpenSplitsLabelledStatuses", vars := ["example.com/flagdeck/flagdeck/internal/cases.statusLabels"], fn := fun _ => fun
  | [d, g1] => { results := [.lit (.bool false)], args := [d], vars := [g1] }
  | _ => none }
def FnOpenSplitsLabelledStatusesWrongFalsely : Prop := fnOpenSplitsLabelledStatusesRow.holds Tryd.pinned (OpenSpec.ofChange fnOpenSplitsLabelledStatusesWrong)

end Rows
end Go.Proofs.Qxb6612848aDoor
