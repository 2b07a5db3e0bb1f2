/-
  No cell of these rows narrows 'for every input' (looked for: loops, veiled, ifaces, maps, wideKeys, modest, calm, conditions, laid).
  DERIVED. THE GIVEN ROWS OF THIS SEAT. 2 by the template 'for every input the law returns true; each argument reads behind the call as it read before'; 0 by the template 'total and deterministic' (their statements: Qxb6612848aTotals.lean).
  GIVEN WITH THE SEED: the statements are not yours to turn. If you find one false, say at which input.
  Laid BY PROGRAM, IN A SANDBOX (cutbox-rows.mjs): the forced cells as the released guide's own fill.sh prints them over the translation cdbab1eba8b45d21… (all of the seat's roots in one cut). By AI agents, Wed Nov 11 2026. No macro, syntax, notation, axiom, sorry.
-/
import Derived.Test.Qxb6612848aChecked
import GoSem.Claim
import GoSem.ClaimJoined
import GoSem.ClaimMapViews
import Derived.JoinedTies
import Derived.KernelRfl
namespace Go.Proofs.Qxb6612848a
/- THE CELL 'sum', in the pinned program and in every row, IS THE sha256 OF THE DUMP (.gsa) THAT Qxb6612848aProg.lean LOADS. Nothing in Lean hashes anything: it is a label: what it is worth is what the hold of that sum in a sandbox is worth. -/
noncomputable def Try.pinned : Pinned := { name := "qxb6612848a", sum := "cdbab1eba8b45d213d1a4e84c78ed93644060d71110e0dc72c0263b3e7be7ac5", checked := Try.checked }
namespace Rows
def none {H : Type} : Left H := { results := [], args := [] }

/-- 'zzlaws_internal_cases_b1.FnReviewerActorJoinsAtAnyCut': WHATEVER THE INPUT: true; the input reads as it did. -/
def fnReviewerActorJoinsAtAnyCutSpec : ChangeSpec := { name := "fnReviewerActorJoinsAtAnyCut", fn := fun _ => fun
  | [d1, d2] => { results := [.lit (.bool true)], args := [d1, d2] }
  | _ => none }
def fnReviewerActorJoinsAtAnyCutRow : OpenClaim := { program := "qxb6612848a", sum := "cdbab1eba8b45d213d1a4e84c78ed93644060d71110e0dc72c0263b3e7be7ac5", func := "example.com/flagdeck/flagdeck/zzlaws_internal_cases_b1.FnReviewerActorJoinsAtAnyCut", spec := "fnReviewerActorJoinsAtAnyCut", apart := false }
def FnReviewerActorJoinsAtAnyCutSaid : Prop := fnReviewerActorJoinsAtAnyCutRow.holds Try.pinned (OpenSpec.ofChange fnReviewerActorJoinsAtAnyCutSpec)

/-- ITS FALSE NEIGHBOUR: 'it returns false'. Refute it at one input. -/
def fnReviewerActorJoinsAtAnyCutWrong : ChangeSpec := { name := "fnReviewerActorJoinsAtAnyCut", fn := fun _ => fun
  | [d1, d2] => { results := [.lit (.bool false)], args := [d1, d2] }
  | _ => none }
def FnReviewerActorJoinsAtAnyCutWrongFalsely : Prop := fnReviewerActorJoinsAtAnyCutRow.holds Try.pinned (OpenSpec.ofChange fnReviewerActorJoinsAtAnyCutWrong)

/-- 'zzlaws_internal_cases_b1.FnReviewerActorKeepsOrderUnderDocumentedHead': WHATEVER THE INPUT: true; the input reads as it did. -/
def fnReviewerActorKeepsOrderUnderDocumentedHeadSpec : ChangeSpec := { name := "fnReviewerActorKeepsOrderUnderDocumentedHead", fn := fun _ => fun
  | [d1, d2] => { results := [.lit (.bool true)], args := [d1, d2] }
  | _ => none }
def fnReviewerActorKeepsOrderUnderDocumentedHeadRow : OpenClaim := { program := "qxb6612848a", sum := "cdbab1eba8b45d213d1a4e84c78ed93644060d71110e0dc72c0263b3e7be7ac5", func := "example.com/flagdeck/flagdeck/zzlaws_internal_cases_b1.FnReviewerActorKeepsOrderUnderDocumentedHead", spec := "fnReviewerActorKeepsOrderUnderDocumentedHead", apart := false }
def FnReviewerActorKeepsOrderUnderDocumentedHeadSaid : Prop := fnReviewerActorKeepsOrderUnderDocumentedHeadRow.holds Try.pinned (OpenSpec.ofChange fnReviewerActorKeepsOrderUnderDocumentedHeadSpec)

/-- ITS FALSE NEIGHBOUR: 'it returns false'. Refute it at one input. -/
def fnReviewerActorKeepsOrderUnderDocumentedHeadWrong : ChangeSpec := { name := "fnReviewerActorKeepsOrderUnderDocumentedHead", fn := fun _ => fun
  | [d1, d2] => { results := [.lit (.bool false)], args := [d1, d2] }
  | _ => none }
def FnReviewerActorKeepsOrderUnderDocumentedHeadWrongFalsely : Prop := fnReviewerActorKeepsOrderUnderDocumentedHeadRow.holds Try.pinned (OpenSpec.ofChange fnReviewerActorKeepsOrderUnderDocumentedHeadWrong)

end Rows
end Go.Proofs.Qxb6612848a
