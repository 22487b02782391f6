/-
  No cell of these rows narrows 'for every input' (looked for: loops, veiled, ifaces, maps, wideKeys, modest, calm, conditions, laid).
  DERIVED. THE GIVEN ROWS OF THIS SEAT. 2 by the template 'for every input the law returns true; each argument reads behind the call as it read before'; 0 by the template 'total and deterministic' (their statements: Qxb6604665aTotals.lean).
  GIVEN WITH THE SEED: the statements are not yours to turn. If you find one false, say at which input.
  Laid BY PROGRAM, IN A SANDBOX (cutbox-rows.mjs): the forced cells as the released guide's own fill.sh prints them over the translation fb2ae70ad4aa4a12… (all of the seat's roots in one cut). By AI agents, Wed Nov 11 2026. No macro, syntax, notation, axiom, sorry.
-/
import Derived.Test.Qxb6604665aChecked
import GoSem.Claim
import GoSem.ClaimJoined
import GoSem.ClaimMapViews
import Derived.JoinedTies
import Derived.KernelRfl
namespace Go.Proofs.Qxb6604665a
/- THE CELL 'sum', in the pinned program and in every row, IS THE sha256 OF THE DUMP (.gsa) THAT Qxb6604665aProg.lean LOADS. Nothing in Lean hashes anything: it is a label: what it is worth is what the hold of that sum in a sandbox is worth. -/
noncomputable def Try.pinned : Pinned := { name := "qxb6604665a", sum := "fb2ae70ad4aa4a12c8f1f4401d70c6a15ee25037b80d5c7ac30dd5db7e8729b5", checked := Try.checked }
namespace Rows
def none {H : Type} : Left H := { results := [], args := [] }

/-- 'zzlaws_internal_plan_b1.FnCausesAreTheSortedCauses': WHATEVER THE INPUT: true; the input reads as it did. -/
def fnCausesAreTheSortedCausesSpec : ChangeSpec := { name := "fnCausesAreTheSortedCauses", fn := fun _ => fun
  | [d] => { results := [.lit (.bool true)], args := [d] }
  | _ => none }
def fnCausesAreTheSortedCausesRow : OpenClaim := { program := "qxb6604665a", sum := "fb2ae70ad4aa4a12c8f1f4401d70c6a15ee25037b80d5c7ac30dd5db7e8729b5", func := "example.com/vestbook/vestbook/zzlaws_internal_plan_b1.FnCausesAreTheSortedCauses", spec := "fnCausesAreTheSortedCauses", unfollowed := true, recurses := true, apart := false }
def FnCausesAreTheSortedCausesSaid : Prop := fnCausesAreTheSortedCausesRow.holds Try.pinned (OpenSpec.ofChange fnCausesAreTheSortedCausesSpec)

/-- ITS FALSE NEIGHBOUR: 'it returns false'. Refute it at one input. -/
def fnCausesAreTheSortedCausesWrong : ChangeSpec := { name := "fnCausesAreTheSortedCauses", fn := fun _ => fun
  | [d] => { results := [.lit (.bool false)], args := [d] }
  | _ => none }
def FnCausesAreTheSortedCausesWrongFalsely : Prop := fnCausesAreTheSortedCausesRow.holds Try.pinned (OpenSpec.ofChange fnCausesAreTheSortedCausesWrong)

/-- 'zzlaws_internal_plan_b1.FnCausesFollowAddAndRemove': WHATEVER THE INPUT: true; the input reads as it did. -/
def fnCausesFollowAddAndRemoveSpec : ChangeSpec := { name := "fnCausesFollowAddAndRemove", fn := fun _ => fun
  | [d1, d2, d3] => { results := [.lit (.bool true)], args := [d1, d2, d3] }
  | _ => none }
def fnCausesFollowAddAndRemoveRow : OpenClaim := { program := "qxb6604665a", sum := "fb2ae70ad4aa4a12c8f1f4401d70c6a15ee25037b80d5c7ac30dd5db7e8729b5", func := "example.com/vestbook/vestbook/zzlaws_internal_plan_b1.FnCausesFollowAddAndRemove", spec := "fnCausesFollowAddAndRemove", unfollowed := true, recurses := true, apart := false }
def FnCausesFollowAddAndRemoveSaid : Prop := fnCausesFollowAddAndRemoveRow.holds Try.pinned (OpenSpec.ofChange fnCausesFollowAddAndRemoveSpec)

/-- ITS FALSE NEIGHBOUR: 'it returns false'. Refute it at one input. -/
def fnCausesFollowAddAndRemoveWrong : ChangeSpec := { name := "fnCausesFollowAddAndRemove", fn := fun _ => fun
  | [d1, d2, d3] => { results := [.lit (.bool false)], args := [d1, d2, d3] }
  | _ => none }
def FnCausesFollowAddAndRemoveWrongFalsely : Prop := fnCausesFollowAddAndRemoveRow.holds Try.pinned (OpenSpec.ofChange fnCausesFollowAddAndRemoveWrong)

end Rows
end Go.Proofs.Qxb6604665a
