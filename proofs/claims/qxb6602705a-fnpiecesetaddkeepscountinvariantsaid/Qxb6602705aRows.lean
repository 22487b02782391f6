/-
  No cell of these rows narrows 'for every input' (looked for: loops, veiled, ifaces, maps, wideKeys, modest, calm, conditions, laid).
  DERIVED. THE GIVEN ROWS OF THIS SEAT. 9 by the template 'for every input the law returns true; each argument reads behind the call as it read before'; 0 by the template 'total and deterministic' (their statements: Qxb6602705aTotals.lean).
  GIVEN WITH THE SEED: the statements are not yours to turn. If you find one false, say at which input.
  Laid BY PROGRAM, IN A SANDBOX (cutbox-rows.mjs): the forced cells as the released guide's own fill.sh prints them over the translation 5297532e8ac84d63… (all of the seat's roots in one cut). By AI agents, Wed Nov 11 2026. No macro, syntax, notation, axiom, sorry.
-/
import Derived.Test.Qxb6602705aChecked
import GoSem.Claim
import GoSem.ClaimJoined
import GoSem.ClaimMapViews
import Derived.JoinedTies
import Derived.KernelRfl
namespace Go.Proofs.Qxb6602705a
/- THE CELL 'sum', in the pinned program and in every row, IS THE sha256 OF THE DUMP (.gsa) THAT Qxb6602705aProg.lean LOADS. Nothing in Lean hashes anything: it is a label: what it is worth is what the hold of that sum in a sandbox is worth. -/
noncomputable def Try.pinned : Pinned := { name := "qxb6602705a", sum := "5297532e8ac84d6348c094f8fcdb4769ff13175038ffe819a8edf35c78431c42", checked := Try.checked }
namespace Rows
def none {H : Type} : Left H := { results := [], args := [] }

/-- 'zzlaws_pkg_policy_b1.FnPeerSetAddMatchesSetModel': WHATEVER THE INPUT: true; the input reads as it did. -/
def fnPeerSetAddMatchesSetModelSpec : ChangeSpec := { name := "fnPeerSetAddMatchesSetModel", fn := fun _ => fun
  | [d1, d2, d3] => { results := [.lit (.bool true)], args := [d1, d2, d3] }
  | _ => none }
def fnPeerSetAddMatchesSetModelRow : OpenClaim := { program := "qxb6602705a", sum := "5297532e8ac84d6348c094f8fcdb4769ff13175038ffe819a8edf35c78431c42", func := "example.com/lullswarm/lullswarm/zzlaws_pkg_policy_b1.FnPeerSetAddMatchesSetModel", spec := "fnPeerSetAddMatchesSetModel", inPlace := ["slices.overlaps[example.com/lullswarm/lullswarm/pkg/policy.peerWord]"], unfollowed := true, recurses := true, apart := false }
def FnPeerSetAddMatchesSetModelSaid : Prop := fnPeerSetAddMatchesSetModelRow.holds Try.pinned (OpenSpec.ofChange fnPeerSetAddMatchesSetModelSpec)

/-- ITS FALSE NEIGHBOUR: 'it returns false'. Refute it at one input. -/
def fnPeerSetAddMatchesSetModelWrong : ChangeSpec := { name := "fnPeerSetAddMatchesSetModel", fn := fun _ => fun
  | [d1, d2, d3] => { results := [.lit (.bool false)], args := [d1, d2, d3] }
  | _ => none }
def FnPeerSetAddMatchesSetModelWrongFalsely : Prop := fnPeerSetAddMatchesSetModelRow.holds Try.pinned (OpenSpec.ofChange fnPeerSetAddMatchesSetModelWrong)

/-- 'zzlaws_pkg_policy_b1.FnPeerSetAddThenRemoveRestores': WHATEVER THE INPUT: true; the input reads as it did. -/
def fnPeerSetAddThenRemoveRestoresSpec : ChangeSpec := { name := "fnPeerSetAddThenRemoveRestores", fn := fun _ => fun
  | [d1, d2, d3] => { results := [.lit (.bool true)], args := [d1, d2, d3] }
  | _ => none }
def fnPeerSetAddThenRemoveRestoresRow : OpenClaim := { program := "qxb6602705a", sum := "5297532e8ac84d6348c094f8fcdb4769ff13175038ffe819a8edf35c78431c42", func := "example.com/lullswarm/lullswarm/zzlaws_pkg_policy_b1.FnPeerSetAddThenRemoveRestores", spec := "fnPeerSetAddThenRemoveRestores", inPlace := ["slices.overlaps[example.com/lullswarm/lullswarm/pkg/policy.peerWord]"], unfollowed := true, recurses := true, apart := false }
def FnPeerSetAddThenRemoveRestoresSaid : Prop := fnPeerSetAddThenRemoveRestoresRow.holds Try.pinned (OpenSpec.ofChange fnPeerSetAddThenRemoveRestoresSpec)

/-- ITS FALSE NEIGHBOUR: 'it returns false'. Refute it at one input. -/
def fnPeerSetAddThenRemoveRestoresWrong : ChangeSpec := { name := "fnPeerSetAddThenRemoveRestores", fn := fun _ => fun
  | [d1, d2, d3] => { results := [.lit (.bool false)], args := [d1, d2, d3] }
  | _ => none }
def FnPeerSetAddThenRemoveRestoresWrongFalsely : Prop := fnPeerSetAddThenRemoveRestoresRow.holds Try.pinned (OpenSpec.ofChange fnPeerSetAddThenRemoveRestoresWrong)

/-- 'zzlaws_pkg_policy_b1.FnPeerSetAddOrderFree': WHATEVER THE INPUT: true; the input reads as it did. -/
def fnPeerSetAddOrderFreeSpec : ChangeSpec := { name := "fnPeerSetAddOrderFree", fn := fun _ => fun
  | [d1, d2, d3, d4] => { results := [.lit (.bool true)], args := [d1, d2, d3, d4] }
  | _ => none }
def fnPeerSetAddOrderFreeRow : OpenClaim := { program := "qxb6602705a", sum := "5297532e8ac84d6348c094f8fcdb4769ff13175038ffe819a8edf35c78431c42", func := "example.com/lullswarm/lullswarm/zzlaws_pkg_policy_b1.FnPeerSetAddOrderFree", spec := "fnPeerSetAddOrderFree", inPlace := ["slices.overlaps[example.com/lullswarm/lullswarm/pkg/policy.peerWord]"], unfollowed := true, recurses := true, apart := false }
def FnPeerSetAddOrderFreeSaid : Prop := fnPeerSetAddOrderFreeRow.holds Try.pinned (OpenSpec.ofChange fnPeerSetAddOrderFreeSpec)

/-- ITS FALSE NEIGHBOUR: 'it returns false'. Refute it at one input. -/
def fnPeerSetAddOrderFreeWrong : ChangeSpec := { name := "fnPeerSetAddOrderFree", fn := fun _ => fun
  | [d1, d2, d3, d4] => { results := [.lit (.bool false)], args := [d1, d2, d3, d4] }
  | _ => none }
def FnPeerSetAddOrderFreeWrongFalsely : Prop := fnPeerSetAddOrderFreeRow.holds Try.pinned (OpenSpec.ofChange fnPeerSetAddOrderFreeWrong)

/-- 'zzlaws_pkg_policy_b1.FnPeerSetRemoveMatchesSetModel': WHATEVER THE INPUT: true; the input reads as it did. -/
def fnPeerSetRemoveMatchesSetModelSpec : ChangeSpec := { name := "fnPeerSetRemoveMatchesSetModel", fn := fun _ => fun
  | [d1, d2, d3] => { results := [.lit (.bool true)], args := [d1, d2, d3] }
  | _ => none }
def fnPeerSetRemoveMatchesSetModelRow : OpenClaim := { program := "qxb6602705a", sum := "5297532e8ac84d6348c094f8fcdb4769ff13175038ffe819a8edf35c78431c42", func := "example.com/lullswarm/lullswarm/zzlaws_pkg_policy_b1.FnPeerSetRemoveMatchesSetModel", spec := "fnPeerSetRemoveMatchesSetModel", unfollowed := true, recurses := true, apart := false }
def FnPeerSetRemoveMatchesSetModelSaid : Prop := fnPeerSetRemoveMatchesSetModelRow.holds Try.pinned (OpenSpec.ofChange fnPeerSetRemoveMatchesSetModelSpec)

/-- ITS FALSE NEIGHBOUR: 'it returns false'. Refute it at one input. -/
def fnPeerSetRemoveMatchesSetModelWrong : ChangeSpec := { name := "fnPeerSetRemoveMatchesSetModel", fn := fun _ => fun
  | [d1, d2, d3] => { results := [.lit (.bool false)], args := [d1, d2, d3] }
  | _ => none }
def FnPeerSetRemoveMatchesSetModelWrongFalsely : Prop := fnPeerSetRemoveMatchesSetModelRow.holds Try.pinned (OpenSpec.ofChange fnPeerSetRemoveMatchesSetModelWrong)

/-- 'zzlaws_pkg_policy_b1.FnPeerSetRemoveThenAddRestores': WHATEVER THE INPUT: true; the input reads as it did. -/
def fnPeerSetRemoveThenAddRestoresSpec : ChangeSpec := { name := "fnPeerSetRemoveThenAddRestores", fn := fun _ => fun
  | [d1, d2, d3] => { results := [.lit (.bool true)], args := [d1, d2, d3] }
  | _ => none }
def fnPeerSetRemoveThenAddRestoresRow : OpenClaim := { program := "qxb6602705a", sum := "5297532e8ac84d6348c094f8fcdb4769ff13175038ffe819a8edf35c78431c42", func := "example.com/lullswarm/lullswarm/zzlaws_pkg_policy_b1.FnPeerSetRemoveThenAddRestores", spec := "fnPeerSetRemoveThenAddRestores", inPlace := ["slices.overlaps[example.com/lullswarm/lullswarm/pkg/policy.peerWord]"], unfollowed := true, recurses := true, apart := false }
def FnPeerSetRemoveThenAddRestoresSaid : Prop := fnPeerSetRemoveThenAddRestoresRow.holds Try.pinned (OpenSpec.ofChange fnPeerSetRemoveThenAddRestoresSpec)

/-- ITS FALSE NEIGHBOUR: 'it returns false'. Refute it at one input. -/
def fnPeerSetRemoveThenAddRestoresWrong : ChangeSpec := { name := "fnPeerSetRemoveThenAddRestores", fn := fun _ => fun
  | [d1, d2, d3] => { results := [.lit (.bool false)], args := [d1, d2, d3] }
  | _ => none }
def FnPeerSetRemoveThenAddRestoresWrongFalsely : Prop := fnPeerSetRemoveThenAddRestoresRow.holds Try.pinned (OpenSpec.ofChange fnPeerSetRemoveThenAddRestoresWrong)

/-- 'zzlaws_pkg_policy_b1.FnPeerSetRemoveIdempotent': WHATEVER THE INPUT: true; the input reads as it did. -/
def fnPeerSetRemoveIdempotentSpec : ChangeSpec := { name := "fnPeerSetRemoveIdempotent", fn := fun _ => fun
  | [d1, d2, d3] => { results := [.lit (.bool true)], args := [d1, d2, d3] }
  | _ => none }
def fnPeerSetRemoveIdempotentRow : OpenClaim := { program := "qxb6602705a", sum := "5297532e8ac84d6348c094f8fcdb4769ff13175038ffe819a8edf35c78431c42", func := "example.com/lullswarm/lullswarm/zzlaws_pkg_policy_b1.FnPeerSetRemoveIdempotent", spec := "fnPeerSetRemoveIdempotent", unfollowed := true, recurses := true, apart := false }
def FnPeerSetRemoveIdempotentSaid : Prop := fnPeerSetRemoveIdempotentRow.holds Try.pinned (OpenSpec.ofChange fnPeerSetRemoveIdempotentSpec)

/-- ITS FALSE NEIGHBOUR: 'it returns false'. Refute it at one input. -/
def fnPeerSetRemoveIdempotentWrong : ChangeSpec := { name := "fnPeerSetRemoveIdempotent", fn := fun _ => fun
  | [d1, d2, d3] => { results := [.lit (.bool false)], args := [d1, d2, d3] }
  | _ => none }
def FnPeerSetRemoveIdempotentWrongFalsely : Prop := fnPeerSetRemoveIdempotentRow.holds Try.pinned (OpenSpec.ofChange fnPeerSetRemoveIdempotentWrong)

/-- 'zzlaws_pkg_policy_b1.FnPieceSetAddMatchesBitModel': WHATEVER THE INPUT: true; the input reads as it did. -/
def fnPieceSetAddMatchesBitModelSpec : ChangeSpec := { name := "fnPieceSetAddMatchesBitModel", fn := fun _ => fun
  | [d1, d2, d3, d4] => { results := [.lit (.bool true)], args := [d1, d2, d3, d4] }
  | _ => none }
def fnPieceSetAddMatchesBitModelRow : OpenClaim := { program := "qxb6602705a", sum := "5297532e8ac84d6348c094f8fcdb4769ff13175038ffe819a8edf35c78431c42", func := "example.com/lullswarm/lullswarm/zzlaws_pkg_policy_b1.FnPieceSetAddMatchesBitModel", spec := "fnPieceSetAddMatchesBitModel", apart := false }
def FnPieceSetAddMatchesBitModelSaid : Prop := fnPieceSetAddMatchesBitModelRow.holds Try.pinned (OpenSpec.ofChange fnPieceSetAddMatchesBitModelSpec)

/-- ITS FALSE NEIGHBOUR: 'it returns false'. Refute it at one input. -/
def fnPieceSetAddMatchesBitModelWrong : ChangeSpec := { name := "fnPieceSetAddMatchesBitModel", fn := fun _ => fun
  | [d1, d2, d3, d4] => { results := [.lit (.bool false)], args := [d1, d2, d3, d4] }
  | _ => none }
def FnPieceSetAddMatchesBitModelWrongFalsely : Prop := fnPieceSetAddMatchesBitModelRow.holds Try.pinned (OpenSpec.ofChange fnPieceSetAddMatchesBitModelWrong)

/-- 'zzlaws_pkg_policy_b1.FnPieceSetAddKeepsCountInvariant': WHATEVER THE INPUT: true; the input reads as it did. -/
def fnPieceSetAddKeepsCountInvariantSpec : ChangeSpec := { name := "fnPieceSetAddKeepsCountInvariant", fn := fun _ => fun
  | [d1, d2, d3, d4] => { results := [.lit (.bool true)], args := [d1, d2, d3, d4] }
  | _ => none }
def fnPieceSetAddKeepsCountInvariantRow : OpenClaim := { program := "qxb6602705a", sum := "5297532e8ac84d6348c094f8fcdb4769ff13175038ffe819a8edf35c78431c42", func := "example.com/lullswarm/lullswarm/zzlaws_pkg_policy_b1.FnPieceSetAddKeepsCountInvariant", spec := "fnPieceSetAddKeepsCountInvariant", apart := false }
def FnPieceSetAddKeepsCountInvariantSaid : Prop := fnPieceSetAddKeepsCountInvariantRow.holds Try.pinned (OpenSpec.ofChange fnPieceSetAddKeepsCountInvariantSpec)

/-- ITS FALSE NEIGHBOUR: 'it returns false'. Refute it at one input. -/
def fnPieceSetAddKeepsCountInvariantWrong : ChangeSpec := { name := "fnPieceSetAddKeepsCountInvariant", fn := fun _ => fun
  | [d1, d2, d3, d4] => { results := [.lit (.bool false)], args := [d1, d2, d3, d4] }
  | _ => none }
def FnPieceSetAddKeepsCountInvariantWrongFalsely : Prop := fnPieceSetAddKeepsCountInvariantRow.holds Try.pinned (OpenSpec.ofChange fnPieceSetAddKeepsCountInvariantWrong)

/-- 'zzlaws_pkg_policy_b1.FnPieceSetAddIdempotent': WHATEVER THE INPUT: true; the input reads as it did. -/
def fnPieceSetAddIdempotentSpec : ChangeSpec := { name := "fnPieceSetAddIdempotent", fn := fun _ => fun
  | [d1, d2, d3, d4] => { results := [.lit (.bool true)], args := [d1, d2, d3, d4] }
  | _ => none }
def fnPieceSetAddIdempotentRow : OpenClaim := { program := "qxb6602705a", sum := "5297532e8ac84d6348c094f8fcdb4769ff13175038ffe819a8edf35c78431c42", func := "example.com/lullswarm/lullswarm/zzlaws_pkg_policy_b1.FnPieceSetAddIdempotent", spec := "fnPieceSetAddIdempotent", apart := false }
def FnPieceSetAddIdempotentSaid : Prop := fnPieceSetAddIdempotentRow.holds Try.pinned (OpenSpec.ofChange fnPieceSetAddIdempotentSpec)

/-- ITS FALSE NEIGHBOUR: 'it returns false'. Refute it at one input. -/
def fnPieceSetAddIdempotentWrong : ChangeSpec := { name := "fnPieceSetAddIdempotent", fn := fun _ => fun
  | [d1, d2, d3, d4] => { results := [.lit (.bool false)], args := [d1, d2, d3, d4] }
  | _ => none }
def FnPieceSetAddIdempotentWrongFalsely : Prop := fnPieceSetAddIdempotentRow.holds Try.pinned (OpenSpec.ofChange fnPieceSetAddIdempotentWrong)

end Rows
end Go.Proofs.Qxb6602705a
