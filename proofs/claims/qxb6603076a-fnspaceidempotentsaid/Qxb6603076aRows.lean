/-
  No cell of these rows narrows 'for every input' (looked for: loops, veiled, ifaces, maps, wideKeys, modest, calm, conditions, laid).
  DERIVED. THE GIVEN ROWS OF THIS SEAT. 5 by the template 'for every input the law returns true; each argument reads behind the call as it read before'; 0 by the template 'total and deterministic' (their statements: Qxb6603076aTotals.lean).
  GIVEN WITH THE SEED: the statements are not yours to turn. If you find one false, say at which input.
  Laid BY PROGRAM, IN A SANDBOX (cutbox-rows.mjs): the forced cells as the released guide's own fill.sh prints them over the translation be68751d28258f0b… (all of the seat's roots in one cut). By AI agents, Wed Nov 11 2026. No macro, syntax, notation, axiom, sorry.
-/
import Derived.Test.Qxb6603076aChecked
import GoSem.Claim
import GoSem.ClaimJoined
import GoSem.ClaimMapViews
import Derived.JoinedTies
import Derived.KernelRfl
namespace Go.Proofs.Qxb6603076a
/- THE CELL 'sum', in the pinned program and in every row, IS THE sha256 OF THE DUMP (.gsa) THAT Qxb6603076aProg.lean LOADS. Nothing in Lean hashes anything: it is a label: what it is worth is what the hold of that sum in a sandbox is worth. -/
noncomputable def Try.pinned : Pinned := { name := "qxb6603076a", sum := "be68751d28258f0bfa99e132eba2096ac9e862770b359a120753fe54fcb8c6a5", checked := Try.checked }
namespace Rows
def none {H : Type} : Left H := { results := [], args := [] }

/-- 'zzlaws_yamljson_b1.FnSpaceStopsAtFirstNonSpace': WHATEVER THE INPUT: true; the input reads as it did. -/
def fnSpaceStopsAtFirstNonSpaceSpec : ChangeSpec := { name := "fnSpaceStopsAtFirstNonSpace", fn := fun _ => fun
  | [d1, d2, d3] => { results := [.lit (.bool true)], args := [d1, d2, d3] }
  | _ => none }
def fnSpaceStopsAtFirstNonSpaceRow : OpenClaim := { program := "qxb6603076a", sum := "be68751d28258f0bfa99e132eba2096ac9e862770b359a120753fe54fcb8c6a5", func := "example.com/corbelwatch/corbelwatch/zzlaws_yamljson_b1.FnSpaceStopsAtFirstNonSpace", spec := "fnSpaceStopsAtFirstNonSpace", apart := false }
def FnSpaceStopsAtFirstNonSpaceSaid : Prop := fnSpaceStopsAtFirstNonSpaceRow.holds Try.pinned (OpenSpec.ofChange fnSpaceStopsAtFirstNonSpaceSpec)

/-- ITS FALSE NEIGHBOUR: 'it returns false'. Refute it at one input. -/
def fnSpaceStopsAtFirstNonSpaceWrong : ChangeSpec := { name := "fnSpaceStopsAtFirstNonSpace", fn := fun _ => fun
  | [d1, d2, d3] => { results := [.lit (.bool false)], args := [d1, d2, d3] }
  | _ => none }
def FnSpaceStopsAtFirstNonSpaceWrongFalsely : Prop := fnSpaceStopsAtFirstNonSpaceRow.holds Try.pinned (OpenSpec.ofChange fnSpaceStopsAtFirstNonSpaceWrong)

/-- 'zzlaws_yamljson_b1.FnSpaceIdempotent': WHATEVER THE INPUT: true; the input reads as it did. -/
def fnSpaceIdempotentSpec : ChangeSpec := { name := "fnSpaceIdempotent", fn := fun _ => fun
  | [d1, d2, d3] => { results := [.lit (.bool true)], args := [d1, d2, d3] }
  | _ => none }
def fnSpaceIdempotentRow : OpenClaim := { program := "qxb6603076a", sum := "be68751d28258f0bfa99e132eba2096ac9e862770b359a120753fe54fcb8c6a5", func := "example.com/corbelwatch/corbelwatch/zzlaws_yamljson_b1.FnSpaceIdempotent", spec := "fnSpaceIdempotent", apart := false }
def FnSpaceIdempotentSaid : Prop := fnSpaceIdempotentRow.holds Try.pinned (OpenSpec.ofChange fnSpaceIdempotentSpec)

/-- ITS FALSE NEIGHBOUR: 'it returns false'. Refute it at one input. -/
def fnSpaceIdempotentWrong : ChangeSpec := { name := "fnSpaceIdempotent", fn := fun _ => fun
  | [d1, d2, d3] => { results := [.lit (.bool false)], args := [d1, d2, d3] }
  | _ => none }
def FnSpaceIdempotentWrongFalsely : Prop := fnSpaceIdempotentRow.holds Try.pinned (OpenSpec.ofChange fnSpaceIdempotentWrong)

/-- 'zzlaws_yamljson_b1.FnNextExact': WHATEVER THE INPUT: true; the input reads as it did. -/
def fnNextExactSpec : ChangeSpec := { name := "fnNextExact", fn := fun _ => fun
  | [d1, d2, d3, d4] => { results := [.lit (.bool true)], args := [d1, d2, d3, d4] }
  | _ => none }
def fnNextExactRow : OpenClaim := { program := "qxb6603076a", sum := "be68751d28258f0bfa99e132eba2096ac9e862770b359a120753fe54fcb8c6a5", func := "example.com/corbelwatch/corbelwatch/zzlaws_yamljson_b1.FnNextExact", spec := "fnNextExact", apart := false }
def FnNextExactSaid : Prop := fnNextExactRow.holds Try.pinned (OpenSpec.ofChange fnNextExactSpec)

/-- ITS FALSE NEIGHBOUR: 'it returns false'. Refute it at one input. -/
def fnNextExactWrong : ChangeSpec := { name := "fnNextExact", fn := fun _ => fun
  | [d1, d2, d3, d4] => { results := [.lit (.bool false)], args := [d1, d2, d3, d4] }
  | _ => none }
def FnNextExactWrongFalsely : Prop := fnNextExactRow.holds Try.pinned (OpenSpec.ofChange fnNextExactWrong)

/-- 'zzlaws_yamljson_b1.FnNextSkipsInsertedSpace': WHATEVER THE INPUT: true; the input reads as it did. -/
def fnNextSkipsInsertedSpaceSpec : ChangeSpec := { name := "fnNextSkipsInsertedSpace", fn := fun _ => fun
  | [d1, d2, d3, d4, d5] => { results := [.lit (.bool true)], args := [d1, d2, d3, d4, d5] }
  | _ => none }
def fnNextSkipsInsertedSpaceRow : OpenClaim := { program := "qxb6603076a", sum := "be68751d28258f0bfa99e132eba2096ac9e862770b359a120753fe54fcb8c6a5", func := "example.com/corbelwatch/corbelwatch/zzlaws_yamljson_b1.FnNextSkipsInsertedSpace", spec := "fnNextSkipsInsertedSpace", apart := false }
def FnNextSkipsInsertedSpaceSaid : Prop := fnNextSkipsInsertedSpaceRow.holds Try.pinned (OpenSpec.ofChange fnNextSkipsInsertedSpaceSpec)

/-- ITS FALSE NEIGHBOUR: 'it returns false'. Refute it at one input. -/
def fnNextSkipsInsertedSpaceWrong : ChangeSpec := { name := "fnNextSkipsInsertedSpace", fn := fun _ => fun
  | [d1, d2, d3, d4, d5] => { results := [.lit (.bool false)], args := [d1, d2, d3, d4, d5] }
  | _ => none }
def FnNextSkipsInsertedSpaceWrongFalsely : Prop := fnNextSkipsInsertedSpaceRow.holds Try.pinned (OpenSpec.ofChange fnNextSkipsInsertedSpaceWrong)

/-- 'zzlaws_yamljson_b1.FnHexReadsBackWhatIsWritten': WHATEVER THE INPUT: true; the input reads as it did. -/
def fnHexReadsBackWhatIsWrittenSpec : ChangeSpec := { name := "fnHexReadsBackWhatIsWritten", fn := fun _ => fun
  | [d1, d2, d3, d4, d5] => { results := [.lit (.bool true)], args := [d1, d2, d3, d4, d5] }
  | _ => none }
def fnHexReadsBackWhatIsWrittenRow : OpenClaim := { program := "qxb6603076a", sum := "be68751d28258f0bfa99e132eba2096ac9e862770b359a120753fe54fcb8c6a5", func := "example.com/corbelwatch/corbelwatch/zzlaws_yamljson_b1.FnHexReadsBackWhatIsWritten", spec := "fnHexReadsBackWhatIsWritten", apart := false }
def FnHexReadsBackWhatIsWrittenSaid : Prop := fnHexReadsBackWhatIsWrittenRow.holds Try.pinned (OpenSpec.ofChange fnHexReadsBackWhatIsWrittenSpec)

/-- ITS FALSE NEIGHBOUR: 'it returns false'. Refute it at one input. -/
def fnHexReadsBackWhatIsWrittenWrong : ChangeSpec := { name := "fnHexReadsBackWhatIsWritten", fn := fun _ => fun
  | [d1, d2, d3, d4, d5] => { results := [.lit (.bool false)], args := [d1, d2, d3, d4, d5] }
  | _ => none }
def FnHexReadsBackWhatIsWrittenWrongFalsely : Prop := fnHexReadsBackWhatIsWrittenRow.holds Try.pinned (OpenSpec.ofChange fnHexReadsBackWhatIsWrittenWrong)

end Rows
end Go.Proofs.Qxb6603076a
