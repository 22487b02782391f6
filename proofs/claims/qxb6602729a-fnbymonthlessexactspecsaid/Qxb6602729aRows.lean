/-
  No cell of these rows narrows 'for every input' (looked for: loops, veiled, ifaces, maps, wideKeys, modest, calm, conditions, laid).
  DERIVED. THE GIVEN ROWS OF THIS SEAT. 7 by the template 'for every input the law returns true; each argument reads behind the call as it read before'; 0 by the template 'total and deterministic' (their statements: Qxb6602729aTotals.lean).
  GIVEN WITH THE SEED: the statements are not yours to turn. If you find one false, say at which input.
  Laid BY PROGRAM, IN A SANDBOX (cutbox-rows.mjs): the forced cells as the released guide's own fill.sh prints them over the translation d4943f5f79d9e5ba… (all of the seat's roots in one cut). By AI agents, Wed Nov 11 2026. No macro, syntax, notation, axiom, sorry.
-/
import Derived.Test.Qxb6602729aChecked
import GoSem.Claim
import GoSem.ClaimJoined
import GoSem.ClaimMapViews
import Derived.JoinedTies
import Derived.KernelRfl
namespace Go.Proofs.Qxb6602729a
/- THE CELL 'sum', in the pinned program and in every row, IS THE sha256 OF THE DUMP (.gsa) THAT Qxb6602729aProg.lean LOADS. Nothing in Lean hashes anything: it is a label: what it is worth is what the hold of that sum in a sandbox is worth. -/
noncomputable def Try.pinned : Pinned := { name := "qxb6602729a", sum := "d4943f5f79d9e5ba9b1102fc81d1725793e6971b52840c8531036b2b0bd6bd76", checked := Try.checked }
namespace Rows
def none {H : Type} : Left H := { results := [], args := [] }

/-- 'zzlaws_pkg_ledger_b1.FnDigitsValueExactSpec': WHATEVER THE INPUT: true; the input reads as it did. -/
def fnDigitsValueExactSpecSpec : ChangeSpec := { name := "fnDigitsValueExactSpec", fn := fun _ => fun
  | [d] => { results := [.lit (.bool true)], args := [d] }
  | _ => none }
def fnDigitsValueExactSpecRow : OpenClaim := { program := "qxb6602729a", sum := "d4943f5f79d9e5ba9b1102fc81d1725793e6971b52840c8531036b2b0bd6bd76", func := "example.com/hourbook/hourbook/zzlaws_pkg_ledger_b1.FnDigitsValueExactSpec", spec := "fnDigitsValueExactSpec", apart := false }
def FnDigitsValueExactSpecSaid : Prop := fnDigitsValueExactSpecRow.holds Try.pinned (OpenSpec.ofChange fnDigitsValueExactSpecSpec)

/-- ITS FALSE NEIGHBOUR: 'it returns false'. Refute it at one input. -/
def fnDigitsValueExactSpecWrong : ChangeSpec := { name := "fnDigitsValueExactSpec", fn := fun _ => fun
  | [d] => { results := [.lit (.bool false)], args := [d] }
  | _ => none }
def FnDigitsValueExactSpecWrongFalsely : Prop := fnDigitsValueExactSpecRow.holds Try.pinned (OpenSpec.ofChange fnDigitsValueExactSpecWrong)

/-- 'zzlaws_pkg_ledger_b1.FnDigitsValueLeadingZerosRoundTrip': WHATEVER THE INPUT: true; the input reads as it did. -/
def fnDigitsValueLeadingZerosRoundTripSpec : ChangeSpec := { name := "fnDigitsValueLeadingZerosRoundTrip", fn := fun _ => fun
  | [d1, d2] => { results := [.lit (.bool true)], args := [d1, d2] }
  | _ => none }
def fnDigitsValueLeadingZerosRoundTripRow : OpenClaim := { program := "qxb6602729a", sum := "d4943f5f79d9e5ba9b1102fc81d1725793e6971b52840c8531036b2b0bd6bd76", func := "example.com/hourbook/hourbook/zzlaws_pkg_ledger_b1.FnDigitsValueLeadingZerosRoundTrip", spec := "fnDigitsValueLeadingZerosRoundTrip", apart := false }
def FnDigitsValueLeadingZerosRoundTripSaid : Prop := fnDigitsValueLeadingZerosRoundTripRow.holds Try.pinned (OpenSpec.ofChange fnDigitsValueLeadingZerosRoundTripSpec)

/-- ITS FALSE NEIGHBOUR: 'it returns false'. Refute it at one input. -/
def fnDigitsValueLeadingZerosRoundTripWrong : ChangeSpec := { name := "fnDigitsValueLeadingZerosRoundTrip", fn := fun _ => fun
  | [d1, d2] => { results := [.lit (.bool false)], args := [d1, d2] }
  | _ => none }
def FnDigitsValueLeadingZerosRoundTripWrongFalsely : Prop := fnDigitsValueLeadingZerosRoundTripRow.holds Try.pinned (OpenSpec.ofChange fnDigitsValueLeadingZerosRoundTripWrong)

/-- 'zzlaws_pkg_ledger_b1.FnDigitsValueConcat': WHATEVER THE INPUT: true; the input reads as it did. -/
def fnDigitsValueConcatSpec : ChangeSpec := { name := "fnDigitsValueConcat", fn := fun _ => fun
  | [d1, d2] => { results := [.lit (.bool true)], args := [d1, d2] }
  | _ => none }
def fnDigitsValueConcatRow : OpenClaim := { program := "qxb6602729a", sum := "d4943f5f79d9e5ba9b1102fc81d1725793e6971b52840c8531036b2b0bd6bd76", func := "example.com/hourbook/hourbook/zzlaws_pkg_ledger_b1.FnDigitsValueConcat", spec := "fnDigitsValueConcat", apart := false }
def FnDigitsValueConcatSaid : Prop := fnDigitsValueConcatRow.holds Try.pinned (OpenSpec.ofChange fnDigitsValueConcatSpec)

/-- ITS FALSE NEIGHBOUR: 'it returns false'. Refute it at one input. -/
def fnDigitsValueConcatWrong : ChangeSpec := { name := "fnDigitsValueConcat", fn := fun _ => fun
  | [d1, d2] => { results := [.lit (.bool false)], args := [d1, d2] }
  | _ => none }
def FnDigitsValueConcatWrongFalsely : Prop := fnDigitsValueConcatRow.holds Try.pinned (OpenSpec.ofChange fnDigitsValueConcatWrong)

/-- 'zzlaws_pkg_ledger_b1.FnSplitYearMonthExactSpec': WHATEVER THE INPUT: true; the input reads as it did. -/
def fnSplitYearMonthExactSpecSpec : ChangeSpec := { name := "fnSplitYearMonthExactSpec", fn := fun _ => fun
  | [d] => { results := [.lit (.bool true)], args := [d] }
  | _ => none }
def fnSplitYearMonthExactSpecRow : OpenClaim := { program := "qxb6602729a", sum := "d4943f5f79d9e5ba9b1102fc81d1725793e6971b52840c8531036b2b0bd6bd76", func := "example.com/hourbook/hourbook/zzlaws_pkg_ledger_b1.FnSplitYearMonthExactSpec", spec := "fnSplitYearMonthExactSpec", apart := false }
def FnSplitYearMonthExactSpecSaid : Prop := fnSplitYearMonthExactSpecRow.holds Try.pinned (OpenSpec.ofChange fnSplitYearMonthExactSpecSpec)

/-- ITS FALSE NEIGHBOUR: 'it returns false'. Refute it at one input. -/
def fnSplitYearMonthExactSpecWrong : ChangeSpec := { name := "fnSplitYearMonthExactSpec", fn := fun _ => fun
  | [d] => { results := [.lit (.bool false)], args := [d] }
  | _ => none }
def FnSplitYearMonthExactSpecWrongFalsely : Prop := fnSplitYearMonthExactSpecRow.holds Try.pinned (OpenSpec.ofChange fnSplitYearMonthExactSpecWrong)

/-- 'zzlaws_pkg_ledger_b1.FnSplitYearMonthRoundTrip': WHATEVER THE INPUT: true; the input reads as it did. -/
def fnSplitYearMonthRoundTripSpec : ChangeSpec := { name := "fnSplitYearMonthRoundTrip", fn := fun _ => fun
  | [d1, d2] => { results := [.lit (.bool true)], args := [d1, d2] }
  | _ => none }
def fnSplitYearMonthRoundTripRow : OpenClaim := { program := "qxb6602729a", sum := "d4943f5f79d9e5ba9b1102fc81d1725793e6971b52840c8531036b2b0bd6bd76", func := "example.com/hourbook/hourbook/zzlaws_pkg_ledger_b1.FnSplitYearMonthRoundTrip", spec := "fnSplitYearMonthRoundTrip", apart := false }
def FnSplitYearMonthRoundTripSaid : Prop := fnSplitYearMonthRoundTripRow.holds Try.pinned (OpenSpec.ofChange fnSplitYearMonthRoundTripSpec)

/-- ITS FALSE NEIGHBOUR: 'it returns false'. Refute it at one input. -/
def fnSplitYearMonthRoundTripWrong : ChangeSpec := { name := "fnSplitYearMonthRoundTrip", fn := fun _ => fun
  | [d1, d2] => { results := [.lit (.bool false)], args := [d1, d2] }
  | _ => none }
def FnSplitYearMonthRoundTripWrongFalsely : Prop := fnSplitYearMonthRoundTripRow.holds Try.pinned (OpenSpec.ofChange fnSplitYearMonthRoundTripWrong)

/-- 'zzlaws_pkg_ledger_b1.FnByMonthLessExactSpec': WHATEVER THE INPUT: true; the input reads as it did. -/
def fnByMonthLessExactSpecSpec : ChangeSpec := { name := "fnByMonthLessExactSpec", fn := fun _ => fun
  | [d1, d2, d3, d4, d5, d6, d7, d8] => { results := [.lit (.bool true)], args := [d1, d2, d3, d4, d5, d6, d7, d8] }
  | _ => none }
def fnByMonthLessExactSpecRow : OpenClaim := { program := "qxb6602729a", sum := "d4943f5f79d9e5ba9b1102fc81d1725793e6971b52840c8531036b2b0bd6bd76", func := "example.com/hourbook/hourbook/zzlaws_pkg_ledger_b1.FnByMonthLessExactSpec", spec := "fnByMonthLessExactSpec", apart := false }
def FnByMonthLessExactSpecSaid : Prop := fnByMonthLessExactSpecRow.holds Try.pinned (OpenSpec.ofChange fnByMonthLessExactSpecSpec)

/-- ITS FALSE NEIGHBOUR: 'it returns false'. Refute it at one input. -/
def fnByMonthLessExactSpecWrong : ChangeSpec := { name := "fnByMonthLessExactSpec", fn := fun _ => fun
  | [d1, d2, d3, d4, d5, d6, d7, d8] => { results := [.lit (.bool false)], args := [d1, d2, d3, d4, d5, d6, d7, d8] }
  | _ => none }
def FnByMonthLessExactSpecWrongFalsely : Prop := fnByMonthLessExactSpecRow.holds Try.pinned (OpenSpec.ofChange fnByMonthLessExactSpecWrong)

/-- 'zzlaws_pkg_ledger_b1.FnByMonthLessStrictOrder': WHATEVER THE INPUT: true; the input reads as it did. -/
def fnByMonthLessStrictOrderSpec : ChangeSpec := { name := "fnByMonthLessStrictOrder", fn := fun _ => fun
  | [d1, d2, d3, d4, d5, d6, d7, d8, d9] => { results := [.lit (.bool true)], args := [d1, d2, d3, d4, d5, d6, d7, d8, d9] }
  | _ => none }
def fnByMonthLessStrictOrderRow : OpenClaim := { program := "qxb6602729a", sum := "d4943f5f79d9e5ba9b1102fc81d1725793e6971b52840c8531036b2b0bd6bd76", func := "example.com/hourbook/hourbook/zzlaws_pkg_ledger_b1.FnByMonthLessStrictOrder", spec := "fnByMonthLessStrictOrder", apart := false }
def FnByMonthLessStrictOrderSaid : Prop := fnByMonthLessStrictOrderRow.holds Try.pinned (OpenSpec.ofChange fnByMonthLessStrictOrderSpec)

/-- ITS FALSE NEIGHBOUR: 'it returns false'. Refute it at one input. -/
def fnByMonthLessStrictOrderWrong : ChangeSpec := { name := "fnByMonthLessStrictOrder", fn := fun _ => fun
  | [d1, d2, d3, d4, d5, d6, d7, d8, d9] => { results := [.lit (.bool false)], args := [d1, d2, d3, d4, d5, d6, d7, d8, d9] }
  | _ => none }
def FnByMonthLessStrictOrderWrongFalsely : Prop := fnByMonthLessStrictOrderRow.holds Try.pinned (OpenSpec.ofChange fnByMonthLessStrictOrderWrong)

end Rows
end Go.Proofs.Qxb6602729a
