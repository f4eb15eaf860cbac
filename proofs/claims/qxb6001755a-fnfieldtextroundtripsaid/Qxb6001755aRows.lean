/-
  No cell of these rows narrows 'for every input' (looked for: loops, veiled, ifaces, maps, wideKeys, modest, calm, conditions, laid).
  DERIVED. THE GIVEN ROWS OF THIS SEAT. 6 by the template 'for every input the law returns true; each argument reads behind the call as it read before'; 0 by the template 'total and deterministic' (their statements: Qxb6001755aTotals.lean).
  GIVEN WITH THE SEED: the statements are not yours to turn. If you find one false, say at which input.
  Laid BY PROGRAM, IN A SANDBOX (cutbox-rows.mjs): the forced cells as the released guide's own fill.sh prints them over the translation 43a957e5d735ab40… (all of the seat's roots in one cut). By AI agents, Wed Nov 11 2026. No macro, syntax, notation, axiom, sorry.
-/
import Derived.Test.Qxb6001755aChecked
import GoSem.Claim
import GoSem.ClaimJoined
import GoSem.ClaimMapViews
import Derived.JoinedTies
import Derived.KernelRfl
namespace Go.Proofs.Qxb6001755a
/- THE CELL 'sum', in the pinned program and in every row, IS THE sha256 OF THE DUMP (.gsa) THAT Qxb6001755aProg.lean LOADS. Nothing in Lean hashes anything: it is a label: what it is worth is what the hold of that sum in a sandbox is worth. -/
noncomputable def Try.pinned : Pinned := { name := "qxb6001755a", sum := "43a957e5d735ab40615e3768a7a9a5c8427833a195b47dc4a5b9dc9dcd9cd134", checked := Try.checked }
namespace Rows
def none {H : Type} : Left H := { results := [], args := [] }

/-- 'zzlaws_pkg_journal_b1.FnLastDateIsGreatestOrZero': WHATEVER THE INPUT: true; the input reads as it did. -/
def fnLastDateIsGreatestOrZeroSpec : ChangeSpec := { name := "fnLastDateIsGreatestOrZero", fn := fun _ => fun
  | [d1, d2, d3] => { results := [.lit (.bool true)], args := [d1, d2, d3] }
  | _ => none }
def fnLastDateIsGreatestOrZeroRow : OpenClaim := { program := "qxb6001755a", sum := "43a957e5d735ab40615e3768a7a9a5c8427833a195b47dc4a5b9dc9dcd9cd134", func := "example.com/vestledger/vestledger/zzlaws_pkg_journal_b1.FnLastDateIsGreatestOrZero", spec := "fnLastDateIsGreatestOrZero", apart := false }
def FnLastDateIsGreatestOrZeroSaid : Prop := fnLastDateIsGreatestOrZeroRow.holds Try.pinned (OpenSpec.ofChange fnLastDateIsGreatestOrZeroSpec)

/-- ITS FALSE NEIGHBOUR: 'it returns false'. Refute it at one input. -/
def fnLastDateIsGreatestOrZeroWrong : ChangeSpec := { name := "fnLastDateIsGreatestOrZero", fn := fun _ => fun
  | [d1, d2, d3] => { results := [.lit (.bool false)], args := [d1, d2, d3] }
  | _ => none }
def FnLastDateIsGreatestOrZeroWrongFalsely : Prop := fnLastDateIsGreatestOrZeroRow.holds Try.pinned (OpenSpec.ofChange fnLastDateIsGreatestOrZeroWrong)

/-- 'zzlaws_pkg_journal_b1.FnLastDateSplit': WHATEVER THE INPUT: true; the input reads as it did. -/
def fnLastDateSplitSpec : ChangeSpec := { name := "fnLastDateSplit", fn := fun _ => fun
  | [d1, d2, d3, d4] => { results := [.lit (.bool true)], args := [d1, d2, d3, d4] }
  | _ => none }
def fnLastDateSplitRow : OpenClaim := { program := "qxb6001755a", sum := "43a957e5d735ab40615e3768a7a9a5c8427833a195b47dc4a5b9dc9dcd9cd134", func := "example.com/vestledger/vestledger/zzlaws_pkg_journal_b1.FnLastDateSplit", spec := "fnLastDateSplit", apart := false }
def FnLastDateSplitSaid : Prop := fnLastDateSplitRow.holds Try.pinned (OpenSpec.ofChange fnLastDateSplitSpec)

/-- ITS FALSE NEIGHBOUR: 'it returns false'. Refute it at one input. -/
def fnLastDateSplitWrong : ChangeSpec := { name := "fnLastDateSplit", fn := fun _ => fun
  | [d1, d2, d3, d4] => { results := [.lit (.bool false)], args := [d1, d2, d3, d4] }
  | _ => none }
def FnLastDateSplitWrongFalsely : Prop := fnLastDateSplitRow.holds Try.pinned (OpenSpec.ofChange fnLastDateSplitWrong)

/-- 'zzlaws_pkg_journal_b1.FnLastDateReverseInvariant': WHATEVER THE INPUT: true; the input reads as it did. -/
def fnLastDateReverseInvariantSpec : ChangeSpec := { name := "fnLastDateReverseInvariant", fn := fun _ => fun
  | [d1, d2, d3] => { results := [.lit (.bool true)], args := [d1, d2, d3] }
  | _ => none }
def fnLastDateReverseInvariantRow : OpenClaim := { program := "qxb6001755a", sum := "43a957e5d735ab40615e3768a7a9a5c8427833a195b47dc4a5b9dc9dcd9cd134", func := "example.com/vestledger/vestledger/zzlaws_pkg_journal_b1.FnLastDateReverseInvariant", spec := "fnLastDateReverseInvariant", apart := false }
def FnLastDateReverseInvariantSaid : Prop := fnLastDateReverseInvariantRow.holds Try.pinned (OpenSpec.ofChange fnLastDateReverseInvariantSpec)

/-- ITS FALSE NEIGHBOUR: 'it returns false'. Refute it at one input. -/
def fnLastDateReverseInvariantWrong : ChangeSpec := { name := "fnLastDateReverseInvariant", fn := fun _ => fun
  | [d1, d2, d3] => { results := [.lit (.bool false)], args := [d1, d2, d3] }
  | _ => none }
def FnLastDateReverseInvariantWrongFalsely : Prop := fnLastDateReverseInvariantRow.holds Try.pinned (OpenSpec.ofChange fnLastDateReverseInvariantWrong)

/-- 'zzlaws_pkg_journal_b1.FnFieldTextLength': WHATEVER THE INPUT: true; the input reads as it did. -/
def fnFieldTextLengthSpec : ChangeSpec := { name := "fnFieldTextLength", fn := fun _ => fun
  | [d1, d2] => { results := [.lit (.bool true)], args := [d1, d2] }
  | _ => none }
def fnFieldTextLengthRow : OpenClaim := { program := "qxb6001755a", sum := "43a957e5d735ab40615e3768a7a9a5c8427833a195b47dc4a5b9dc9dcd9cd134", func := "example.com/vestledger/vestledger/zzlaws_pkg_journal_b1.FnFieldTextLength", spec := "fnFieldTextLength", inPlace := ["internal/abi.NoEscape", "internal/bytealg.MakeNoZero"], apart := false }
def FnFieldTextLengthSaid : Prop := fnFieldTextLengthRow.holds Try.pinned (OpenSpec.ofChange fnFieldTextLengthSpec)

/-- ITS FALSE NEIGHBOUR: 'it returns false'. Refute it at one input. -/
def fnFieldTextLengthWrong : ChangeSpec := { name := "fnFieldTextLength", fn := fun _ => fun
  | [d1, d2] => { results := [.lit (.bool false)], args := [d1, d2] }
  | _ => none }
def FnFieldTextLengthWrongFalsely : Prop := fnFieldTextLengthRow.holds Try.pinned (OpenSpec.ofChange fnFieldTextLengthWrong)

/-- 'zzlaws_pkg_journal_b1.FnFieldTextConcat': WHATEVER THE INPUT: true; the input reads as it did. -/
def fnFieldTextConcatSpec : ChangeSpec := { name := "fnFieldTextConcat", fn := fun _ => fun
  | [d1, d2, d3] => { results := [.lit (.bool true)], args := [d1, d2, d3] }
  | _ => none }
def fnFieldTextConcatRow : OpenClaim := { program := "qxb6001755a", sum := "43a957e5d735ab40615e3768a7a9a5c8427833a195b47dc4a5b9dc9dcd9cd134", func := "example.com/vestledger/vestledger/zzlaws_pkg_journal_b1.FnFieldTextConcat", spec := "fnFieldTextConcat", inPlace := ["internal/abi.NoEscape", "internal/bytealg.MakeNoZero"], apart := false }
def FnFieldTextConcatSaid : Prop := fnFieldTextConcatRow.holds Try.pinned (OpenSpec.ofChange fnFieldTextConcatSpec)

/-- ITS FALSE NEIGHBOUR: 'it returns false'. Refute it at one input. -/
def fnFieldTextConcatWrong : ChangeSpec := { name := "fnFieldTextConcat", fn := fun _ => fun
  | [d1, d2, d3] => { results := [.lit (.bool false)], args := [d1, d2, d3] }
  | _ => none }
def FnFieldTextConcatWrongFalsely : Prop := fnFieldTextConcatRow.holds Try.pinned (OpenSpec.ofChange fnFieldTextConcatWrong)

/-- 'zzlaws_pkg_journal_b1.FnFieldTextRoundTrip': WHATEVER THE INPUT: true; the input reads as it did. -/
def fnFieldTextRoundTripSpec : ChangeSpec := { name := "fnFieldTextRoundTrip", fn := fun _ => fun
  | [d1, d2] => { results := [.lit (.bool true)], args := [d1, d2] }
  | _ => none }
def fnFieldTextRoundTripRow : OpenClaim := { program := "qxb6001755a", sum := "43a957e5d735ab40615e3768a7a9a5c8427833a195b47dc4a5b9dc9dcd9cd134", func := "example.com/vestledger/vestledger/zzlaws_pkg_journal_b1.FnFieldTextRoundTrip", spec := "fnFieldTextRoundTrip", inPlace := ["internal/abi.NoEscape", "internal/bytealg.MakeNoZero"], apart := false }
def FnFieldTextRoundTripSaid : Prop := fnFieldTextRoundTripRow.holds Try.pinned (OpenSpec.ofChange fnFieldTextRoundTripSpec)

/-- ITS FALSE NEIGHBOUR: 'it returns false'. Refute it at one input. -/
def fnFieldTextRoundTripWrong : ChangeSpec := { name := "fnFieldTextRoundTrip", fn := fun _ => fun
  | [d1, d2] => { results := [.lit (.bool false)], args := [d1, d2] }
  | _ => none }
def FnFieldTextRoundTripWrongFalsely : Prop := fnFieldTextRoundTripRow.holds Try.pinned (OpenSpec.ofChange fnFieldTextRoundTripWrong)

end Rows
end Go.Proofs.Qxb6001755a
