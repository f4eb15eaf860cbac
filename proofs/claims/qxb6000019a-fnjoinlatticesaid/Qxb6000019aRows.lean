/-
  No cell of these rows narrows 'for every input' (looked for: loops, veiled, ifaces, maps, wideKeys, modest, calm, conditions, laid).
  DERIVED. THE GIVEN ROWS OF THIS SEAT. 6 by the template 'for every input the law returns true; each argument reads behind the call as it read before'; 0 by the template 'total and deterministic' (their statements: Qxb6000019aTotals.lean).
  GIVEN WITH THE SEED: the statements are not yours to turn. If you find one false, say at which input.
  Laid BY PROGRAM, IN A SANDBOX (cutbox-rows.mjs): the forced cells as the released guide's own fill.sh prints them over the translation 457e9790e2ff8e66… (all of the seat's roots in one cut). By AI agents, Wed Nov 11 2026. No macro, syntax, notation, axiom, sorry.
-/
import Derived.Test.Qxb6000019aChecked
import GoSem.Claim
import GoSem.ClaimJoined
import GoSem.ClaimMapViews
import Derived.JoinedTies
import Derived.KernelRfl
namespace Go.Proofs.Qxb6000019a
/- THE CELL 'sum', in the pinned program and in every row, IS THE sha256 OF THE DUMP (.gsa) THAT Qxb6000019aProg.lean LOADS. Nothing in Lean hashes anything: it is a label: what it is worth is what the hold of that sum in a sandbox is worth. -/
noncomputable def Try.pinned : Pinned := { name := "qxb6000019a", sum := "457e9790e2ff8e6626b9fff8859c17f108c054d8f3684d67698889833d1521a6", checked := Try.checked }
namespace Rows
def none {H : Type} : Left H := { results := [], args := [] }

/-- 'zzlaws_internal_causal_b1.FnJoinExact': WHATEVER THE INPUT: true; the input reads as it did. -/
def fnJoinExactSpec : ChangeSpec := { name := "fnJoinExact", fn := fun _ => fun
  | [d1, d2, d3, d4] => { results := [.lit (.bool true)], args := [d1, d2, d3, d4] }
  | _ => none }
def fnJoinExactRow : OpenClaim := { program := "qxb6000019a", sum := "457e9790e2ff8e6626b9fff8859c17f108c054d8f3684d67698889833d1521a6", func := "example.com/causeway/causeway/zzlaws_internal_causal_b1.FnJoinExact", spec := "fnJoinExact", apart := false }
def FnJoinExactSaid : Prop := fnJoinExactRow.holds Try.pinned (OpenSpec.ofChange fnJoinExactSpec)

/-- ITS FALSE NEIGHBOUR: 'it returns false'. Refute it at one input. -/
def fnJoinExactWrong : ChangeSpec := { name := "fnJoinExact", fn := fun _ => fun
  | [d1, d2, d3, d4] => { results := [.lit (.bool false)], args := [d1, d2, d3, d4] }
  | _ => none }
def FnJoinExactWrongFalsely : Prop := fnJoinExactRow.holds Try.pinned (OpenSpec.ofChange fnJoinExactWrong)

/-- 'zzlaws_internal_causal_b1.FnJoinLattice': WHATEVER THE INPUT: true; the input reads as it did. -/
def fnJoinLatticeSpec : ChangeSpec := { name := "fnJoinLattice", fn := fun _ => fun
  | [d1, d2, d3, d4, d5, d6] => { results := [.lit (.bool true)], args := [d1, d2, d3, d4, d5, d6] }
  | _ => none }
def fnJoinLatticeRow : OpenClaim := { program := "qxb6000019a", sum := "457e9790e2ff8e6626b9fff8859c17f108c054d8f3684d67698889833d1521a6", func := "example.com/causeway/causeway/zzlaws_internal_causal_b1.FnJoinLattice", spec := "fnJoinLattice", apart := false }
def FnJoinLatticeSaid : Prop := fnJoinLatticeRow.holds Try.pinned (OpenSpec.ofChange fnJoinLatticeSpec)

/-- ITS FALSE NEIGHBOUR: 'it returns false'. Refute it at one input. -/
def fnJoinLatticeWrong : ChangeSpec := { name := "fnJoinLattice", fn := fun _ => fun
  | [d1, d2, d3, d4, d5, d6] => { results := [.lit (.bool false)], args := [d1, d2, d3, d4, d5, d6] }
  | _ => none }
def FnJoinLatticeWrongFalsely : Prop := fnJoinLatticeRow.holds Try.pinned (OpenSpec.ofChange fnJoinLatticeWrong)

/-- 'zzlaws_internal_causal_b1.FnMeetExact': WHATEVER THE INPUT: true; the input reads as it did. -/
def fnMeetExactSpec : ChangeSpec := { name := "fnMeetExact", fn := fun _ => fun
  | [d1, d2, d3, d4] => { results := [.lit (.bool true)], args := [d1, d2, d3, d4] }
  | _ => none }
def fnMeetExactRow : OpenClaim := { program := "qxb6000019a", sum := "457e9790e2ff8e6626b9fff8859c17f108c054d8f3684d67698889833d1521a6", func := "example.com/causeway/causeway/zzlaws_internal_causal_b1.FnMeetExact", spec := "fnMeetExact", apart := false }
def FnMeetExactSaid : Prop := fnMeetExactRow.holds Try.pinned (OpenSpec.ofChange fnMeetExactSpec)

/-- ITS FALSE NEIGHBOUR: 'it returns false'. Refute it at one input. -/
def fnMeetExactWrong : ChangeSpec := { name := "fnMeetExact", fn := fun _ => fun
  | [d1, d2, d3, d4] => { results := [.lit (.bool false)], args := [d1, d2, d3, d4] }
  | _ => none }
def FnMeetExactWrongFalsely : Prop := fnMeetExactRow.holds Try.pinned (OpenSpec.ofChange fnMeetExactWrong)

/-- 'zzlaws_internal_causal_b1.FnMeetLattice': WHATEVER THE INPUT: true; the input reads as it did. -/
def fnMeetLatticeSpec : ChangeSpec := { name := "fnMeetLattice", fn := fun _ => fun
  | [d1, d2, d3, d4, d5, d6] => { results := [.lit (.bool true)], args := [d1, d2, d3, d4, d5, d6] }
  | _ => none }
def fnMeetLatticeRow : OpenClaim := { program := "qxb6000019a", sum := "457e9790e2ff8e6626b9fff8859c17f108c054d8f3684d67698889833d1521a6", func := "example.com/causeway/causeway/zzlaws_internal_causal_b1.FnMeetLattice", spec := "fnMeetLattice", apart := false }
def FnMeetLatticeSaid : Prop := fnMeetLatticeRow.holds Try.pinned (OpenSpec.ofChange fnMeetLatticeSpec)

/-- ITS FALSE NEIGHBOUR: 'it returns false'. Refute it at one input. -/
def fnMeetLatticeWrong : ChangeSpec := { name := "fnMeetLattice", fn := fun _ => fun
  | [d1, d2, d3, d4, d5, d6] => { results := [.lit (.bool false)], args := [d1, d2, d3, d4, d5, d6] }
  | _ => none }
def FnMeetLatticeWrongFalsely : Prop := fnMeetLatticeRow.holds Try.pinned (OpenSpec.ofChange fnMeetLatticeWrong)

/-- 'zzlaws_internal_causal_b1.FnFollowsExact': WHATEVER THE INPUT: true; the input reads as it did. -/
def fnFollowsExactSpec : ChangeSpec := { name := "fnFollowsExact", fn := fun _ => fun
  | [d1, d2, d3] => { results := [.lit (.bool true)], args := [d1, d2, d3] }
  | _ => none }
def fnFollowsExactRow : OpenClaim := { program := "qxb6000019a", sum := "457e9790e2ff8e6626b9fff8859c17f108c054d8f3684d67698889833d1521a6", func := "example.com/causeway/causeway/zzlaws_internal_causal_b1.FnFollowsExact", spec := "fnFollowsExact", inPlace := ["internal/bytealg.IndexByteString", "internal/bytealg.IndexString"], named := ["internal/bytealg.MaxLen"], apart := false }
def FnFollowsExactSaid : Prop := fnFollowsExactRow.holds Try.pinned (OpenSpec.ofChange fnFollowsExactSpec)

/-- ITS FALSE NEIGHBOUR: 'it returns false'. Refute it at one input. -/
def fnFollowsExactWrong : ChangeSpec := { name := "fnFollowsExact", fn := fun _ => fun
  | [d1, d2, d3] => { results := [.lit (.bool false)], args := [d1, d2, d3] }
  | _ => none }
def FnFollowsExactWrongFalsely : Prop := fnFollowsExactRow.holds Try.pinned (OpenSpec.ofChange fnFollowsExactWrong)

/-- 'zzlaws_internal_causal_b1.FnFollowsCoveredIdempotent': WHATEVER THE INPUT: true; the input reads as it did. -/
def fnFollowsCoveredIdempotentSpec : ChangeSpec := { name := "fnFollowsCoveredIdempotent", fn := fun _ => fun
  | [d1, d2, d3] => { results := [.lit (.bool true)], args := [d1, d2, d3] }
  | _ => none }
def fnFollowsCoveredIdempotentRow : OpenClaim := { program := "qxb6000019a", sum := "457e9790e2ff8e6626b9fff8859c17f108c054d8f3684d67698889833d1521a6", func := "example.com/causeway/causeway/zzlaws_internal_causal_b1.FnFollowsCoveredIdempotent", spec := "fnFollowsCoveredIdempotent", inPlace := ["internal/bytealg.IndexByteString", "internal/bytealg.IndexString"], named := ["internal/bytealg.MaxLen"], apart := false }
def FnFollowsCoveredIdempotentSaid : Prop := fnFollowsCoveredIdempotentRow.holds Try.pinned (OpenSpec.ofChange fnFollowsCoveredIdempotentSpec)

/-- ITS FALSE NEIGHBOUR: 'it returns false'. Refute it at one input. -/
def fnFollowsCoveredIdempotentWrong : ChangeSpec := { name := "fnFollowsCoveredIdempotent", fn := fun _ => fun
  | [d1, d2, d3] => { results := [.lit (.bool false)], args := [d1, d2, d3] }
  | _ => none }
def FnFollowsCoveredIdempotentWrongFalsely : Prop := fnFollowsCoveredIdempotentRow.holds Try.pinned (OpenSpec.ofChange fnFollowsCoveredIdempotentWrong)

end Rows
end Go.Proofs.Qxb6000019a
