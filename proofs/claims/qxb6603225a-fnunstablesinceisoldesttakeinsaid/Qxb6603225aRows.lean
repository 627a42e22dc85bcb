/-
  No cell of these rows narrows 'for every input' (looked for: loops, veiled, ifaces, maps, wideKeys, modest, calm, conditions, laid).
  DERIVED. THE GIVEN ROWS OF THIS SEAT. 6 by the template 'for every input the law returns true; each argument reads behind the call as it read before'; 0 by the template 'total and deterministic' (their statements: Qxb6603225aTotals.lean).
  GIVEN WITH THE SEED: the statements are not yours to turn. If you find one false, say at which input.
  Laid BY PROGRAM, IN A SANDBOX (cutbox-rows.mjs): the forced cells as the released guide's own fill.sh prints them over the translation f8da2ebd79d75fd2… (all of the seat's roots in one cut). By AI agents, Wed Nov 11 2026. No macro, syntax, notation, axiom, sorry.
-/
import Derived.Test.Qxb6603225aChecked
import GoSem.Claim
import GoSem.ClaimJoined
import GoSem.ClaimMapViews
import Derived.JoinedTies
import Derived.KernelRfl
namespace Go.Proofs.Qxb6603225a
/- THE CELL 'sum', in the pinned program and in every row, IS THE sha256 OF THE DUMP (.gsa) THAT Qxb6603225aProg.lean LOADS. Nothing in Lean hashes anything: it is a label: what it is worth is what the hold of that sum in a sandbox is worth. -/
noncomputable def Try.pinned : Pinned := { name := "qxb6603225a", sum := "f8da2ebd79d75fd22a458d23dc0c8377bde53b67dba9f17af411870194fad920", checked := Try.checked }
namespace Rows
def none {H : Type} : Left H := { results := [], args := [] }

/-- 'zzlaws_root_b1.FnJoinIDsIsSortedMaxUnion': WHATEVER THE INPUT: true; the input reads as it did. -/
def fnJoinIDsIsSortedMaxUnionSpec : ChangeSpec := { name := "fnJoinIDsIsSortedMaxUnion", fn := fun _ => fun
  | [d1, d2] => { results := [.lit (.bool true)], args := [d1, d2] }
  | _ => none }
def fnJoinIDsIsSortedMaxUnionRow : OpenClaim := { program := "qxb6603225a", sum := "f8da2ebd79d75fd22a458d23dc0c8377bde53b67dba9f17af411870194fad920", func := "example.com/rumorline/rumorline/zzlaws_root_b1.FnJoinIDsIsSortedMaxUnion", spec := "fnJoinIDsIsSortedMaxUnion", plainKeys := false, apart := false }
def FnJoinIDsIsSortedMaxUnionSaid : Prop := fnJoinIDsIsSortedMaxUnionRow.holds Try.pinned (OpenSpec.ofChange fnJoinIDsIsSortedMaxUnionSpec)

/-- ITS FALSE NEIGHBOUR: 'it returns false'. Refute it at one input. -/
def fnJoinIDsIsSortedMaxUnionWrong : ChangeSpec := { name := "fnJoinIDsIsSortedMaxUnion", fn := fun _ => fun
  | [d1, d2] => { results := [.lit (.bool false)], args := [d1, d2] }
  | _ => none }
def FnJoinIDsIsSortedMaxUnionWrongFalsely : Prop := fnJoinIDsIsSortedMaxUnionRow.holds Try.pinned (OpenSpec.ofChange fnJoinIDsIsSortedMaxUnionWrong)

/-- 'zzlaws_root_b1.FnJoinIDsCommutesAndAssociates': WHATEVER THE INPUT: true; the input reads as it did. -/
def fnJoinIDsCommutesAndAssociatesSpec : ChangeSpec := { name := "fnJoinIDsCommutesAndAssociates", fn := fun _ => fun
  | [d1, d2, d3] => { results := [.lit (.bool true)], args := [d1, d2, d3] }
  | _ => none }
def fnJoinIDsCommutesAndAssociatesRow : OpenClaim := { program := "qxb6603225a", sum := "f8da2ebd79d75fd22a458d23dc0c8377bde53b67dba9f17af411870194fad920", func := "example.com/rumorline/rumorline/zzlaws_root_b1.FnJoinIDsCommutesAndAssociates", spec := "fnJoinIDsCommutesAndAssociates", plainKeys := false, apart := false }
def FnJoinIDsCommutesAndAssociatesSaid : Prop := fnJoinIDsCommutesAndAssociatesRow.holds Try.pinned (OpenSpec.ofChange fnJoinIDsCommutesAndAssociatesSpec)

/-- ITS FALSE NEIGHBOUR: 'it returns false'. Refute it at one input. -/
def fnJoinIDsCommutesAndAssociatesWrong : ChangeSpec := { name := "fnJoinIDsCommutesAndAssociates", fn := fun _ => fun
  | [d1, d2, d3] => { results := [.lit (.bool false)], args := [d1, d2, d3] }
  | _ => none }
def FnJoinIDsCommutesAndAssociatesWrongFalsely : Prop := fnJoinIDsCommutesAndAssociatesRow.holds Try.pinned (OpenSpec.ofChange fnJoinIDsCommutesAndAssociatesWrong)

/-- 'zzlaws_root_b1.FnJoinIDsIdempotentAndAbsorbing': WHATEVER THE INPUT: true; the input reads as it did. -/
def fnJoinIDsIdempotentAndAbsorbingSpec : ChangeSpec := { name := "fnJoinIDsIdempotentAndAbsorbing", fn := fun _ => fun
  | [d1, d2] => { results := [.lit (.bool true)], args := [d1, d2] }
  | _ => none }
def fnJoinIDsIdempotentAndAbsorbingRow : OpenClaim := { program := "qxb6603225a", sum := "f8da2ebd79d75fd22a458d23dc0c8377bde53b67dba9f17af411870194fad920", func := "example.com/rumorline/rumorline/zzlaws_root_b1.FnJoinIDsIdempotentAndAbsorbing", spec := "fnJoinIDsIdempotentAndAbsorbing", plainKeys := false, apart := false }
def FnJoinIDsIdempotentAndAbsorbingSaid : Prop := fnJoinIDsIdempotentAndAbsorbingRow.holds Try.pinned (OpenSpec.ofChange fnJoinIDsIdempotentAndAbsorbingSpec)

/-- ITS FALSE NEIGHBOUR: 'it returns false'. Refute it at one input. -/
def fnJoinIDsIdempotentAndAbsorbingWrong : ChangeSpec := { name := "fnJoinIDsIdempotentAndAbsorbing", fn := fun _ => fun
  | [d1, d2] => { results := [.lit (.bool false)], args := [d1, d2] }
  | _ => none }
def FnJoinIDsIdempotentAndAbsorbingWrongFalsely : Prop := fnJoinIDsIdempotentAndAbsorbingRow.holds Try.pinned (OpenSpec.ofChange fnJoinIDsIdempotentAndAbsorbingWrong)

/-- 'zzlaws_root_b1.FnStableGrowsAsLogShrinks': WHATEVER THE INPUT: true; the input reads as it did. -/
def fnStableGrowsAsLogShrinksSpec : ChangeSpec := { name := "fnStableGrowsAsLogShrinks", fn := fun _ => fun
  | [d1, d2] => { results := [.lit (.bool true)], args := [d1, d2] }
  | _ => none }
def fnStableGrowsAsLogShrinksRow : OpenClaim := { program := "qxb6603225a", sum := "f8da2ebd79d75fd22a458d23dc0c8377bde53b67dba9f17af411870194fad920", func := "example.com/rumorline/rumorline/zzlaws_root_b1.FnStableGrowsAsLogShrinks", spec := "fnStableGrowsAsLogShrinks", plainKeys := false, apart := false }
def FnStableGrowsAsLogShrinksSaid : Prop := fnStableGrowsAsLogShrinksRow.holds Try.pinned (OpenSpec.ofChange fnStableGrowsAsLogShrinksSpec)

/-- ITS FALSE NEIGHBOUR: 'it returns false'. Refute it at one input. -/
def fnStableGrowsAsLogShrinksWrong : ChangeSpec := { name := "fnStableGrowsAsLogShrinks", fn := fun _ => fun
  | [d1, d2] => { results := [.lit (.bool false)], args := [d1, d2] }
  | _ => none }
def FnStableGrowsAsLogShrinksWrongFalsely : Prop := fnStableGrowsAsLogShrinksRow.holds Try.pinned (OpenSpec.ofChange fnStableGrowsAsLogShrinksWrong)

/-- 'zzlaws_root_b1.FnUnstableSinceIsOldestTakeIn': WHATEVER THE INPUT: true; the input reads as it did. -/
def fnUnstableSinceIsOldestTakeInSpec : ChangeSpec := { name := "fnUnstableSinceIsOldestTakeIn", fn := fun _ => fun
  | [d1, d2] => { results := [.lit (.bool true)], args := [d1, d2] }
  | _ => none }
def fnUnstableSinceIsOldestTakeInRow : OpenClaim := { program := "qxb6603225a", sum := "f8da2ebd79d75fd22a458d23dc0c8377bde53b67dba9f17af411870194fad920", func := "example.com/rumorline/rumorline/zzlaws_root_b1.FnUnstableSinceIsOldestTakeIn", spec := "fnUnstableSinceIsOldestTakeIn", plainKeys := false, apart := false }
def FnUnstableSinceIsOldestTakeInSaid : Prop := fnUnstableSinceIsOldestTakeInRow.holds Try.pinned (OpenSpec.ofChange fnUnstableSinceIsOldestTakeInSpec)

/-- ITS FALSE NEIGHBOUR: 'it returns false'. Refute it at one input. -/
def fnUnstableSinceIsOldestTakeInWrong : ChangeSpec := { name := "fnUnstableSinceIsOldestTakeIn", fn := fun _ => fun
  | [d1, d2] => { results := [.lit (.bool false)], args := [d1, d2] }
  | _ => none }
def FnUnstableSinceIsOldestTakeInWrongFalsely : Prop := fnUnstableSinceIsOldestTakeInRow.holds Try.pinned (OpenSpec.ofChange fnUnstableSinceIsOldestTakeInWrong)

/-- 'zzlaws_root_b1.FnUnstableSinceNeverFallsAsLogShrinks': WHATEVER THE INPUT: true; the input reads as it did. -/
def fnUnstableSinceNeverFallsAsLogShrinksSpec : ChangeSpec := { name := "fnUnstableSinceNeverFallsAsLogShrinks", fn := fun _ => fun
  | [d1, d2] => { results := [.lit (.bool true)], args := [d1, d2] }
  | _ => none }
def fnUnstableSinceNeverFallsAsLogShrinksRow : OpenClaim := { program := "qxb6603225a", sum := "f8da2ebd79d75fd22a458d23dc0c8377bde53b67dba9f17af411870194fad920", func := "example.com/rumorline/rumorline/zzlaws_root_b1.FnUnstableSinceNeverFallsAsLogShrinks", spec := "fnUnstableSinceNeverFallsAsLogShrinks", plainKeys := false, apart := false }
def FnUnstableSinceNeverFallsAsLogShrinksSaid : Prop := fnUnstableSinceNeverFallsAsLogShrinksRow.holds Try.pinned (OpenSpec.ofChange fnUnstableSinceNeverFallsAsLogShrinksSpec)

/-- ITS FALSE NEIGHBOUR: 'it returns false'. Refute it at one input. -/
def fnUnstableSinceNeverFallsAsLogShrinksWrong : ChangeSpec := { name := "fnUnstableSinceNeverFallsAsLogShrinks", fn := fun _ => fun
  | [d1, d2] => { results := [.lit (.bool false)], args := [d1, d2] }
  | _ => none }
def FnUnstableSinceNeverFallsAsLogShrinksWrongFalsely : Prop := fnUnstableSinceNeverFallsAsLogShrinksRow.holds Try.pinned (OpenSpec.ofChange fnUnstableSinceNeverFallsAsLogShrinksWrong)

end Rows
end Go.Proofs.Qxb6603225a
