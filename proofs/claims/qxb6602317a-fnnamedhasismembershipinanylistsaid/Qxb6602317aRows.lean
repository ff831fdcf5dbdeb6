/-
  No cell of these rows narrows 'for every input' (looked for: loops, veiled, ifaces, maps, wideKeys, modest, calm, conditions, laid).
  DERIVED. THE GIVEN ROWS OF THIS SEAT. 4 by the template 'for every input the law returns true; each argument reads behind the call as it read before'; 0 by the template 'total and deterministic' (their statements: Qxb6602317aTotals.lean).
  GIVEN WITH THE SEED: the statements are not yours to turn. If you find one false, say at which input.
  Laid BY PROGRAM, IN A SANDBOX (cutbox-rows.mjs): the forced cells as the released guide's own fill.sh prints them over the translation be8405c51710c9ca… (all of the seat's roots in one cut). By AI agents, Wed Nov 11 2026. No macro, syntax, notation, axiom, sorry.
-/
import Derived.Test.Qxb6602317aChecked
import GoSem.Claim
import GoSem.ClaimJoined
import GoSem.ClaimMapViews
import Derived.JoinedTies
import Derived.KernelRfl
namespace Go.Proofs.Qxb6602317a
/- THE CELL 'sum', in the pinned program and in every row, IS THE sha256 OF THE DUMP (.gsa) THAT Qxb6602317aProg.lean LOADS. Nothing in Lean hashes anything: it is a label: what it is worth is what the hold of that sum in a sandbox is worth. -/
noncomputable def Try.pinned : Pinned := { name := "qxb6602317a", sum := "be8405c51710c9ca9843719ac5f6e1a4384751e761730f1ddd16ff51c40b1325", checked := Try.checked }
namespace Rows
def none {H : Type} : Left H := { results := [], args := [] }

/-- 'zzlaws_internal_node_b1.FnNamedHasIsMembershipInAnyList': WHATEVER THE INPUT: true; the input reads as it did. -/
def fnNamedHasIsMembershipInAnyListSpec : ChangeSpec := { name := "fnNamedHasIsMembershipInAnyList", fn := fun _ => fun
  | [d1, d2, d3, d4] => { results := [.lit (.bool true)], args := [d1, d2, d3, d4] }
  | _ => none }
def fnNamedHasIsMembershipInAnyListRow : OpenClaim := { program := "qxb6602317a", sum := "be8405c51710c9ca9843719ac5f6e1a4384751e761730f1ddd16ff51c40b1325", func := "example.com/quorumsmith/quorumsmith/zzlaws_internal_node_b1.FnNamedHasIsMembershipInAnyList", spec := "fnNamedHasIsMembershipInAnyList", apart := false }
def FnNamedHasIsMembershipInAnyListSaid : Prop := fnNamedHasIsMembershipInAnyListRow.holds Try.pinned (OpenSpec.ofChange fnNamedHasIsMembershipInAnyListSpec)

/-- ITS FALSE NEIGHBOUR: 'it returns false'. Refute it at one input. -/
def fnNamedHasIsMembershipInAnyListWrong : ChangeSpec := { name := "fnNamedHasIsMembershipInAnyList", fn := fun _ => fun
  | [d1, d2, d3, d4] => { results := [.lit (.bool false)], args := [d1, d2, d3, d4] }
  | _ => none }
def FnNamedHasIsMembershipInAnyListWrongFalsely : Prop := fnNamedHasIsMembershipInAnyListRow.holds Try.pinned (OpenSpec.ofChange fnNamedHasIsMembershipInAnyListWrong)

/-- 'zzlaws_internal_node_b1.FnNamedHasOfAnAddedRangeIsTheUnion': WHATEVER THE INPUT: true; the input reads as it did. -/
def fnNamedHasOfAnAddedRangeIsTheUnionSpec : ChangeSpec := { name := "fnNamedHasOfAnAddedRangeIsTheUnion", fn := fun _ => fun
  | [d1, d2, d3, d4, d5] => { results := [.lit (.bool true)], args := [d1, d2, d3, d4, d5] }
  | _ => none }
def fnNamedHasOfAnAddedRangeIsTheUnionRow : OpenClaim := { program := "qxb6602317a", sum := "be8405c51710c9ca9843719ac5f6e1a4384751e761730f1ddd16ff51c40b1325", func := "example.com/quorumsmith/quorumsmith/zzlaws_internal_node_b1.FnNamedHasOfAnAddedRangeIsTheUnion", spec := "fnNamedHasOfAnAddedRangeIsTheUnion", apart := false }
def FnNamedHasOfAnAddedRangeIsTheUnionSaid : Prop := fnNamedHasOfAnAddedRangeIsTheUnionRow.holds Try.pinned (OpenSpec.ofChange fnNamedHasOfAnAddedRangeIsTheUnionSpec)

/-- ITS FALSE NEIGHBOUR: 'it returns false'. Refute it at one input. -/
def fnNamedHasOfAnAddedRangeIsTheUnionWrong : ChangeSpec := { name := "fnNamedHasOfAnAddedRangeIsTheUnion", fn := fun _ => fun
  | [d1, d2, d3, d4, d5] => { results := [.lit (.bool false)], args := [d1, d2, d3, d4, d5] }
  | _ => none }
def FnNamedHasOfAnAddedRangeIsTheUnionWrongFalsely : Prop := fnNamedHasOfAnAddedRangeIsTheUnionRow.holds Try.pinned (OpenSpec.ofChange fnNamedHasOfAnAddedRangeIsTheUnionWrong)

/-- 'zzlaws_internal_node_b1.FnNamedHasSeesTheKeylessRespondersAsOneMoreRange': WHATEVER THE INPUT: true; the input reads as it did. -/
def fnNamedHasSeesTheKeylessRespondersAsOneMoreRangeSpec : ChangeSpec := { name := "fnNamedHasSeesTheKeylessRespondersAsOneMoreRange", fn := fun _ => fun
  | [d1, d2, d3, d4, d5] => { results := [.lit (.bool true)], args := [d1, d2, d3, d4, d5] }
  | _ => none }
def fnNamedHasSeesTheKeylessRespondersAsOneMoreRangeRow : OpenClaim := { program := "qxb6602317a", sum := "be8405c51710c9ca9843719ac5f6e1a4384751e761730f1ddd16ff51c40b1325", func := "example.com/quorumsmith/quorumsmith/zzlaws_internal_node_b1.FnNamedHasSeesTheKeylessRespondersAsOneMoreRange", spec := "fnNamedHasSeesTheKeylessRespondersAsOneMoreRange", apart := false }
def FnNamedHasSeesTheKeylessRespondersAsOneMoreRangeSaid : Prop := fnNamedHasSeesTheKeylessRespondersAsOneMoreRangeRow.holds Try.pinned (OpenSpec.ofChange fnNamedHasSeesTheKeylessRespondersAsOneMoreRangeSpec)

/-- ITS FALSE NEIGHBOUR: 'it returns false'. Refute it at one input. -/
def fnNamedHasSeesTheKeylessRespondersAsOneMoreRangeWrong : ChangeSpec := { name := "fnNamedHasSeesTheKeylessRespondersAsOneMoreRange", fn := fun _ => fun
  | [d1, d2, d3, d4, d5] => { results := [.lit (.bool false)], args := [d1, d2, d3, d4, d5] }
  | _ => none }
def FnNamedHasSeesTheKeylessRespondersAsOneMoreRangeWrongFalsely : Prop := fnNamedHasSeesTheKeylessRespondersAsOneMoreRangeRow.holds Try.pinned (OpenSpec.ofChange fnNamedHasSeesTheKeylessRespondersAsOneMoreRangeWrong)

/-- 'zzlaws_internal_node_b1.FnWeightOfTwoCommandsJoinedLiesBetweenTheirMaxAndSum': WHATEVER THE INPUT: true; the input reads as it did. -/
def fnWeightOfTwoCommandsJoinedLiesBetweenTheirMaxAndSumSpec : ChangeSpec := { name := "fnWeightOfTwoCommandsJoinedLiesBetweenTheirMaxAndSum", fn := fun _ => fun
  | [d1, d2] => { results := [.lit (.bool true)], args := [d1, d2] }
  | _ => none }
def fnWeightOfTwoCommandsJoinedLiesBetweenTheirMaxAndSumRow : OpenClaim := { program := "qxb6602317a", sum := "be8405c51710c9ca9843719ac5f6e1a4384751e761730f1ddd16ff51c40b1325", func := "example.com/quorumsmith/quorumsmith/zzlaws_internal_node_b1.FnWeightOfTwoCommandsJoinedLiesBetweenTheirMaxAndSum", spec := "fnWeightOfTwoCommandsJoinedLiesBetweenTheirMaxAndSum", apart := false }
def FnWeightOfTwoCommandsJoinedLiesBetweenTheirMaxAndSumSaid : Prop := fnWeightOfTwoCommandsJoinedLiesBetweenTheirMaxAndSumRow.holds Try.pinned (OpenSpec.ofChange fnWeightOfTwoCommandsJoinedLiesBetweenTheirMaxAndSumSpec)

/-- ITS FALSE NEIGHBOUR: 'it returns false'. Refute it at one input. -/
def fnWeightOfTwoCommandsJoinedLiesBetweenTheirMaxAndSumWrong : ChangeSpec := { name := "fnWeightOfTwoCommandsJoinedLiesBetweenTheirMaxAndSum", fn := fun _ => fun
  | [d1, d2] => { results := [.lit (.bool false)], args := [d1, d2] }
  | _ => none }
def FnWeightOfTwoCommandsJoinedLiesBetweenTheirMaxAndSumWrongFalsely : Prop := fnWeightOfTwoCommandsJoinedLiesBetweenTheirMaxAndSumRow.holds Try.pinned (OpenSpec.ofChange fnWeightOfTwoCommandsJoinedLiesBetweenTheirMaxAndSumWrong)

end Rows
end Go.Proofs.Qxb6602317a
