/-
  No cell of these rows narrows 'for every input' (looked for: loops, veiled, ifaces, maps, wideKeys, modest, calm, conditions, laid).
  DERIVED. THE GIVEN ROWS OF THIS SEAT. 5 by the template 'for every input the law returns true; each argument reads behind the call as it read before'; 0 by the template 'total and deterministic' (their statements: Qxb6603565aTotals.lean).
  GIVEN WITH THE SEED: the statements are not yours to turn. If you find one false, say at which input.
  Laid BY PROGRAM, IN A SANDBOX (cutbox-rows.mjs): the forced cells as the released guide's own fill.sh prints them over the translation 4772079b59fb3cb7… (all of the seat's roots in one cut). By AI agents, Wed Nov 11 2026. No macro, syntax, notation, axiom, sorry.
-/
import Derived.Test.Qxb6603565aChecked
import GoSem.Claim
import GoSem.ClaimJoined
import GoSem.ClaimMapViews
import Derived.JoinedTies
import Derived.KernelRfl
namespace Go.Proofs.Qxb6603565a
/- THE CELL 'sum', in the pinned program and in every row, IS THE sha256 OF THE DUMP (.gsa) THAT Qxb6603565aProg.lean LOADS. Nothing in Lean hashes anything: it is a label: what it is worth is what the hold of that sum in a sandbox is worth. -/
noncomputable def Try.pinned : Pinned := { name := "qxb6603565a", sum := "4772079b59fb3cb7aecd0184eb0816569ad02aff3024a5e6146eac9704a64479", checked := Try.checked }
namespace Rows
def none {H : Type} : Left H := { results := [], args := [] }

/-- 'zzlaws_pkg_groupcomm_b1.FnBallotLessIsKeyByteOrder': WHATEVER THE INPUT: true; the input reads as it did. -/
def fnBallotLessIsKeyByteOrderSpec : ChangeSpec := { name := "fnBallotLessIsKeyByteOrder", fn := fun _ => fun
  | [d1, d2, d3, d4] => { results := [.lit (.bool true)], args := [d1, d2, d3, d4] }
  | _ => none }
def fnBallotLessIsKeyByteOrderRow : OpenClaim := { program := "qxb6603565a", sum := "4772079b59fb3cb7aecd0184eb0816569ad02aff3024a5e6146eac9704a64479", func := "example.com/quorumwire/quorumwire/zzlaws_pkg_groupcomm_b1.FnBallotLessIsKeyByteOrder", spec := "fnBallotLessIsKeyByteOrder", apart := false }
def FnBallotLessIsKeyByteOrderSaid : Prop := fnBallotLessIsKeyByteOrderRow.holds Try.pinned (OpenSpec.ofChange fnBallotLessIsKeyByteOrderSpec)

/-- ITS FALSE NEIGHBOUR: 'it returns false'. Refute it at one input. -/
def fnBallotLessIsKeyByteOrderWrong : ChangeSpec := { name := "fnBallotLessIsKeyByteOrder", fn := fun _ => fun
  | [d1, d2, d3, d4] => { results := [.lit (.bool false)], args := [d1, d2, d3, d4] }
  | _ => none }
def FnBallotLessIsKeyByteOrderWrongFalsely : Prop := fnBallotLessIsKeyByteOrderRow.holds Try.pinned (OpenSpec.ofChange fnBallotLessIsKeyByteOrderWrong)

/-- 'zzlaws_pkg_groupcomm_b1.FnBallotLessIsStrictTotalOrder': WHATEVER THE INPUT: true; the input reads as it did. -/
def fnBallotLessIsStrictTotalOrderSpec : ChangeSpec := { name := "fnBallotLessIsStrictTotalOrder", fn := fun _ => fun
  | [d1, d2, d3, d4, d5, d6] => { results := [.lit (.bool true)], args := [d1, d2, d3, d4, d5, d6] }
  | _ => none }
def fnBallotLessIsStrictTotalOrderRow : OpenClaim := { program := "qxb6603565a", sum := "4772079b59fb3cb7aecd0184eb0816569ad02aff3024a5e6146eac9704a64479", func := "example.com/quorumwire/quorumwire/zzlaws_pkg_groupcomm_b1.FnBallotLessIsStrictTotalOrder", spec := "fnBallotLessIsStrictTotalOrder", apart := false }
def FnBallotLessIsStrictTotalOrderSaid : Prop := fnBallotLessIsStrictTotalOrderRow.holds Try.pinned (OpenSpec.ofChange fnBallotLessIsStrictTotalOrderSpec)

/-- ITS FALSE NEIGHBOUR: 'it returns false'. Refute it at one input. -/
def fnBallotLessIsStrictTotalOrderWrong : ChangeSpec := { name := "fnBallotLessIsStrictTotalOrder", fn := fun _ => fun
  | [d1, d2, d3, d4, d5, d6] => { results := [.lit (.bool false)], args := [d1, d2, d3, d4, d5, d6] }
  | _ => none }
def FnBallotLessIsStrictTotalOrderWrongFalsely : Prop := fnBallotLessIsStrictTotalOrderRow.holds Try.pinned (OpenSpec.ofChange fnBallotLessIsStrictTotalOrderWrong)

/-- 'zzlaws_pkg_groupcomm_b1.FnQuorumIsLeastMajority': WHATEVER THE INPUT: true; the input reads as it did. -/
def fnQuorumIsLeastMajoritySpec : ChangeSpec := { name := "fnQuorumIsLeastMajority", fn := fun _ => fun
  | [d] => { results := [.lit (.bool true)], args := [d] }
  | _ => none }
def fnQuorumIsLeastMajorityRow : OpenClaim := { program := "qxb6603565a", sum := "4772079b59fb3cb7aecd0184eb0816569ad02aff3024a5e6146eac9704a64479", func := "example.com/quorumwire/quorumwire/zzlaws_pkg_groupcomm_b1.FnQuorumIsLeastMajority", spec := "fnQuorumIsLeastMajority", apart := false }
def FnQuorumIsLeastMajoritySaid : Prop := fnQuorumIsLeastMajorityRow.holds Try.pinned (OpenSpec.ofChange fnQuorumIsLeastMajoritySpec)

/-- ITS FALSE NEIGHBOUR: 'it returns false'. Refute it at one input. -/
def fnQuorumIsLeastMajorityWrong : ChangeSpec := { name := "fnQuorumIsLeastMajority", fn := fun _ => fun
  | [d] => { results := [.lit (.bool false)], args := [d] }
  | _ => none }
def FnQuorumIsLeastMajorityWrongFalsely : Prop := fnQuorumIsLeastMajorityRow.holds Try.pinned (OpenSpec.ofChange fnQuorumIsLeastMajorityWrong)

/-- 'zzlaws_pkg_groupcomm_b1.FnQuorumGrowsByOneEveryTwoMembers': WHATEVER THE INPUT: true; the input reads as it did. -/
def fnQuorumGrowsByOneEveryTwoMembersSpec : ChangeSpec := { name := "fnQuorumGrowsByOneEveryTwoMembers", fn := fun _ => fun
  | [d1, d2] => { results := [.lit (.bool true)], args := [d1, d2] }
  | _ => none }
def fnQuorumGrowsByOneEveryTwoMembersRow : OpenClaim := { program := "qxb6603565a", sum := "4772079b59fb3cb7aecd0184eb0816569ad02aff3024a5e6146eac9704a64479", func := "example.com/quorumwire/quorumwire/zzlaws_pkg_groupcomm_b1.FnQuorumGrowsByOneEveryTwoMembers", spec := "fnQuorumGrowsByOneEveryTwoMembers", apart := false }
def FnQuorumGrowsByOneEveryTwoMembersSaid : Prop := fnQuorumGrowsByOneEveryTwoMembersRow.holds Try.pinned (OpenSpec.ofChange fnQuorumGrowsByOneEveryTwoMembersSpec)

/-- ITS FALSE NEIGHBOUR: 'it returns false'. Refute it at one input. -/
def fnQuorumGrowsByOneEveryTwoMembersWrong : ChangeSpec := { name := "fnQuorumGrowsByOneEveryTwoMembers", fn := fun _ => fun
  | [d1, d2] => { results := [.lit (.bool false)], args := [d1, d2] }
  | _ => none }
def FnQuorumGrowsByOneEveryTwoMembersWrongFalsely : Prop := fnQuorumGrowsByOneEveryTwoMembersRow.holds Try.pinned (OpenSpec.ofChange fnQuorumGrowsByOneEveryTwoMembersWrong)

/-- 'zzlaws_pkg_groupcomm_b1.FnUnorderedIsSortedWaitingAbove': WHATEVER THE INPUT: true; the input reads as it did. -/
def fnUnorderedIsSortedWaitingAboveSpec : ChangeSpec := { name := "fnUnorderedIsSortedWaitingAbove", fn := fun _ => fun
  | [d1, d2, d3, d4, d5] => { results := [.lit (.bool true)], args := [d1, d2, d3, d4, d5] }
  | _ => none }
def fnUnorderedIsSortedWaitingAboveRow : OpenClaim := { program := "qxb6603565a", sum := "4772079b59fb3cb7aecd0184eb0816569ad02aff3024a5e6146eac9704a64479", func := "example.com/quorumwire/quorumwire/zzlaws_pkg_groupcomm_b1.FnUnorderedIsSortedWaitingAbove", spec := "fnUnorderedIsSortedWaitingAbove", inPlace := ["internal/reflectlite.ValueOf", "internal/reflectlite.Swapper", "(internal/reflectlite.Value).Len"], unfollowed := true, recurses := true, apart := false }
def FnUnorderedIsSortedWaitingAboveSaid : Prop := fnUnorderedIsSortedWaitingAboveRow.holds Try.pinned (OpenSpec.ofChange fnUnorderedIsSortedWaitingAboveSpec)

/-- ITS FALSE NEIGHBOUR: 'it returns false'. Refute it at one input. -/
def fnUnorderedIsSortedWaitingAboveWrong : ChangeSpec := { name := "fnUnorderedIsSortedWaitingAbove", fn := fun _ => fun
  | [d1, d2, d3, d4, d5] => { results := [.lit (.bool false)], args := [d1, d2, d3, d4, d5] }
  | _ => none }
def FnUnorderedIsSortedWaitingAboveWrongFalsely : Prop := fnUnorderedIsSortedWaitingAboveRow.holds Try.pinned (OpenSpec.ofChange fnUnorderedIsSortedWaitingAboveWrong)

end Rows
end Go.Proofs.Qxb6603565a
