/-
  No cell of these rows narrows 'for every input' (looked for: loops, veiled, ifaces, maps, wideKeys, modest, calm, conditions, laid).
  DERIVED. THE GIVEN ROWS OF THIS SEAT. 8 by the template 'for every input the law returns true; each argument reads behind the call as it read before'; 0 by the template 'total and deterministic' (their statements: Qxb6000458aTotals.lean).
  GIVEN WITH THE SEED: the statements are not yours to turn. If you find one false, say at which input.
  Laid BY PROGRAM, IN A SANDBOX (cutbox-rows.mjs): the forced cells as the released guide's own fill.sh prints them over the translation 7cf3aadff2b07852… (all of the seat's roots in one cut). By AI agents, Wed Nov 11 2026. No macro, syntax, notation, axiom, sorry.
-/
import Derived.Test.Qxb6000458aChecked
import GoSem.Claim
import GoSem.ClaimJoined
import GoSem.ClaimMapViews
import Derived.JoinedTies
import Derived.KernelRfl
namespace Go.Proofs.Qxb6000458a
/- THE CELL 'sum', in the pinned program and in every row, IS THE sha256 OF THE DUMP (.gsa) THAT Qxb6000458aProg.lean LOADS. Nothing in Lean hashes anything: it is a label: what it is worth is what the hold of that sum in a sandbox is worth. -/
noncomputable def Try.pinned : Pinned := { name := "qxb6000458a", sum := "7cf3aadff2b0785240d7ff5f71a0523872a0ab77076619bfdc3d663dd22c4001", checked := Try.checked }
namespace Rows
def none {H : Type} : Left H := { results := [], args := [] }

/-- 'zzlaws_internal_policycsv_b1.FnWithinMaxLinksMatchesShortestWays': WHATEVER THE INPUT: true; the input reads as it did. -/
def fnWithinMaxLinksMatchesShortestWaysSpec : ChangeSpec := { name := "fnWithinMaxLinksMatchesShortestWays", fn := fun _ => fun
  | [d1, d2] => { results := [.lit (.bool true)], args := [d1, d2] }
  | _ => none }
def fnWithinMaxLinksMatchesShortestWaysRow : OpenClaim := { program := "qxb6000458a", sum := "7cf3aadff2b0785240d7ff5f71a0523872a0ab77076619bfdc3d663dd22c4001", func := "example.com/role-ledger/role-ledger/zzlaws_internal_policycsv_b1.FnWithinMaxLinksMatchesShortestWays", spec := "fnWithinMaxLinksMatchesShortestWays", plainKeys := false, apart := false }
def FnWithinMaxLinksMatchesShortestWaysSaid : Prop := fnWithinMaxLinksMatchesShortestWaysRow.holds Try.pinned (OpenSpec.ofChange fnWithinMaxLinksMatchesShortestWaysSpec)

/-- ITS FALSE NEIGHBOUR: 'it returns false'. Refute it at one input. -/
def fnWithinMaxLinksMatchesShortestWaysWrong : ChangeSpec := { name := "fnWithinMaxLinksMatchesShortestWays", fn := fun _ => fun
  | [d1, d2] => { results := [.lit (.bool false)], args := [d1, d2] }
  | _ => none }
def FnWithinMaxLinksMatchesShortestWaysWrongFalsely : Prop := fnWithinMaxLinksMatchesShortestWaysRow.holds Try.pinned (OpenSpec.ofChange fnWithinMaxLinksMatchesShortestWaysWrong)

/-- 'zzlaws_internal_policycsv_b1.FnWithinMaxLinksGrowsWithALine': WHATEVER THE INPUT: true; the input reads as it did. -/
def fnWithinMaxLinksGrowsWithALineSpec : ChangeSpec := { name := "fnWithinMaxLinksGrowsWithALine", fn := fun _ => fun
  | [d1, d2, d3] => { results := [.lit (.bool true)], args := [d1, d2, d3] }
  | _ => none }
def fnWithinMaxLinksGrowsWithALineRow : OpenClaim := { program := "qxb6000458a", sum := "7cf3aadff2b0785240d7ff5f71a0523872a0ab77076619bfdc3d663dd22c4001", func := "example.com/role-ledger/role-ledger/zzlaws_internal_policycsv_b1.FnWithinMaxLinksGrowsWithALine", spec := "fnWithinMaxLinksGrowsWithALine", plainKeys := false, apart := false }
def FnWithinMaxLinksGrowsWithALineSaid : Prop := fnWithinMaxLinksGrowsWithALineRow.holds Try.pinned (OpenSpec.ofChange fnWithinMaxLinksGrowsWithALineSpec)

/-- ITS FALSE NEIGHBOUR: 'it returns false'. Refute it at one input. -/
def fnWithinMaxLinksGrowsWithALineWrong : ChangeSpec := { name := "fnWithinMaxLinksGrowsWithALine", fn := fun _ => fun
  | [d1, d2, d3] => { results := [.lit (.bool false)], args := [d1, d2, d3] }
  | _ => none }
def FnWithinMaxLinksGrowsWithALineWrongFalsely : Prop := fnWithinMaxLinksGrowsWithALineRow.holds Try.pinned (OpenSpec.ofChange fnWithinMaxLinksGrowsWithALineWrong)

/-- 'zzlaws_internal_policycsv_b1.FnWithinMaxLinksFarthestNeedsALongerWay': WHATEVER THE INPUT: true; the input reads as it did. -/
def fnWithinMaxLinksFarthestNeedsALongerWaySpec : ChangeSpec := { name := "fnWithinMaxLinksFarthestNeedsALongerWay", fn := fun _ => fun
  | [d1, d2] => { results := [.lit (.bool true)], args := [d1, d2] }
  | _ => none }
def fnWithinMaxLinksFarthestNeedsALongerWayRow : OpenClaim := { program := "qxb6000458a", sum := "7cf3aadff2b0785240d7ff5f71a0523872a0ab77076619bfdc3d663dd22c4001", func := "example.com/role-ledger/role-ledger/zzlaws_internal_policycsv_b1.FnWithinMaxLinksFarthestNeedsALongerWay", spec := "fnWithinMaxLinksFarthestNeedsALongerWay", recurses := true, plainKeys := false, apart := false }
def FnWithinMaxLinksFarthestNeedsALongerWaySaid : Prop := fnWithinMaxLinksFarthestNeedsALongerWayRow.holds Try.pinned (OpenSpec.ofChange fnWithinMaxLinksFarthestNeedsALongerWaySpec)

/-- ITS FALSE NEIGHBOUR: 'it returns false'. Refute it at one input. -/
def fnWithinMaxLinksFarthestNeedsALongerWayWrong : ChangeSpec := { name := "fnWithinMaxLinksFarthestNeedsALongerWay", fn := fun _ => fun
  | [d1, d2] => { results := [.lit (.bool false)], args := [d1, d2] }
  | _ => none }
def FnWithinMaxLinksFarthestNeedsALongerWayWrongFalsely : Prop := fnWithinMaxLinksFarthestNeedsALongerWayRow.holds Try.pinned (OpenSpec.ofChange fnWithinMaxLinksFarthestNeedsALongerWayWrong)

/-- 'zzlaws_internal_policycsv_b1.FnLongerWayMatchesWalks': WHATEVER THE INPUT: true; the input reads as it did. -/
def fnLongerWayMatchesWalksSpec : ChangeSpec := { name := "fnLongerWayMatchesWalks", fn := fun _ => fun
  | [d1, d2, d3] => { results := [.lit (.bool true)], args := [d1, d2, d3] }
  | _ => none }
def fnLongerWayMatchesWalksRow : OpenClaim := { program := "qxb6000458a", sum := "7cf3aadff2b0785240d7ff5f71a0523872a0ab77076619bfdc3d663dd22c4001", func := "example.com/role-ledger/role-ledger/zzlaws_internal_policycsv_b1.FnLongerWayMatchesWalks", spec := "fnLongerWayMatchesWalks", recurses := true, plainKeys := false, apart := false }
def FnLongerWayMatchesWalksSaid : Prop := fnLongerWayMatchesWalksRow.holds Try.pinned (OpenSpec.ofChange fnLongerWayMatchesWalksSpec)

/-- ITS FALSE NEIGHBOUR: 'it returns false'. Refute it at one input. -/
def fnLongerWayMatchesWalksWrong : ChangeSpec := { name := "fnLongerWayMatchesWalks", fn := fun _ => fun
  | [d1, d2, d3] => { results := [.lit (.bool false)], args := [d1, d2, d3] }
  | _ => none }
def FnLongerWayMatchesWalksWrongFalsely : Prop := fnLongerWayMatchesWalksRow.holds Try.pinned (OpenSpec.ofChange fnLongerWayMatchesWalksWrong)

/-- 'zzlaws_internal_policycsv_b1.FnLongerWayKeptAnswersAgree': WHATEVER THE INPUT: true; the input reads as it did. -/
def fnLongerWayKeptAnswersAgreeSpec : ChangeSpec := { name := "fnLongerWayKeptAnswersAgree", fn := fun _ => fun
  | [d1, d2, d3, d4, d5] => { results := [.lit (.bool true)], args := [d1, d2, d3, d4, d5] }
  | _ => none }
def fnLongerWayKeptAnswersAgreeRow : OpenClaim := { program := "qxb6000458a", sum := "7cf3aadff2b0785240d7ff5f71a0523872a0ab77076619bfdc3d663dd22c4001", func := "example.com/role-ledger/role-ledger/zzlaws_internal_policycsv_b1.FnLongerWayKeptAnswersAgree", spec := "fnLongerWayKeptAnswersAgree", recurses := true, plainKeys := false, apart := false }
def FnLongerWayKeptAnswersAgreeSaid : Prop := fnLongerWayKeptAnswersAgreeRow.holds Try.pinned (OpenSpec.ofChange fnLongerWayKeptAnswersAgreeSpec)

/-- ITS FALSE NEIGHBOUR: 'it returns false'. Refute it at one input. -/
def fnLongerWayKeptAnswersAgreeWrong : ChangeSpec := { name := "fnLongerWayKeptAnswersAgree", fn := fun _ => fun
  | [d1, d2, d3, d4, d5] => { results := [.lit (.bool false)], args := [d1, d2, d3, d4, d5] }
  | _ => none }
def FnLongerWayKeptAnswersAgreeWrongFalsely : Prop := fnLongerWayKeptAnswersAgreeRow.holds Try.pinned (OpenSpec.ofChange fnLongerWayKeptAnswersAgreeWrong)

/-- 'zzlaws_internal_policycsv_b1.FnLongerWayFewerLinks': WHATEVER THE INPUT: true; the input reads as it did. -/
def fnLongerWayFewerLinksSpec : ChangeSpec := { name := "fnLongerWayFewerLinks", fn := fun _ => fun
  | [d1, d2, d3] => { results := [.lit (.bool true)], args := [d1, d2, d3] }
  | _ => none }
def fnLongerWayFewerLinksRow : OpenClaim := { program := "qxb6000458a", sum := "7cf3aadff2b0785240d7ff5f71a0523872a0ab77076619bfdc3d663dd22c4001", func := "example.com/role-ledger/role-ledger/zzlaws_internal_policycsv_b1.FnLongerWayFewerLinks", spec := "fnLongerWayFewerLinks", recurses := true, plainKeys := false, apart := false }
def FnLongerWayFewerLinksSaid : Prop := fnLongerWayFewerLinksRow.holds Try.pinned (OpenSpec.ofChange fnLongerWayFewerLinksSpec)

/-- ITS FALSE NEIGHBOUR: 'it returns false'. Refute it at one input. -/
def fnLongerWayFewerLinksWrong : ChangeSpec := { name := "fnLongerWayFewerLinks", fn := fun _ => fun
  | [d1, d2, d3] => { results := [.lit (.bool false)], args := [d1, d2, d3] }
  | _ => none }
def FnLongerWayFewerLinksWrongFalsely : Prop := fnLongerWayFewerLinksRow.holds Try.pinned (OpenSpec.ofChange fnLongerWayFewerLinksWrong)

/-- 'zzlaws_internal_policycsv_b1.FnAddGrantKeepsFirstOfEach': WHATEVER THE INPUT: true; the input reads as it did. -/
def fnAddGrantKeepsFirstOfEachSpec : ChangeSpec := { name := "fnAddGrantKeepsFirstOfEach", fn := fun _ => fun
  | [d] => { results := [.lit (.bool true)], args := [d] }
  | _ => none }
def fnAddGrantKeepsFirstOfEachRow : OpenClaim := { program := "qxb6000458a", sum := "7cf3aadff2b0785240d7ff5f71a0523872a0ab77076619bfdc3d663dd22c4001", func := "example.com/role-ledger/role-ledger/zzlaws_internal_policycsv_b1.FnAddGrantKeepsFirstOfEach", spec := "fnAddGrantKeepsFirstOfEach", plainKeys := false, apart := false }
def FnAddGrantKeepsFirstOfEachSaid : Prop := fnAddGrantKeepsFirstOfEachRow.holds Try.pinned (OpenSpec.ofChange fnAddGrantKeepsFirstOfEachSpec)

/-- ITS FALSE NEIGHBOUR: 'it returns false'. Refute it at one input. -/
def fnAddGrantKeepsFirstOfEachWrong : ChangeSpec := { name := "fnAddGrantKeepsFirstOfEach", fn := fun _ => fun
  | [d] => { results := [.lit (.bool false)], args := [d] }
  | _ => none }
def FnAddGrantKeepsFirstOfEachWrongFalsely : Prop := fnAddGrantKeepsFirstOfEachRow.holds Try.pinned (OpenSpec.ofChange fnAddGrantKeepsFirstOfEachWrong)

/-- 'zzlaws_internal_policycsv_b1.FnAddGrantTwiceIsOnce': WHATEVER THE INPUT: true; the input reads as it did. -/
def fnAddGrantTwiceIsOnceSpec : ChangeSpec := { name := "fnAddGrantTwiceIsOnce", fn := fun _ => fun
  | [d] => { results := [.lit (.bool true)], args := [d] }
  | _ => none }
def fnAddGrantTwiceIsOnceRow : OpenClaim := { program := "qxb6000458a", sum := "7cf3aadff2b0785240d7ff5f71a0523872a0ab77076619bfdc3d663dd22c4001", func := "example.com/role-ledger/role-ledger/zzlaws_internal_policycsv_b1.FnAddGrantTwiceIsOnce", spec := "fnAddGrantTwiceIsOnce", plainKeys := false, apart := false }
def FnAddGrantTwiceIsOnceSaid : Prop := fnAddGrantTwiceIsOnceRow.holds Try.pinned (OpenSpec.ofChange fnAddGrantTwiceIsOnceSpec)

/-- ITS FALSE NEIGHBOUR: 'it returns false'. Refute it at one input. -/
def fnAddGrantTwiceIsOnceWrong : ChangeSpec := { name := "fnAddGrantTwiceIsOnce", fn := fun _ => fun
  | [d] => { results := [.lit (.bool false)], args := [d] }
  | _ => none }
def FnAddGrantTwiceIsOnceWrongFalsely : Prop := fnAddGrantTwiceIsOnceRow.holds Try.pinned (OpenSpec.ofChange fnAddGrantTwiceIsOnceWrong)

end Rows
end Go.Proofs.Qxb6000458a
