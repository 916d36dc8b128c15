/-
  No cell of these rows narrows 'for every input' (looked for: loops, veiled, ifaces, maps, wideKeys, modest, calm, conditions, laid).
  DERIVED. THE GIVEN ROWS OF THIS SEAT. 5 by the template 'for every input the law returns true; each argument reads behind the call as it read before'; 0 by the template 'total and deterministic' (their statements: Qxb6615543aModsTotals.lean).
  GIVEN WITH THE SEED: the statements are not yours to turn. If you find one false, say at which input.
  Laid BY PROGRAM, IN A SANDBOX (cutbox-rows.mjs): the forced cells as the released guide's own fill.sh prints them over the translation 101ece68127e60d2… (all of the seat's roots in one cut). By AI agents, Wed Nov 11 2026. No macro, syntax, notation, axiom, sorry.
-/
import Derived.Test.Qxb6615543aModsChecked
import GoSem.Claim
import GoSem.ClaimJoined
import GoSem.ClaimMapViews
import Derived.JoinedTies
import Derived.KernelRfl
namespace Go.Proofs.Qxb6615543aMods
/- THE CELL 'sum', in the pinned program and in every row, IS THE sha256 OF THE DUMP (.gsa) THAT Qxb6615543aModsProg.lean LOADS. Nothing in Lean hashes anything: it is a label: what it is worth is what the hold of that sum in a sandbox is worth. -/
noncomputable def Trym.pinned : Pinned := { name := "qxb6615543amods", sum := "101ece68127e60d2fe0234969da1d967165652a015fa2a288eadd1fde356a452", checked := Trym.checked }
namespace Rows
def none {H : Type} : Left H := { results := [], args := [] }

/-- 'zzlaws_internal_rbac_b1.FnSortedCopyIgnoresOrderAndRepeats': WHATEVER THE INPUT: true; the input reads as it did. -/
def fnSortedCopyIgnoresOrderAndRepeatsSpec : ChangeSpec := { name := "fnSortedCopyIgnoresOrderAndRepeats", fn := fun _ => fun
  | [d] => { results := [.lit (.bool true)], args := [d] }
  | _ => none }
def fnSortedCopyIgnoresOrderAndRepeatsRow : OpenClaim := { program := "qxb6615543amods", sum := "101ece68127e60d2fe0234969da1d967165652a015fa2a288eadd1fde356a452", func := "example.com/vetter/vetter/zzlaws_internal_rbac_b1.FnSortedCopyIgnoresOrderAndRepeats", spec := "fnSortedCopyIgnoresOrderAndRepeats", recurses := true, make := .lifted ["publicsums"], apart := false }
def FnSortedCopyIgnoresOrderAndRepeatsSaid : Prop := fnSortedCopyIgnoresOrderAndRepeatsRow.holds Trym.pinned (OpenSpec.ofChange fnSortedCopyIgnoresOrderAndRepeatsSpec)

/-- ITS FALSE NEIGHBOUR: 'it returns false'. Refute it at one input. -/
def fnSortedCopyIgnoresOrderAndRepeatsWrong : ChangeSpec := { name := "fnSortedCopyIgnoresOrderAndRepeats", fn := fun _ => fun
  | [d] => { results := [.lit (.bool false)], args := [d] }
  | _ => none }
def FnSortedCopyIgnoresOrderAndRepeatsWrongFalsely : Prop := fnSortedCopyIgnoresOrderAndRepeatsRow.holds Trym.pinned (OpenSpec.ofChange fnSortedCopyIgnoresOrderAndRepeatsWrong)

/-- 'zzlaws_internal_rbac_b1.FnIsSeparatorReadsTheCharacterBehindAnyPrefix': WHATEVER THE INPUT: true; the input reads as it did. -/
def fnIsSeparatorReadsTheCharacterBehindAnyPrefixSpec : ChangeSpec := { name := "fnIsSeparatorReadsTheCharacterBehindAnyPrefix", fn := fun _ => fun
  | [d1, d2, d3] => { results := [.lit (.bool true)], args := [d1, d2, d3] }
  | _ => none }
def fnIsSeparatorReadsTheCharacterBehindAnyPrefixRow : OpenClaim := { program := "qxb6615543amods", sum := "101ece68127e60d2fe0234969da1d967165652a015fa2a288eadd1fde356a452", func := "example.com/vetter/vetter/zzlaws_internal_rbac_b1.FnIsSeparatorReadsTheCharacterBehindAnyPrefix", spec := "fnIsSeparatorReadsTheCharacterBehindAnyPrefix", make := .lifted ["publicsums"], apart := false }
def FnIsSeparatorReadsTheCharacterBehindAnyPrefixSaid : Prop := fnIsSeparatorReadsTheCharacterBehindAnyPrefixRow.holds Trym.pinned (OpenSpec.ofChange fnIsSeparatorReadsTheCharacterBehindAnyPrefixSpec)

/-- ITS FALSE NEIGHBOUR: 'it returns false'. Refute it at one input. -/
def fnIsSeparatorReadsTheCharacterBehindAnyPrefixWrong : ChangeSpec := { name := "fnIsSeparatorReadsTheCharacterBehindAnyPrefix", fn := fun _ => fun
  | [d1, d2, d3] => { results := [.lit (.bool false)], args := [d1, d2, d3] }
  | _ => none }
def FnIsSeparatorReadsTheCharacterBehindAnyPrefixWrongFalsely : Prop := fnIsSeparatorReadsTheCharacterBehindAnyPrefixRow.holds Trym.pinned (OpenSpec.ofChange fnIsSeparatorReadsTheCharacterBehindAnyPrefixWrong)

/-- 'zzlaws_internal_rbac_b1.FnIsSeparatorKeepsAWholeCharacterWhateverFollows': WHATEVER THE INPUT: true; the input reads as it did. -/
def fnIsSeparatorKeepsAWholeCharacterWhateverFollowsSpec : ChangeSpec := { name := "fnIsSeparatorKeepsAWholeCharacterWhateverFollows", fn := fun _ => fun
  | [d1, d2, d3] => { results := [.lit (.bool true)], args := [d1, d2, d3] }
  | _ => none }
def fnIsSeparatorKeepsAWholeCharacterWhateverFollowsRow : OpenClaim := { program := "qxb6615543amods", sum := "101ece68127e60d2fe0234969da1d967165652a015fa2a288eadd1fde356a452", func := "example.com/vetter/vetter/zzlaws_internal_rbac_b1.FnIsSeparatorKeepsAWholeCharacterWhateverFollows", spec := "fnIsSeparatorKeepsAWholeCharacterWhateverFollows", make := .lifted ["publicsums"], apart := false }
def FnIsSeparatorKeepsAWholeCharacterWhateverFollowsSaid : Prop := fnIsSeparatorKeepsAWholeCharacterWhateverFollowsRow.holds Trym.pinned (OpenSpec.ofChange fnIsSeparatorKeepsAWholeCharacterWhateverFollowsSpec)

/-- ITS FALSE NEIGHBOUR: 'it returns false'. Refute it at one input. -/
def fnIsSeparatorKeepsAWholeCharacterWhateverFollowsWrong : ChangeSpec := { name := "fnIsSeparatorKeepsAWholeCharacterWhateverFollows", fn := fun _ => fun
  | [d1, d2, d3] => { results := [.lit (.bool false)], args := [d1, d2, d3] }
  | _ => none }
def FnIsSeparatorKeepsAWholeCharacterWhateverFollowsWrongFalsely : Prop := fnIsSeparatorKeepsAWholeCharacterWhateverFollowsRow.holds Trym.pinned (OpenSpec.ofChange fnIsSeparatorKeepsAWholeCharacterWhateverFollowsWrong)

/-- 'zzlaws_internal_rbac_b1.FnFlowEntriesMatchesTheTokenModel': WHATEVER THE INPUT: true; the input reads as it did. -/
def fnFlowEntriesMatchesTheTokenModelSpec : ChangeSpec := { name := "fnFlowEntriesMatchesTheTokenModel", fn := fun _ => fun
  | [d1, d2, d3, d4, d5] => { results := [.lit (.bool true)], args := [d1, d2, d3, d4, d5] }
  | _ => none }
def fnFlowEntriesMatchesTheTokenModelRow : OpenClaim := { program := "qxb6615543amods", sum := "101ece68127e60d2fe0234969da1d967165652a015fa2a288eadd1fde356a452", func := "example.com/vetter/vetter/zzlaws_internal_rbac_b1.FnFlowEntriesMatchesTheTokenModel", spec := "fnFlowEntriesMatchesTheTokenModel", inPlace := ["internal/bytealg.IndexByte"], unfollowed := true, recurses := true, make := .lifted ["publicsums"], apart := false }
def FnFlowEntriesMatchesTheTokenModelSaid : Prop := fnFlowEntriesMatchesTheTokenModelRow.holds Trym.pinned (OpenSpec.ofChange fnFlowEntriesMatchesTheTokenModelSpec)

/-- ITS FALSE NEIGHBOUR: 'it returns false'. Refute it at one input. -/
def fnFlowEntriesMatchesTheTokenModelWrong : ChangeSpec := { name := "fnFlowEntriesMatchesTheTokenModel", fn := fun _ => fun
  | [d1, d2, d3, d4, d5] => { results := [.lit (.bool false)], args := [d1, d2, d3, d4, d5] }
  | _ => none }
def FnFlowEntriesMatchesTheTokenModelWrongFalsely : Prop := fnFlowEntriesMatchesTheTokenModelRow.holds Trym.pinned (OpenSpec.ofChange fnFlowEntriesMatchesTheTokenModelWrong)

/-- 'zzlaws_internal_rbac_b1.FnFlowEntriesReadUnderABlockStandsUnderAShallowerOne': WHATEVER THE INPUT: true; the input reads as it did. -/
def fnFlowEntriesReadUnderABlockStandsUnderAShallowerOneSpec : ChangeSpec := { name := "fnFlowEntriesReadUnderABlockStandsUnderAShallowerOne", fn := fun _ => fun
  | [d1, d2, d3, d4, d5, d6] => { results := [.lit (.bool true)], args := [d1, d2, d3, d4, d5, d6] }
  | _ => none }
def fnFlowEntriesReadUnderABlockStandsUnderAShallowerOneRow : OpenClaim := { program := "qxb6615543amods", sum := "101ece68127e60d2fe0234969da1d967165652a015fa2a288eadd1fde356a452", func := "example.com/vetter/vetter/zzlaws_internal_rbac_b1.FnFlowEntriesReadUnderABlockStandsUnderAShallowerOne", spec := "fnFlowEntriesReadUnderABlockStandsUnderAShallowerOne", inPlace := ["internal/bytealg.IndexByte"], unfollowed := true, recurses := true, make := .lifted ["publicsums"], apart := false }
def FnFlowEntriesReadUnderABlockStandsUnderAShallowerOneSaid : Prop := fnFlowEntriesReadUnderABlockStandsUnderAShallowerOneRow.holds Trym.pinned (OpenSpec.ofChange fnFlowEntriesReadUnderABlockStandsUnderAShallowerOneSpec)

/-- ITS FALSE NEIGHBOUR: 'it returns false'. Refute it at one input. -/
def fnFlowEntriesReadUnderABlockStandsUnderAShallowerOneWrong : ChangeSpec := { name := "fnFlowEntriesReadUnderABlockStandsUnderAShallowerOne", fn := fun _ => fun
  | [d1, d2, d3, d4, d5, d6] => { results := [.lit (.bool false)], args := [d1, d2, d3, d4, d5, d6] }
  | _ => none }
def FnFlowEntriesReadUnderABlockStandsUnderAShallowerOneWrongFalsely : Prop := fnFlowEntriesReadUnderABlockStandsUnderAShallowerOneRow.holds Trym.pinned (OpenSpec.ofChange fnFlowEntriesReadUnderABlockStandsUnderAShallowerOneWrong)

end Rows
end Go.Proofs.Qxb6615543aMods
