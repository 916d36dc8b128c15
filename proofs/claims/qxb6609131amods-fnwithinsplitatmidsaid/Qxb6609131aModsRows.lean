/-
  No cell of these rows narrows 'for every input' (looked for: loops, veiled, ifaces, maps, wideKeys, modest, calm, conditions, laid).
  DERIVED. THE GIVEN ROWS OF THIS SEAT. 2 by the template 'for every input the law returns true; each argument reads behind the call as it read before'; 0 by the template 'total and deterministic' (their statements: Qxb6609131aModsTotals.lean).
  GIVEN WITH THE SEED: the statements are not yours to turn. If you find one false, say at which input.
  Laid BY PROGRAM, IN A SANDBOX (cutbox-rows.mjs): the forced cells as the released guide's own fill.sh prints them over the translation 0bde739a5789590f… (all of the seat's roots in one cut). By AI agents, Wed Nov 11 2026. No macro, syntax, notation, axiom, sorry.
-/
import Derived.Test.Qxb6609131aModsChecked
import GoSem.Claim
import GoSem.ClaimJoined
import GoSem.ClaimMapViews
import Derived.JoinedTies
import Derived.KernelRfl
namespace Go.Proofs.Qxb6609131aMods
/- THE CELL 'sum', in the pinned program and in every row, IS THE sha256 OF THE DUMP (.gsa) THAT Qxb6609131aModsProg.lean LOADS. Nothing in Lean hashes anything: it is a label: what it is worth is what the hold of that sum in a sandbox is worth. -/
noncomputable def Trym.pinned : Pinned := { name := "qxb6609131amods", sum := "0bde739a5789590f741815fd98de40a81e72e4041ee97056b4fc8b8df0d18693", checked := Trym.checked }
namespace Rows
def none {H : Type} : Left H := { results := [], args := [] }

/-- 'zzlaws_root_b1.FnWithinSplitsCircle': WHATEVER THE INPUT: true; the input reads as it did. -/
def fnWithinSplitsCircleSpec : ChangeSpec := { name := "fnWithinSplitsCircle", fn := fun _ => fun
  | [d1, d2, d3] => { results := [.lit (.bool true)], args := [d1, d2, d3] }
  | _ => none }
def fnWithinSplitsCircleRow : OpenClaim := { program := "qxb6609131amods", sum := "0bde739a5789590f741815fd98de40a81e72e4041ee97056b4fc8b8df0d18693", func := "example.com/circlet/circlet/zzlaws_root_b1.FnWithinSplitsCircle", spec := "fnWithinSplitsCircle", make := .lifted ["publicsums"], apart := false }
def FnWithinSplitsCircleSaid : Prop := fnWithinSplitsCircleRow.holds Trym.pinned (OpenSpec.ofChange fnWithinSplitsCircleSpec)

/-- ITS FALSE NEIGHBOUR: 'it returns false'. Refute it at one input. -/
def fnWithinSplitsCircleWrong : ChangeSpec := { name := "fnWithinSplitsCircle", fn := fun _ => fun
  | [d1, d2, d3] => { results := [.lit (.bool false)], args := [d1, d2, d3] }
  | _ => none }
def FnWithinSplitsCircleWrongFalsely : Prop := fnWithinSplitsCircleRow.holds Trym.pinned (OpenSpec.ofChange fnWithinSplitsCircleWrong)

/-- 'zzlaws_root_b1.FnWithinSplitAtMid': WHATEVER THE INPUT: true; the input reads as it did. -/
def fnWithinSplitAtMidSpec : ChangeSpec := { name := "fnWithinSplitAtMid", fn := fun _ => fun
  | [d1, d2, d3, d4] => { results := [.lit (.bool true)], args := [d1, d2, d3, d4] }
  | _ => none }
def fnWithinSplitAtMidRow : OpenClaim := { program := "qxb6609131amods", sum := "0bde739a5789590f741815fd98de40a81e72e4041ee97056b4fc8b8df0d18693", func := "example.com/circlet/circlet/zzlaws_root_b1.FnWithinSplitAtMid", spec := "fnWithinSplitAtMid", make := .lifted ["publicsums"], apart := false }
def FnWithinSplitAtMidSaid : Prop := fnWithinSplitAtMidRow.holds Trym.pinned (OpenSpec.ofChange fnWithinSplitAtMidSpec)

/-- ITS FALSE NEIGHBOUR: 'it returns false'. Refute it at one input. -/
def fnWithinSplitAtMidWrong : ChangeSpec := { name := "fnWithinSplitAtMid", fn := fun _ => fun
  | [d1, d2, d3, d4] => { results := [.lit (.bool false)], args := [d1, d2, d3, d4] }
  | _ => none }
def FnWithinSplitAtMidWrongFalsely : Prop := fnWithinSplitAtMidRow.holds Trym.pinned (OpenSpec.ofChange fnWithinSplitAtMidWrong)

end Rows
end Go.Proofs.Qxb6609131aMods
