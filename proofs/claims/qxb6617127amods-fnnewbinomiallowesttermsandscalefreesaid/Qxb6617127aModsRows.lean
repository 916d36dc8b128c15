/-
  No cell of these rows narrows 'for every input' (looked for: loops, veiled, ifaces, maps, wideKeys, modest, calm, conditions, laid).
  DERIVED. THE GIVEN ROWS OF THIS SEAT. 2 by the template 'for every input the law returns true; each argument reads behind the call as it read before'; 0 by the template 'total and deterministic' (their statements: Qxb6617127aModsTotals.lean).
  GIVEN WITH THE SEED: the statements are not yours to turn. If you find one false, say at which input.
  Laid BY PROGRAM, IN A SANDBOX (cutbox-rows.mjs): the forced cells as the released guide's own fill.sh prints them over the translation 741878fc4a4b03b2… (all of the seat's roots in one cut). By AI agents, Wed Nov 11 2026. No macro, syntax, notation, axiom, sorry.
-/
import Derived.Test.Qxb6617127aModsChecked
import GoSem.Claim
import GoSem.ClaimJoined
import GoSem.ClaimMapViews
import Derived.JoinedTies
import Derived.KernelRfl
namespace Go.Proofs.Qxb6617127aMods
/- THE CELL 'sum', in the pinned program and in every row, IS THE sha256 OF THE DUMP (.gsa) THAT Qxb6617127aModsProg.lean LOADS. Nothing in Lean hashes anything: it is a label: what it is worth is what the hold of that sum in a sandbox is worth. -/
noncomputable def Trym.pinned : Pinned := { name := "qxb6617127amods", sum := "741878fc4a4b03b243c7ccf38549dc423cd58d7a2b9d71d83a6fc214887ede81", checked := Trym.checked }
namespace Rows
def none {H : Type} : Left H := { results := [], args := [] }

/-- 'zzlaws_root_b1.FnCatchUpFromNeededExactlyFromTwoRoundsBehind': WHATEVER THE INPUT: true; the input reads as it did. -/
def fnCatchUpFromNeededExactlyFromTwoRoundsBehindSpec : ChangeSpec := { name := "fnCatchUpFromNeededExactlyFromTwoRoundsBehind", fn := fun _ => fun
  | [d1, d2] => { results := [.lit (.bool true)], args := [d1, d2] }
  | _ => none }
def fnCatchUpFromNeededExactlyFromTwoRoundsBehindRow : OpenClaim := { program := "qxb6617127amods", sum := "741878fc4a4b03b243c7ccf38549dc423cd58d7a2b9d71d83a6fc214887ede81", func := "example.com/sortile/sortile/zzlaws_root_b1.FnCatchUpFromNeededExactlyFromTwoRoundsBehind", spec := "fnCatchUpFromNeededExactlyFromTwoRoundsBehind", make := .lifted ["publicsums"], apart := false }
def FnCatchUpFromNeededExactlyFromTwoRoundsBehindSaid : Prop := fnCatchUpFromNeededExactlyFromTwoRoundsBehindRow.holds Trym.pinned (OpenSpec.ofChange fnCatchUpFromNeededExactlyFromTwoRoundsBehindSpec)

/-- ITS FALSE NEIGHBOUR: 'it returns false'. Refute it at one input. -/
def fnCatchUpFromNeededExactlyFromTwoRoundsBehindWrong : ChangeSpec := { name := "fnCatchUpFromNeededExactlyFromTwoRoundsBehind", fn := fun _ => fun
  | [d1, d2] => { results := [.lit (.bool false)], args := [d1, d2] }
  | _ => none }
def FnCatchUpFromNeededExactlyFromTwoRoundsBehindWrongFalsely : Prop := fnCatchUpFromNeededExactlyFromTwoRoundsBehindRow.holds Trym.pinned (OpenSpec.ofChange fnCatchUpFromNeededExactlyFromTwoRoundsBehindWrong)

/-- 'zzlaws_root_b1.FnNewBinomialLowestTermsAndScaleFree': WHATEVER THE INPUT: true; the input reads as it did. -/
def fnNewBinomialLowestTermsAndScaleFreeSpec : ChangeSpec := { name := "fnNewBinomialLowestTermsAndScaleFree", fn := fun _ => fun
  | [d1, d2, d3, d4] => { results := [.lit (.bool true)], args := [d1, d2, d3, d4] }
  | _ => none }
def fnNewBinomialLowestTermsAndScaleFreeRow : OpenClaim := { program := "qxb6617127amods", sum := "741878fc4a4b03b243c7ccf38549dc423cd58d7a2b9d71d83a6fc214887ede81", func := "example.com/sortile/sortile/zzlaws_root_b1.FnNewBinomialLowestTermsAndScaleFree", spec := "fnNewBinomialLowestTermsAndScaleFree", make := .lifted ["publicsums"], apart := false }
def FnNewBinomialLowestTermsAndScaleFreeSaid : Prop := fnNewBinomialLowestTermsAndScaleFreeRow.holds Trym.pinned (OpenSpec.ofChange fnNewBinomialLowestTermsAndScaleFreeSpec)

/-- ITS FALSE NEIGHBOUR: 'it returns false'. Refute it at one input. -/
def fnNewBinomialLowestTermsAndScaleFreeWrong : ChangeSpec := { name := "fnNewBinomialLowestTermsAndScaleFree", fn := fun _ => fun
  | [d1, d2, d3, d4] => { results := [.lit (.bool false)], args := [d1, d2, d3, d4] }
  | _ => none }
def FnNewBinomialLowestTermsAndScaleFreeWrongFalsely : Prop := fnNewBinomialLowestTermsAndScaleFreeRow.holds Trym.pinned (OpenSpec.ofChange fnNewBinomialLowestTermsAndScaleFreeWrong)

end Rows
end Go.Proofs.Qxb6617127aMods
