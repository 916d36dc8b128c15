/-
  No cell of these rows narrows 'for every input' (looked for: loops, veiled, ifaces, maps, wideKeys, modest, calm, conditions, laid).
  DERIVED. THE GIVEN ROWS OF THIS SEAT. 4 by the template 'for every input the law returns true; each argument reads behind the call as it read before'; 0 by the template 'total and deterministic' (their statements: Qxb6616952aModsRRTotals.lean).
  GIVEN WITH THE SEED: the statements are not yours to turn. If you find one false, say at which input.
  Laid BY PROGRAM, IN A SANDBOX (cutbox-rows.mjs): the forced cells as the released guide's own fill.sh prints them over the translation ece841c7dcb47d96… (all of the seat's roots in one cut). By AI agents, Wed Nov 11 2026. No macro, syntax, notation, axiom, sorry.
-/
import Derived.Test.Qxb6616952aModsRRChecked
import GoSem.Claim
import GoSem.ClaimJoined
import GoSem.ClaimMapViews
import Derived.JoinedTies
import Derived.KernelRfl
namespace Go.Proofs.Qxb6616952aModsRR
/- THE CELL 'sum', in the pinned program and in every row, IS THE sha256 OF THE DUMP (.gsa) THAT Qxb6616952aModsRRProg.lean LOADS. Nothing in Lean hashes anything: it is a label: what it is worth is what the hold of that sum in a sandbox is worth. -/
noncomputable def Trym.pinned : Pinned := { name := "qxb6616952amodsrr", sum := "ece841c7dcb47d969b7e54f3884923f1b72829e156541532e6dd66a55d5e74c5", checked := Trym.checked }
namespace Rows
def none {H : Type} : Left H := { results := [], args := [] }

/-- 'zzlaws_tardiff_b1.FnReachIsLeftmostBestPrefix': WHATEVER THE INPUT: true; the input reads as it did. -/
def fnReachIsLeftmostBestPrefixSpec : ChangeSpec := { name := "fnReachIsLeftmostBestPrefix", fn := fun _ => fun
  | [d1, d2] => { results := [.lit (.bool true)], args := [d1, d2] }
  | _ => none }
def fnReachIsLeftmostBestPrefixRow : OpenClaim := { program := "qxb6616952amodsrr", sum := "ece841c7dcb47d969b7e54f3884923f1b72829e156541532e6dd66a55d5e74c5", func := "example.com/stratadiff/stratadiff/zzlaws_tardiff_b1.FnReachIsLeftmostBestPrefix", spec := "fnReachIsLeftmostBestPrefix", unfollowed := true, recurses := true, make := .lifted ["publicsums"], apart := false }
def FnReachIsLeftmostBestPrefixSaid : Prop := fnReachIsLeftmostBestPrefixRow.holds Trym.pinned (OpenSpec.ofChange fnReachIsLeftmostBestPrefixSpec)

/-- ITS FALSE NEIGHBOUR: 'it returns false'. Refute it at one input. -/
def fnReachIsLeftmostBestPrefixWrong : ChangeSpec := { name := "fnReachIsLeftmostBestPrefix", fn := fun _ => fun
  | [d1, d2] => { results := [.lit (.bool false)], args := [d1, d2] }
  | _ => none }
def FnReachIsLeftmostBestPrefixWrongFalsely : Prop := fnReachIsLeftmostBestPrefixRow.holds Trym.pinned (OpenSpec.ofChange fnReachIsLeftmostBestPrefixWrong)

/-- 'zzlaws_tardiff_b1.FnReachPrependAgreeAppendDisagree': WHATEVER THE INPUT: true; the input reads as it did. -/
def fnReachPrependAgreeAppendDisagreeSpec : ChangeSpec := { name := "fnReachPrependAgreeAppendDisagree", fn := fun _ => fun
  | [d1, d2] => { results := [.lit (.bool true)], args := [d1, d2] }
  | _ => none }
def fnReachPrependAgreeAppendDisagreeRow : OpenClaim := { program := "qxb6616952amodsrr", sum := "ece841c7dcb47d969b7e54f3884923f1b72829e156541532e6dd66a55d5e74c5", func := "example.com/stratadiff/stratadiff/zzlaws_tardiff_b1.FnReachPrependAgreeAppendDisagree", spec := "fnReachPrependAgreeAppendDisagree", unfollowed := true, recurses := true, make := .lifted ["publicsums"], apart := false }
def FnReachPrependAgreeAppendDisagreeSaid : Prop := fnReachPrependAgreeAppendDisagreeRow.holds Trym.pinned (OpenSpec.ofChange fnReachPrependAgreeAppendDisagreeSpec)

/-- ITS FALSE NEIGHBOUR: 'it returns false'. Refute it at one input. -/
def fnReachPrependAgreeAppendDisagreeWrong : ChangeSpec := { name := "fnReachPrependAgreeAppendDisagree", fn := fun _ => fun
  | [d1, d2] => { results := [.lit (.bool false)], args := [d1, d2] }
  | _ => none }
def FnReachPrependAgreeAppendDisagreeWrongFalsely : Prop := fnReachPrependAgreeAppendDisagreeRow.holds Trym.pinned (OpenSpec.ofChange fnReachPrependAgreeAppendDisagreeWrong)

/-- 'zzlaws_tardiff_b1.FnSuffixTypeIsSuffixOrder': WHATEVER THE INPUT: true; the input reads as it did. -/
def fnSuffixTypeIsSuffixOrderSpec : ChangeSpec := { name := "fnSuffixTypeIsSuffixOrder", fn := fun _ => fun
  | [d] => { results := [.lit (.bool true)], args := [d] }
  | _ => none }
def fnSuffixTypeIsSuffixOrderRow : OpenClaim := { program := "qxb6616952amodsrr", sum := "ece841c7dcb47d969b7e54f3884923f1b72829e156541532e6dd66a55d5e74c5", func := "example.com/stratadiff/stratadiff/zzlaws_tardiff_b1.FnSuffixTypeIsSuffixOrder", spec := "fnSuffixTypeIsSuffixOrder", make := .lifted ["publicsums"], apart := false }
def FnSuffixTypeIsSuffixOrderSaid : Prop := fnSuffixTypeIsSuffixOrderRow.holds Trym.pinned (OpenSpec.ofChange fnSuffixTypeIsSuffixOrderSpec)

/-- ITS FALSE NEIGHBOUR: 'it returns false'. Refute it at one input. -/
def fnSuffixTypeIsSuffixOrderWrong : ChangeSpec := { name := "fnSuffixTypeIsSuffixOrder", fn := fun _ => fun
  | [d] => { results := [.lit (.bool false)], args := [d] }
  | _ => none }
def FnSuffixTypeIsSuffixOrderWrongFalsely : Prop := fnSuffixTypeIsSuffixOrderRow.holds Trym.pinned (OpenSpec.ofChange fnSuffixTypeIsSuffixOrderWrong)

/-- 'zzlaws_tardiff_b1.FnSuffixTypeFlipsUnderComplement': WHATEVER THE INPUT: true; the input reads as it did. -/
def fnSuffixTypeFlipsUnderComplementSpec : ChangeSpec := { name := "fnSuffixTypeFlipsUnderComplement", fn := fun _ => fun
  | [d] => { results := [.lit (.bool true)], args := [d] }
  | _ => none }
def fnSuffixTypeFlipsUnderComplementRow : OpenClaim := { program := "qxb6616952amodsrr", sum := "ece841c7dcb47d969b7e54f3884923f1b72829e156541532e6dd66a55d5e74c5", func := "example.com/stratadiff/stratadiff/zzlaws_tardiff_b1.FnSuffixTypeFlipsUnderComplement", spec := "fnSuffixTypeFlipsUnderComplement", make := .lifted ["publicsums"], apart := false }
def FnSuffixTypeFlipsUnderComplementSaid : Prop := fnSuffixTypeFlipsUnderComplementRow.holds Trym.pinned (OpenSpec.ofChange fnSuffixTypeFlipsUnderComplementSpec)

/-- ITS FALSE NEIGHBOUR: 'it returns false'. Refute it at one input. -/
def fnSuffixTypeFlipsUnderComplementWrong : ChangeSpec := { name := "fnSuffixTypeFlipsUnderComplement", fn := fun _ => fun
  | [d] => { results := [.lit (.bool false)], args := [d] }
  | _ => none }
def FnSuffixTypeFlipsUnderComplementWrongFalsely : Prop := fnSuffixTypeFlipsUnderComplementRow.holds Trym.pinned (OpenSpec.ofChange fnSuffixTypeFlipsUnderComplementWrong)

end Rows
end Go.Proofs.Qxb6616952aModsRR
