/-
  THE CONTRACT OF 'CatchUpFrom'.
-/
import Derived.Test.Qxb6617127aModsRows
import Derived.WalkKit
namespace Go.Proofs.Qxb6617127aMods
open Go.RowKit
set_option linter.unusedVariables false

/-- Is a catch-up needed, and from which round. -/
def cuB (l c : Int) : Bool := decide (l + 2 ≤ c)
def cuR (l c : Int) : Int := if l + 2 ≤ c then l else 0
theorem cu_yes {l c : Int} (h : l + 2 ≤ c) : cuB l c = true ∧ cuR l c = l := by simp [cuB, cuR, h]
theorem cu_no {l c : Int} (h : ¬ l + 2 ≤ c) : cuB l c = false ∧ cuR l c = 0 := by simp [cuB, cuR, h]

set_option maxHeartbeats 400000 in
theorem catch_any (l c : Int) (w : World) (hl : 0 ≤ l ∧ l ≤ 18446744073709551615) (hc : 0 ≤ c ∧ c ≤ 18446744073709551615) :
    Calls Trym.prog 5 #[.int .u64 l, .int .u64 c] w fun e w' => e = .returned (.tuple #[.int .u64 (cuR l c), .bool (cuB l c)]) ∧ w' = w := by
  obtain ⟨l0, l1⟩ := hl
  obtain ⟨c0, c1⟩ := hc
  by_cases h : l + 2 ≤ c
  · rw [(cu_yes h).1, (cu_yes h).2]
    have h1 : ¬ c ≤ l := by omega
    have h2 : ¬ c - l < 2 := by omega
    go_enter Trym.func5, Trym.ntmps5
    go_wp2
    go_ret2
    exact ⟨rfl, rfl⟩
  · rw [(cu_no h).1, (cu_no h).2]
    by_cases h1 : c ≤ l
    · go_enter Trym.func5, Trym.ntmps5
      go_wp2
      go_ret2
      exact ⟨rfl, rfl⟩
    · have h2 : c - l < 2 := by omega
      go_enter Trym.func5, Trym.ntmps5
      go_wp2
      go_ret2
      exact ⟨rfl, rfl⟩
end Go.Proofs.Qxb6617127aMods
