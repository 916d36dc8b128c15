/-
  THE CONTRACT OF '(ID).Within' AND THE PLAIN LAWS ON IT: no Go in the second half.
-/
import Derived.Test.Qxb6609131aModsRows
import Derived.WalkKit
namespace Go.Proofs.Qxb6609131aMods
open Go.RowKit
set_option linter.unusedVariables false

/-- The clockwise distance from b to a on the circle of 2^64 ids. -/
def dist (a b : Int) : Int := IntKind.u64.wrap (a - b)
/-- 'x lies in the range behind after up to upto'. -/
def withinB (x after upto : Int) : Bool := decide (after = upto) || (decide (dist x after ≠ 0) && decide (dist x after ≤ dist upto after))

theorem ret_bool {a b : Bool} (h : a = b) : Ending.returned (.bool a) = .returned (.bool b) := by rw [h]

set_option maxHeartbeats 400000 in
theorem within_any (x after upto : Int) (w : World) :
    Calls Trym.prog 5 #[.int .u64 x, .int .u64 after, .int .u64 upto] w fun e w' => e = .returned (.bool (withinB x after upto)) ∧ w' = w := by
  by_cases h : after = upto
  · subst h
    go_enter Trym.func5, Trym.ntmps5
    go_wp2
    go_ret
    exact ⟨by simp [withinB], rfl⟩
  · have hb : (after == upto) = false := by simpa using h
    by_cases hd : IntKind.u64.wrap (x - after) = 0
    · have hv : withinB x after upto = false := by simp [withinB, dist, h, hd]
      go_enter Trym.func5, Trym.ntmps5
      go_wp2
      go_ret
      exact ⟨ret_bool hv.symm, rfl⟩
    · have hv : (IntKind.u64.wrap (x - after) != 0 && decide (IntKind.u64.wrap (x - after) ≤ IntKind.u64.wrap (upto - after))) = withinB x after upto := by
        rw [Bool.eq_iff_iff]
        simp [withinB, dist, h, hd]
        exact ⟨fun k => decide_eq_true k, fun k => of_decide_eq_true k⟩
      have HV : Hid ((IntKind.u64.wrap (x - after) != 0 && decide (IntKind.u64.wrap (x - after) ≤ IntKind.u64.wrap (upto - after))) = withinB x after upto) := hv
      clear hv
      go_enter Trym.func5, Trym.ntmps5
      go_wp2
      go_ret
      exact ⟨ret_bool HV.out, rfl⟩

/-! ### THE PLAIN LAWS -/
theorem dist_eq (a b : Int) : dist a b = (a - b) % 18446744073709551616 := IntKind.wrap_u64 _

theorem within_same (x a : Int) : withinB x a a = true := by simp [withinB]

/-- The two halves of the circle part every id. -/
theorem within_flip {x a u : Int} (hx : 0 ≤ x ∧ x ≤ 18446744073709551615) (ha : 0 ≤ a ∧ a ≤ 18446744073709551615) (hu : 0 ≤ u ∧ u ≤ 18446744073709551615) (h : a ≠ u) :
    withinB x u a = !withinB x a u := by
  have h' : u ≠ a := fun e => h e.symm
  simp only [withinB, dist_eq, h, h', decide_false, Bool.false_or]
  rw [Bool.eq_iff_iff]
  simp only [Bool.and_eq_true, decide_eq_true_eq, Bool.not_eq_true', Bool.and_eq_false_iff, decide_eq_false_iff_not]
  omega

theorem within_end {a u : Int} (ha : 0 ≤ a ∧ a ≤ 18446744073709551615) (hu : 0 ≤ u ∧ u ≤ 18446744073709551615) (h : a ≠ u) : withinB u a u = true := by
  simp only [withinB, dist_eq, h, decide_false, Bool.false_or, Bool.and_eq_true, decide_eq_true_eq]
  omega

theorem within_start {a u : Int} (h : a ≠ u) : withinB a a u = false := by
  simp [withinB, dist_eq, h]

/-- mid strictly between after and upto: the range is parted at mid. -/
theorem within_mid {x a m u : Int} (hx : 0 ≤ x ∧ x ≤ 18446744073709551615) (ha : 0 ≤ a ∧ a ≤ 18446744073709551615) (hm : 0 ≤ m ∧ m ≤ 18446744073709551615) (hu : 0 ≤ u ∧ u ≤ 18446744073709551615)
    (h1 : a ≠ u) (h2 : m ≠ a) (h3 : m ≠ u) (hd : dist m a < dist u a) :
    withinB x a u = (withinB x a m || withinB x m u) ∧ (withinB x a m && withinB x m u) = false ∧ withinB m a u = true := by
  have h2' : a ≠ m := fun e => h2 e.symm
  simp only [dist_eq] at hd
  simp only [withinB, dist_eq, h1, h2', h3, decide_false, Bool.false_or]
  refine ⟨?_, ?_, ?_⟩
  · rw [Bool.eq_iff_iff]
    simp only [Bool.and_eq_true, Bool.or_eq_true, decide_eq_true_eq]
    omega
  · simp only [Bool.and_eq_false_iff, decide_eq_false_iff_not]
    omega
  · simp only [Bool.and_eq_true, decide_eq_true_eq]
    omega
end Go.Proofs.Qxb6609131aMods
