/-
  THE WALK OF FnNewBinomialLowestTermsAndScaleFree, out of the contracts.
-/
import Derived.Test.Qxb6617127aModsBin
import Derived.OpenShut
namespace Go.Proofs.Qxb6617127aMods
open Go.RowKit
set_option linter.unusedVariables false

/-! ### THE PLAIN MATHEMATICS -/
/-- What the law asks of a number X, its divisor D and X1 = X / D. -/
theorem low {X D X1 : Nat} (hX : 0 < X) (hd : D ∣ X) (h : X / D = X1) : 0 < X1 ∧ X % X1 = 0 ∧ X / X1 = D := by
  obtain ⟨q, rfl⟩ := hd
  have hD : 0 < D := Nat.pos_of_mul_pos_right hX
  rw [Nat.mul_div_cancel_left _ hD] at h
  subst h
  have hq : 0 < q := Nat.pos_of_mul_pos_left hX
  exact ⟨hq, Nat.mul_mod_left _ _, Nat.mul_div_cancel _ hq⟩
theorem scale {A B D K : Nat} (h : Nat.gcd A B = D) : Nat.gcd (A * K) (B * K) = D * K := by rw [Nat.gcd_mul_right, h]
theorem scale_div {X D K X1 : Nat} (hK : 0 < K) (h : X / D = X1) : X * K / (D * K) = X1 := by rw [Nat.mul_div_mul_right _ _ hK, h]
theorem cop {A B D : Nat} (h : Nat.gcd A B = D) (h0 : 0 < D) : Nat.gcd (A / D) (B / D) = 1 := by
  subst h; exact Nat.coprime_div_gcd_div_gcd h0
theorem fits {X K : Nat} (hK : 0 < K) (h : (X : Int) ≤ 18446744073709551615 / (K : Int)) : X * K ≤ 18446744073709551615 := by
  have h1 := (Int.le_ediv_iff_mul_le (show (0 : Int) < (K : Int) by omega)).1 h
  rw [← Int.natCast_mul] at h1
  omega
theorem wrap_mul {X K : Nat} (h : X * K ≤ 18446744073709551615) : IntKind.u64.wrap ((X : Int) * (K : Int)) = ((X * K : Nat) : Int) := by
  rw [← Int.natCast_mul]
  exact IntWalk.u64_in _ ⟨by omega, by omega⟩

set_option maxHeartbeats 1000000 in
theorem low_pos (n : Int) (A B K : Nat) (w : World) (hA : A ≤ 18446744073709551615) (hB : B ≤ 18446744073709551615) (hK : K ≤ 18446744073709551615) (hA0 : 0 < A) (hB0 : 0 < B) :
    Calls Trym.prog 4 #[.int .u64 n, .int .u64 A, .int .u64 B, .int .u64 K] w fun e w' => e = .returned (.bool true) ∧ Grown w w' := by
  obtain ⟨D, hD⟩ : ∃ D, Nat.gcd A B = D := ⟨_, rfl⟩
  obtain ⟨A1, hA1⟩ : ∃ q, A / D = q := ⟨_, rfl⟩
  obtain ⟨B1, hB1⟩ : ∃ q, B / D = q := ⟨_, rfl⟩
  have hD0 : 0 < D := by rw [← hD]; exact Nat.gcd_pos_of_pos_left _ hA0
  have dA : D ∣ A := by rw [← hD]; exact Nat.gcd_dvd_left _ _
  have dB : D ∣ B := by rw [← hD]; exact Nat.gcd_dvd_right _ _
  obtain ⟨pA, mA, qA⟩ := low hA0 dA hA1
  obtain ⟨pB, mB, qB⟩ := low hB0 dB hB1
  have lD : D ≤ 18446744073709551615 := Nat.le_trans (Nat.le_of_dvd hA0 dA) hA
  have lA : A1 ≤ 18446744073709551615 := by rw [← hA1]; exact Nat.le_trans (Nat.div_le_self _ _) hA
  have lB : B1 ≤ 18446744073709551615 := by rw [← hB1]; exact Nat.le_trans (Nat.div_le_self _ _) hB
  have HC : Hid (Nat.gcd A1 B1 = 1) := by rw [← hA1, ← hB1]; exact cop hD hD0
  have HD : Hid (Nat.gcd A B = D) := hD
  have HA : Hid (A / D = A1) := hA1
  have HB : Hid (B / D = B1) := hB1
  clear hD hA1 hB1 dA dB
  have tA : ((A : Int) == 0) = false := by simp; omega
  have tB : ((B : Int) == 0) = false := by simp; omega
  have tA1 : ((A1 : Int) == 0) = false := by simp; omega
  have tB1 : ((B1 : Int) == 0) = false := by simp; omega
  have tD : ((D : Int) == 0) = false := by simp; omega
  have eA : (A : Int) % (A1 : Int) = 0 := by rw [← Int.natCast_emod, mA]; rfl
  have eB : (B : Int) % (B1 : Int) = 0 := by rw [← Int.natCast_emod, mB]; rfl
  have fA : (A : Int) / (A1 : Int) = (D : Int) := by rw [← Int.natCast_ediv, qA]
  have fB : (B : Int) / (B1 : Int) = (D : Int) := by rw [← Int.natCast_ediv, qB]
  clear mA qA mB qB
  by_cases hk : K = 0
  · subst hk
    go_enter Trym.func4, Trym.ntmps4
    go_wp2_with fail
    refine (zznew_any n _ _ A B D A1 B1 _ rfl rfl hA hB HD.out hD0 HA.out HB.out).mono ?_
    rintro e w1 ⟨rfl, hg1⟩
    go_wp2_with fail
    refine (bin_at _ _ A1 B1 _ rfl rfl lA lB HC.out).mono ?_
    rintro e w2 ⟨rfl, hw2⟩
    obtain rfl : w1 = w2 := hw2.symm
    go_wp2
    go_ret
    exact ⟨rfl, hg1⟩
  · have tK : ((K : Int) == 0) = false := by simp; omega
    go_enter Trym.func4, Trym.ntmps4
    go_wp2_with fail
    refine (zznew_any n _ _ A B D A1 B1 _ rfl rfl hA hB HD.out hD0 HA.out HB.out).mono ?_
    rintro e w1 ⟨rfl, hg1⟩
    go_wp2_with fail
    refine (bin_at _ _ A1 B1 _ rfl rfl lA lB HC.out).mono ?_
    rintro e w2 ⟨rfl, hw2⟩
    obtain rfl : w1 = w2 := hw2.symm
    go_wp2_with fail
    · have sA : (A : Int) ≤ 18446744073709551615 / (K : Int) := by assumption
      have sB : (B : Int) ≤ 18446744073709551615 / (K : Int) := by
        have h : ((K : Int) != 0) = true ∧ (B : Int) ≤ 18446744073709551615 / (K : Int) := by assumption
        exact h.2
      have hK0 : 0 < K := by omega
      refine (zznew_any n _ _ (A * K) (B * K) (D * K) A1 B1 _ (wrap_mul (fits hK0 sA)) (wrap_mul (fits hK0 sB)) (fits hK0 sA) (fits hK0 sB) (scale HD.out) (Nat.mul_pos hD0 hK0) (scale_div hK0 HA.out) (scale_div hK0 HB.out)).mono ?_
      rintro e w3 ⟨rfl, hg3⟩
      go_wp2
      go_ret
      exact ⟨rfl, grown_trans hg1 hg3⟩
    · go_ret
      exact ⟨rfl, hg1⟩
    · go_ret
      exact ⟨rfl, hg1⟩

set_option maxHeartbeats 1000000 in
theorem low_left (n : Int) (B K : Nat) (w : World) (hB : B ≤ 18446744073709551615) (hK : K ≤ 18446744073709551615) (hB0 : 0 < B) :
    Calls Trym.prog 4 #[.int .u64 n, .int .u64 0, .int .u64 B, .int .u64 K] w fun e w' => e = .returned (.bool true) ∧ Grown w w' := by
  have tB : ((B : Int) == 0) = false := by simp; omega
  have dB : B / B = 1 := Nat.div_self hB0
  have HB : Hid (B / B = 1) := dB
  clear dB
  by_cases hk : K = 0
  · subst hk
    go_enter Trym.func4, Trym.ntmps4
    go_wp2_with fail
    refine (zznew_any n _ _ 0 B B 0 1 _ rfl rfl (by omega) hB (Nat.gcd_zero_left _) hB0 (Nat.zero_div _) HB.out).mono ?_
    rintro e w1 ⟨rfl, hg1⟩
    go_wp2_with fail
    refine (bin_at _ _ 0 1 _ rfl rfl (by omega) (by omega) rfl).mono ?_
    rintro e w2 ⟨rfl, hw2⟩
    obtain rfl : w1 = w2 := hw2.symm
    go_wp2
    go_ret
    exact ⟨rfl, hg1⟩
  · have tK : ((K : Int) == 0) = false := by simp; omega
    go_enter Trym.func4, Trym.ntmps4
    go_wp2_with fail
    refine (zznew_any n _ _ 0 B B 0 1 _ rfl rfl (by omega) hB (Nat.gcd_zero_left _) hB0 (Nat.zero_div _) HB.out).mono ?_
    rintro e w1 ⟨rfl, hg1⟩
    go_wp2_with fail
    refine (bin_at _ _ 0 1 _ rfl rfl (by omega) (by omega) rfl).mono ?_
    rintro e w2 ⟨rfl, hw2⟩
    obtain rfl : w1 = w2 := hw2.symm
    go_wp2_with fail
    · have sB : (B : Int) ≤ 18446744073709551615 / (K : Int) := by
        have h : ((K : Int) != 0) = true ∧ (B : Int) ≤ 18446744073709551615 / (K : Int) := by assumption
        exact h.2
      have hK0 : 0 < K := by omega
      have hBK : 0 < B * K := Nat.mul_pos hB0 hK0
      refine (zznew_any n _ _ 0 (B * K) (B * K) 0 1 _ rfl (wrap_mul (fits hK0 sB)) (by omega) (fits hK0 sB) (Nat.gcd_zero_left _) hBK (Nat.zero_div _) (Nat.div_self hBK)).mono ?_
      rintro e w3 ⟨rfl, hg3⟩
      go_wp2
      go_ret
      exact ⟨rfl, grown_trans hg1 hg3⟩
    · go_ret
      exact ⟨rfl, hg1⟩

set_option maxHeartbeats 1000000 in
theorem low_right (n : Int) (A K : Nat) (w : World) (hA : A ≤ 18446744073709551615) (hK : K ≤ 18446744073709551615) (hA0 : 0 < A) :
    Calls Trym.prog 4 #[.int .u64 n, .int .u64 A, .int .u64 0, .int .u64 K] w fun e w' => e = .returned (.bool true) ∧ Grown w w' := by
  have tA : ((A : Int) == 0) = false := by simp; omega
  have dA : A / A = 1 := Nat.div_self hA0
  have HA : Hid (A / A = 1) := dA
  clear dA
  by_cases hk : K = 0
  · subst hk
    go_enter Trym.func4, Trym.ntmps4
    go_wp2_with fail
    refine (zznew_any n _ _ A 0 A 1 0 _ rfl rfl hA (by omega) (Nat.gcd_zero_right _) hA0 HA.out (Nat.zero_div _)).mono ?_
    rintro e w1 ⟨rfl, hg1⟩
    go_wp2_with fail
    refine (bin_at _ _ 1 0 _ rfl rfl (by omega) (by omega) rfl).mono ?_
    rintro e w2 ⟨rfl, hw2⟩
    obtain rfl : w1 = w2 := hw2.symm
    go_wp2
    go_ret
    exact ⟨rfl, hg1⟩
  · have tK : ((K : Int) == 0) = false := by simp; omega
    go_enter Trym.func4, Trym.ntmps4
    go_wp2_with fail
    refine (zznew_any n _ _ A 0 A 1 0 _ rfl rfl hA (by omega) (Nat.gcd_zero_right _) hA0 HA.out (Nat.zero_div _)).mono ?_
    rintro e w1 ⟨rfl, hg1⟩
    go_wp2_with fail
    refine (bin_at _ _ 1 0 _ rfl rfl (by omega) (by omega) rfl).mono ?_
    rintro e w2 ⟨rfl, hw2⟩
    obtain rfl : w1 = w2 := hw2.symm
    go_wp2_with fail
    · have sA : (A : Int) ≤ 18446744073709551615 / (K : Int) := by assumption
      have hK0 : 0 < K := by omega
      have hAK : 0 < A * K := Nat.mul_pos hA0 hK0
      refine (zznew_any n _ _ (A * K) 0 (A * K) 1 0 _ (wrap_mul (fits hK0 sA)) rfl (fits hK0 sA) (by omega) (Nat.gcd_zero_right _) hAK (Nat.div_self hAK) (Nat.zero_div _)).mono ?_
      rintro e w3 ⟨rfl, hg3⟩
      go_wp2
      go_ret
      exact ⟨rfl, grown_trans hg1 hg3⟩
    · go_ret
      exact ⟨rfl, hg1⟩

set_option maxHeartbeats 1000000 in
theorem low_none (n k : Int) (w : World) :
    Calls Trym.prog 4 #[.int .u64 n, .int .u64 0, .int .u64 0, .int .u64 k] w fun e w' => e = .returned (.bool true) ∧ Grown w w' := by
  go_enter Trym.func4, Trym.ntmps4
  go_wp2
  go_ret
  exact ⟨rfl, Grown.refl _⟩

theorem low_any (n : Int) (A B K : Nat) (w : World) (hA : A ≤ 18446744073709551615) (hB : B ≤ 18446744073709551615) (hK : K ≤ 18446744073709551615) :
    Calls Trym.prog 4 #[.int .u64 n, .int .u64 A, .int .u64 B, .int .u64 K] w fun e w' => e = .returned (.bool true) ∧ Grown w w' := by
  by_cases a0 : A = 0
  · subst a0
    by_cases b0 : B = 0
    · subst b0
      exact low_none n K w
    · exact low_left n B K w hB hK (by omega)
  · by_cases b0 : B = 0
    · subst b0
      exact low_right n A K w hA hK (by omega)
    · exact low_pos n A B K w hA hB hK (by omega) (by omega)
end Go.Proofs.Qxb6617127aMods
