/-
  THE CONTRACTS OF newBinomial AND ZZNewBinomial: Euclid's loop.
-/
import Derived.Test.Qxb6617127aModsRows
import Derived.WalkKit
import Derived.WalkLawsBesides
import Derived.WalkSmall
import Derived.RegionTactic
import Derived.ChangeAlike
import Derived.Deep.QuietTactic
import Derived.BigQuiet
import Derived.Test.Qxb6617127aModsGcd
namespace Go.Proofs.Qxb6617127aMods
open Go.RowKit
set_option linter.unusedVariables false

theorem grown_trans {W w w' : World} (h : Grown W w) (k : Grown w w') : Grown W w' :=
  ⟨World.keptBut_trans h.1 k.1, fun a => (k.2.1 a).trans (h.2.1 a), Nat.le_trans h.2.2 k.2.2⟩
theorem grown_drewN {W w : World} (h : Grown W w) (n : Nat) : Grown W (w.drewN n) := h

theorem gcd_step (G R : Nat) : Nat.gcd R (G % R) = Nat.gcd G R := by rw [Nat.gcd_comm R, ← Nat.gcd_rec, Nat.gcd_comm]

theorem wrap_div {A D A1 : Nat} (hA : A ≤ 18446744073709551615) (h : A / D = A1) : IntKind.u64.wrap ((A : Int) / (D : Int)) = (A1 : Int) := by
  rw [← Int.natCast_ediv, h]
  have := Nat.div_le_self A D
  exact IntWalk.u64_in _ ⟨by omega, by omega⟩

set_option maxHeartbeats 1000000 in
theorem newbin_any (n : Int) (A B D A1 B1 : Nat) (w : World) (hA : A ≤ 18446744073709551615) (hB : B ≤ 18446744073709551615) (hD : Nat.gcd A B = D) (h0 : 0 < D) (hA1 : A / D = A1) (hB1 : B / D = B1) :
    Calls Trym.prog 8 #[.int .u64 n, .int .u64 A, .int .u64 B] w fun e w' => e = .returned (.agg #[.int .u64 n, .int .u64 A1, .int .u64 B1]) ∧ Grown w w' := by
  have HD : Hid (Nat.gcd A B = D) := hD
  have H1 : Hid (IntKind.u64.wrap ((A : Int) / (D : Int)) = (A1 : Int)) := wrap_div hA hA1
  have H2 : Hid (IntKind.u64.wrap ((B : Int) / (D : Int)) = (B1 : Int)) := wrap_div hB hB1
  clear hD hA1 hB1
  go_enter Trym.func8, Trym.ntmps8
  go_wp2
  go_loopw [7, 8] (fun g r wr => ∃ G R d : Nat, G ≤ 18446744073709551615 ∧ R ≤ 18446744073709551615 ∧ g = .int .u64 G ∧ r = .int .u64 R ∧ Hid (Nat.gcd G R = D) ∧ wr = (w.alloc (.cells #[.int .u64 0, .int .u64 0, .int .u64 0] 31)).drewN d) (fun _ r _ => (intOf r).toNat)
  case atStart => exact ⟨A, B, 0, hA, hB, rfl, rfl, HD, rfl⟩
  case round =>
    clear HD
    obtain ⟨G, R, d, hG, hR, rfl, rfl, HD, rfl⟩ := hrel
    by_cases hr : R = 0
    · have HE : Hid (G = D) := by have := HD.out; rw [hr, Nat.gcd_zero_right] at this; exact this
      subst hr
      obtain rfl := HE.out
      clear HD HE
      have hg0 : ((G : Int) == 0) = false := by simp; omega
      go_wp2
      have e1 := H1.out
      have e2 := H2.out
      clear H1 H2
      go_region
      all_goals go_wp2
      all_goals exact bodyPost_ret (v := .agg #[.int .u64 n, .int .u64 A1, .int .u64 B1]) (by simp [results, Trym.results8, go_sem]) rfl ⟨rfl, (((grown_drewN ((Grown.refl w).alloc _ _) _).setCell (Nat.le_refl _) _).setCell (Nat.le_refl _) _).setCell (Nat.le_refl _) _⟩
    · have hr0 : ((R : Int) == 0) = false := by simp; omega
      have hr1 : 0 < R := by omega
      go_wp2
      go_quiet (fail)
      go_wp2
      go_roundw
      case rel => exact ⟨R, G % R, d + nq, hR, Nat.le_trans (Nat.mod_le _ _) hG, rfl, congrArg (Value.int .u64) (Int.natCast_emod G R).symm, (gcd_step G R).trans HD.out, by simp⟩
      case measure =>
        have := Nat.mod_lt G hr1
        simp [intOf]
        rw [← Int.natCast_emod]
        omega
set_option maxHeartbeats 1000000 in
theorem zznew_any (n : Int) (a b : Int) (A B D A1 B1 : Nat) (w : World) (ha : a = (A : Int)) (hb : b = (B : Int)) (hA : A ≤ 18446744073709551615) (hB : B ≤ 18446744073709551615) (hD : Nat.gcd A B = D) (h0 : 0 < D) (hA1 : A / D = A1) (hB1 : B / D = B1) :
    Calls Trym.prog 6 #[.int .u64 n, .int .u64 a, .int .u64 b] w fun e w' => e = .returned (.tuple #[.int .u64 n, .int .u64 A1, .int .u64 B1]) ∧ Grown w w' := by
  subst ha; subst hb
  have H := newbin_any n A B D A1 B1 w hA hB hD h0 hA1 hB1
  clear hD hA1 hB1
  go_enter Trym.func6, Trym.ntmps6
  go_wp2_with (go_at_call 8; refine H.mono ?_; rintro e w1 ⟨rfl, hg1⟩)
  go_quiet (fail)
  go_wp2
  go_ret3
  exact ⟨rfl, grown_drewN (hg1.alloc _ _) _⟩
/-- The same contract of zzBinGCD at numbers as they stand in a frame. -/
theorem bin_at (x y : Int) (X Y : Nat) (w : World) (hx : x = (X : Int)) (hy : y = (Y : Int)) (hX : X ≤ 18446744073709551615) (hY : Y ≤ 18446744073709551615) (hg : Nat.gcd X Y = 1) :
    Calls Trym.prog 7 #[.int .u64 x, .int .u64 y] w fun e w' => e = .returned (.int .u64 1) ∧ w' = w := by
  subst hx; subst hy
  exact bin_any X Y w hX hY hg
end Go.Proofs.Qxb6617127aMods
