/-
  THE CONTRACT OF zzBinGCD AT COPRIME NUMBERS: Stein's loop ends in 1.
-/
import Derived.Test.Qxb6617127aModsRows
import Derived.WalkKit
import Derived.WalkLawsBesides
import Derived.WalkSmall
namespace Go.Proofs.Qxb6617127aMods
open Go.RowKit
set_option linter.unusedVariables false

theorem ret_u64 {a b : Int} (h : a = b) : Ending.returned (.int .u64 a) = .returned (.int .u64 b) := by rw [h]

/-! ### THE PLAIN MATHEMATICS -/
theorem cop_even {X Y : Nat} (h : Nat.gcd X Y = 1) (hx : X % 2 = 0) (hy : Y % 2 = 0) : False := by
  have h1 : 2 ∣ Nat.gcd X Y := Nat.dvd_gcd (Nat.dvd_of_mod_eq_zero hx) (Nat.dvd_of_mod_eq_zero hy)
  rw [h] at h1
  have := Nat.le_of_dvd (by omega) h1
  omega
theorem cop_half_left {X Y : Nat} (h : Nat.gcd X Y = 1) (hx : X % 2 = 0) : Nat.gcd (X / 2) Y = 1 :=
  Nat.Coprime.coprime_dvd_left (Nat.div_dvd_of_dvd (Nat.dvd_of_mod_eq_zero hx)) h
theorem cop_half_right {X Y : Nat} (h : Nat.gcd X Y = 1) (hy : Y % 2 = 0) : Nat.gcd X (Y / 2) = 1 :=
  Nat.Coprime.coprime_dvd_right (Nat.div_dvd_of_dvd (Nat.dvd_of_mod_eq_zero hy)) h
theorem cop_sub {X Y : Nat} (h : Nat.gcd X Y = 1) (hl : X ≤ Y) : Nat.gcd X (Y - X) = 1 := by
  rw [Nat.gcd_sub_self_right hl]; exact h
theorem cop_swap_sub {X Y : Nat} (h : Nat.gcd X Y = 1) (hl : Y ≤ X) : Nat.gcd Y (X - Y) = 1 := by
  rw [Nat.gcd_sub_self_right hl, Nat.gcd_comm]; exact h
theorem or_odd {X Y : Nat} (h : Nat.gcd X Y = 1) (hX : X ≤ 18446744073709551615) (hY : Y ≤ 18446744073709551615) : (bits BinOp.and IntKind.u64 (bits BinOp.or IntKind.u64 (X : Int) (Y : Int)) 1 == 0) = false := by
  have hlt : X ||| Y < 2 ^ 64 := Nat.or_lt_two_pow (by omega) (by omega)
  rw [bits_or_u64_nat X Y (by omega) (by omega), and_one_u64 _ (by omega) (by omega)]
  have h1 : (X ||| Y).testBit 0 = true := by
    rw [Nat.testBit_or, Nat.testBit_zero, Nat.testBit_zero]
    by_cases hx : X % 2 = 0
    · have hy : Y % 2 = 1 := by
        by_cases hy : Y % 2 = 0
        · exact (cop_even h hx hy).elim
        · omega
      simp [hy]
    · have hx1 : X % 2 = 1 := by omega
      simp [hx1]
  rw [Nat.testBit_zero, decide_eq_true_iff] at h1
  simp only [beq_eq_false_iff_ne, ne_eq]
  generalize X ||| Y = z at h1
  omega
theorem bit_even {U : Nat} (hU : U ≤ 18446744073709551615) (h : U % 2 = 0) : (bits BinOp.and IntKind.u64 (U : Int) 1 == 0) = true := by
  rw [and_one_u64 _ (by omega) (by omega)]; simp; omega
theorem bit_odd {U : Nat} (hU : U ≤ 18446744073709551615) (h : ¬ U % 2 = 0) : (bits BinOp.and IntKind.u64 (U : Int) 1 == 0) = false := by
  rw [and_one_u64 _ (by omega) (by omega)]; simp; omega

/-! ### THE WALK -/
set_option maxHeartbeats 1000000 in
theorem bin_main (X Y : Nat) (w : World) (hx : 0 < X) (hy : 0 < Y) (hX : X ≤ 18446744073709551615) (hY : Y ≤ 18446744073709551615) (hg : Nat.gcd X Y = 1) :
    Calls Trym.prog 7 #[.int .u64 X, .int .u64 Y] w fun e w' => e = .returned (.int .u64 1) ∧ w' = w := by
  have hx0 : ((X : Int) == 0) = false := by simp; omega
  have hy0 : ((Y : Int) == 0) = false := by simp; omega
  have hor := or_odd hg hX hY
  have HG : Hid (Nat.gcd X Y = 1) := hg
  clear hg
  go_enter Trym.func7, Trym.ntmps7
  go_wp2
  go_loop [0, 1, 5] (fun x y s => x = .int .u64 X ∧ y = .int .u64 Y ∧ s = .int .u64 0) (fun _ _ _ => 0)
  case atStart => exact ⟨rfl, rfl, rfl⟩
  case round =>
    obtain ⟨rfl, rfl, rfl⟩ := hrel
    go_wp2
    go_loop [0] (fun x => ∃ U : Nat, 0 < U ∧ U ≤ 18446744073709551615 ∧ x = .int .u64 U ∧ Hid (Nat.gcd U Y = 1)) (fun x => (intOf x).toNat)
    case atStart => exact ⟨X, hx, hX, rfl, HG⟩
    case round =>
      clear HG hor
      obtain ⟨U, hU0, hU1, rfl, HG⟩ := hrel
      by_cases hev : U % 2 = 0
      · have hb := bit_even hU1 hev
        go_wp2
        go_round
        case rel => exact ⟨U / 2, by omega, by omega, by go_num, cop_half_left HG.out hev⟩
        case measure => simp [intOf]; omega
      · have hb := bit_odd hU1 hev
        go_wp2
        go_loop [0, 1] (fun x y => ∃ U V : Nat, 0 < U ∧ U ≤ 18446744073709551615 ∧ V ≤ 18446744073709551615 ∧ ¬ U % 2 = 0 ∧ x = .int .u64 U ∧ y = .int .u64 V ∧ Hid (Nat.gcd U V = 1)) (fun x y => (intOf x + intOf y).toNat)
        case atStart => exact ⟨U, Y, hU0, hU1, hY, hev, rfl, rfl, HG⟩
        case round =>
          clear HG hb hev hU0 hU1
          obtain ⟨U, V, hU0, hU1, hV1, hev, rfl, rfl, HG⟩ := hrel
          by_cases hV : V = 0
          · have HU : Hid (U = 1) := by have := HG.out; rw [hV, Nat.gcd_zero_right] at this; exact this
            subst hV
            clear HG
            go_wp2
            go_ret
            exact ⟨ret_u64 (by have := HU.out; omega), rfl⟩
          · have hV0 : ((V : Int) == 0) = false := by simp; omega
            go_wp2
            go_loop [1] (fun y => ∃ T : Nat, 0 < T ∧ T ≤ V ∧ y = .int .u64 T ∧ Hid (Nat.gcd U T = 1)) (fun y => (intOf y).toNat)
            case atStart => exact ⟨V, by omega, Nat.le_refl _, rfl, HG⟩
            case round =>
              clear HG
              obtain ⟨T, hT0, hT1, rfl, HG⟩ := hrel
              have hT2 : T ≤ 18446744073709551615 := by omega
              by_cases hte : T % 2 = 0
              · have hb := bit_even hT2 hte
                go_wp2
                go_round
                case rel => exact ⟨T / 2, by omega, by omega, by go_num, cop_half_right HG.out hte⟩
                case measure => simp [intOf]; omega
              · have hb := bit_odd hT2 hte
                by_cases hlt : T < U
                · have hlt' : (T : Int) < (U : Int) := by omega
                  have HG' := cop_swap_sub HG.out (Nat.le_of_lt hlt)
                  have HH : Hid (Nat.gcd T (U - T) = 1) := HG'
                  clear HG HG'
                  go_wp2
                  go_round
                  case rel => exact ⟨T, U - T, hT0, hT2, by omega, hte, rfl, by go_num, HH⟩
                  case measure => simp [intOf]; omega
                · have hlt' : ¬ (T : Int) < (U : Int) := by omega
                  have HG' := cop_sub HG.out (show U ≤ T by omega)
                  have HH : Hid (Nat.gcd U (T - U) = 1) := HG'
                  clear HG HG'
                  go_wp2
                  go_round
                  case rel => exact ⟨U, T - U, hU0, hU1, by omega, hev, rfl, by go_num, HH⟩
                  case measure => simp [intOf]; omega

set_option maxHeartbeats 400000 in
theorem bin_any (X Y : Nat) (w : World) (hX : X ≤ 18446744073709551615) (hY : Y ≤ 18446744073709551615) (hg : Nat.gcd X Y = 1) :
    Calls Trym.prog 7 #[.int .u64 X, .int .u64 Y] w fun e w' => e = .returned (.int .u64 1) ∧ w' = w := by
  by_cases hx : X = 0
  · subst hx
    rw [Nat.gcd_zero_left] at hg
    subst hg
    go_enter Trym.func7, Trym.ntmps7
    go_wp2
    go_ret
    exact ⟨rfl, rfl⟩
  · by_cases hy : Y = 0
    · subst hy
      rw [Nat.gcd_zero_right] at hg
      subst hg
      go_enter Trym.func7, Trym.ntmps7
      go_wp2
      go_ret
      exact ⟨rfl, rfl⟩
    · exact bin_main X Y w (by omega) (by omega) hX hY hg
end Go.Proofs.Qxb6617127aMods
