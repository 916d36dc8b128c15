/-
  THE WALK OF FnSuffixTypeIsSuffixOrder, out of the contracts.
-/
import Derived.Test.Qxb6616952aModsRRZz
namespace Go.Proofs.Qxb6616952aModsRR
open Go.RowKit
set_option linter.unusedVariables false

set_option maxHeartbeats 1000000 in
theorem order_main (a : Option Addr) (n cap : Nat) (bs : List Int) (w : World) (hx : InRow w a n bs) (hn : n ≤ 4096) :
    Calls Trym.prog 5 #[.slice a n cap] w fun e w' => e = .returned (.bool true) ∧ Below w.heap.size w w' := by
  obtain ⟨i0, hi, hz0, hz1, hz2⟩ := info_parts Trym.info5
  have hq0 : ¬ (4096 : Int) < (n : Int) := by omega
  have HX : Hid (InRow w a n bs) := hx
  clear hx
  have hmx : n ≤ maxLen := by unfold maxLen; omega
  have hnil := fun wx => run_neq_slice_nil_any (P := Trym.prog) wx 27 5 a n cap 0 0 Trym.underlying27
  have hsz : (Trym.prog.info? 5).map (·.size) = some 1 := by rw [hi]; simp [hz1]
  cases a with
  | none =>
      go_enter Trym.func5, Trym.ntmps5
      go_wp2_with (go_at_call 10; refine (zz10_yes _ _ _ _ (by omega)).mono ?_; rintro e w' ⟨rfl, hw⟩; obtain rfl : w = w' := hw.symm)
      refine (zzclassify_any _ n _ bs _ HX.out (by omega)).mono ?_
      rintro e w3 ⟨rfl, hT, hb3⟩
      obtain ⟨G, hG⟩ : ∃ G, G = w.heap.size := ⟨_, rfl⟩
      rw [← hG] at hT ⊢
      have HG : Hid (G = w.heap.size) := hG
      have HD3 : Hid (InRow w3 none n bs) := HX.out.after hb3
      have HT3 : Hid (Told w3 G ((n + 63) / 64) n (sAt bs)) := hT
      have HB3 : Hid (Below w.heap.size w w3) := hb3
      clear hT hb3 hG
      go_wp2
      go_loopw [5] (fun i wr => ∃ k : Nat, k ≤ n ∧ i = .int .i64 k ∧ Hid (InRow wr none n bs) ∧ Hid (Told wr G ((n + 63) / 64) n (sAt bs)) ∧ Hid (Below w.heap.size w wr)) (fun i _ => n - (intOf i).toNat)
      case atStart => exact ⟨0, Nat.zero_le _, rfl, HD3, HT3, HB3⟩
      case round =>
        clear HD3 HT3 HB3
        obtain ⟨k, hk, rfl, HD, HT, HB⟩ := hrel
        by_cases hlt : k < n
        · have hs : sAt bs k = true ∨ sAt bs k = false := by cases sAt bs k <;> simp
          rcases hs with hs | hs
          all_goals
            go_wp2_with fail
            refine (zzs_any _ _ n k (sAt bs) _ HT.out hlt).mono ?_
            rintro e w4 ⟨he, hw4⟩
            obtain rfl : wr = w4 := hw4.symm
            rw [hs] at he
            subst he
            go_wp2_with fail
            refine (less_any _ n _ k bs _ HD.out (by omega) hlt).mono ?_
            rintro e w5 ⟨he, hb5⟩
            rw [hs] at he
            subst he
            have HD5 : Hid (InRow w5 none n bs) := HD.out.after hb5
            have HT5 : Hid (Told w5 G ((n + 63) / 64) n (sAt bs)) := HT.out.after hb5
            have HB5 : Hid (Below w.heap.size w w5) := HB.out.trans (hb5.mono HB.out.size)
            clear hb5
            go_wp2
            go_roundw
            case rel => exact ⟨k + 1, by omega, by go_num, HD5, HT5, HB5⟩
            case measure => simp [intOf]; omega
        · go_wp2
          go_ret
          exact ⟨rfl, HB.out⟩
  | some ad =>
      go_enter Trym.func5, Trym.ntmps5
      go_wp2_with (first | (go_at_call 10; refine (zz10_yes _ _ _ _ (by omega)).mono ?_; rintro e w' ⟨rfl, hw⟩; obtain rfl : w = w' := hw.symm) | (at_make; refine wpList_make_is _ rfl _ _ 27 rfl 5 i0 .u8 Trym.underlying27 hi hz0 hz1 _ _ _ _ n rfl rfl (by omega) (by omega) (by rw [hz2]; omega) hmx ?_))
      intro w1 HR1 hb1
      obtain ⟨w2, hcp, hr2, hb2⟩ := copy_is (cap := cap) 27 5 Trym.underlying27 hsz (HX.out.after hb1) w.heap.size w.heap.size (Nat.le_refl _) (zs := List.replicate n 0) (by simp) (by simpa using HR1.out)
      have HB2 : Hid (Below w.heap.size w w2) := hb1.trans hb2
      have HD2 : Hid (InRow w2 (some ⟨w.heap.size, 0, none⟩) n bs) := InRow.copied HX.out hr2
      clear HR1 hb1 hr2 hb2
      go_wp2_with fail
      refine (zzclassify_any _ n _ bs _ HD2.out (by omega)).mono ?_
      rintro e w3 ⟨rfl, hT, hb3⟩
      obtain ⟨G, hG⟩ : ∃ G, G = w2.heap.size := ⟨_, rfl⟩
      rw [← hG] at hT ⊢
      have HD3 : Hid (InRow w3 (some ⟨w.heap.size, 0, none⟩) n bs) := HD2.out.after hb3
      have HT3 : Hid (Told w3 G ((n + 63) / 64) n (sAt bs)) := hT
      have HB3 : Hid (Below w.heap.size w w3) := HB2.out.trans (hb3.mono HB2.out.size)
      clear hT hb3 hG
      go_wp2
      go_loopw [5] (fun i wr => ∃ k : Nat, k ≤ n ∧ i = .int .i64 k ∧ Hid (InRow wr (some ⟨w.heap.size, 0, none⟩) n bs) ∧ Hid (Told wr G ((n + 63) / 64) n (sAt bs)) ∧ Hid (Below w.heap.size w wr)) (fun i _ => n - (intOf i).toNat)
      case atStart => exact ⟨0, Nat.zero_le _, rfl, HD3, HT3, HB3⟩
      case round =>
        clear HD3 HT3 HB3
        obtain ⟨k, hk, rfl, HD, HT, HB⟩ := hrel
        by_cases hlt : k < n
        · have hs : sAt bs k = true ∨ sAt bs k = false := by cases sAt bs k <;> simp
          rcases hs with hs | hs
          all_goals
            go_wp2_with fail
            refine (zzs_any _ _ n k (sAt bs) _ HT.out hlt).mono ?_
            rintro e w4 ⟨he, hw4⟩
            obtain rfl : wr = w4 := hw4.symm
            rw [hs] at he
            subst he
            go_wp2_with fail
            refine (less_any _ n _ k bs _ HD.out (by omega) hlt).mono ?_
            rintro e w5 ⟨he, hb5⟩
            rw [hs] at he
            subst he
            have HD5 : Hid (InRow w5 (some ⟨w.heap.size, 0, none⟩) n bs) := HD.out.after hb5
            have HT5 : Hid (Told w5 G ((n + 63) / 64) n (sAt bs)) := HT.out.after hb5
            have HB5 : Hid (Below w.heap.size w w5) := HB.out.trans (hb5.mono HB.out.size)
            clear hb5
            go_wp2
            go_roundw
            case rel => exact ⟨k + 1, by omega, by go_num, HD5, HT5, HB5⟩
            case measure => simp [intOf]; omega
        · go_wp2
          go_ret
          exact ⟨rfl, HB.out⟩

set_option maxHeartbeats 1000000 in
theorem order_any (a : Option Addr) (n cap : Nat) (bs : List Int) (w : World) (hx : InRow w a n bs) :
    Calls Trym.prog 5 #[.slice a n cap] w fun e w' => e = .returned (.bool true) ∧ Below w.heap.size w w' := by
  by_cases h1 : n ≤ 1048576
  · by_cases h2 : n ≤ 4096
    · exact order_main a n cap bs w hx h2
    · have hq0 : (4096 : Int) < (n : Int) := by omega
      clear hx
      go_enter Trym.func5, Trym.ntmps5
      go_wp2_with (go_at_call 10; refine (zz10_yes _ _ _ _ h1).mono ?_; rintro e w' ⟨rfl, rfl⟩)
      go_ret
      exact ⟨rfl, Below.refl _ _⟩
  · clear hx
    go_enter Trym.func5, Trym.ntmps5
    go_wp2_with (go_at_call 10; refine (zz10_no _ _ _ _ h1).mono ?_; rintro e w' ⟨rfl, rfl⟩)
    go_ret
    exact ⟨rfl, Below.refl _ _⟩
end Go.Proofs.Qxb6616952aModsRR
