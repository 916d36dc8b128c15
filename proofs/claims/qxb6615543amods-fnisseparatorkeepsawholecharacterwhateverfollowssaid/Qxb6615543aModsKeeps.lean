/-
  THE WALK OF FnIsSeparatorKeepsAWholeCharacterWhateverFollows, out of the contracts.
-/
import Derived.Test.Qxb6615543aModsZz
namespace Go.Proofs.Qxb6615543aMods
open Go.RowKit
set_option linter.unusedVariables false

/-! ### THE LAW's WALK behind its tests, out of the contracts -/
set_option maxHeartbeats 2000000 in
theorem keeps_own (ad : Addr) (n0 cap0 : Nat) (xs : List Int) (a1 : Option Addr) (n1 cap1 : Nat) (ys : List Int) (k : Nat) (w : World) (hx : InRow w (some ad) n0 xs) (hy : InRow w a1 n1 ys) (hn : n0 + n1 ≤ 1048576) (hk : k ≤ 1073741824)
    (s t : Bool) (hs : sepAt xs k = s) (ht : sepAt (xs ++ ys) k = t) (hg : n0 < k + 3 ∨ t = s) :
    Calls Trym.prog 5 #[.slice (some ad) n0 cap0, .slice a1 n1 cap1, .int .i64 k] w fun e w' => e = .returned (.bool true) ∧ Below w.heap.size w w' := by
  obtain ⟨i0, hi, hz0, hz1, hz2⟩ := info_parts Trym.info5
  have hq0 : ¬ (1048576 : Int) < (n0 : Int) := by omega
  have hq1 : ¬ (1048576 : Int) < (n1 : Int) := by omega
  have hq2 : ¬ (1048576 : Int) < (n0 : Int) + (n1 : Int) := by omega
  have hi0 : ¬ (k : Int) < 0 := by omega
  have hi1 : ¬ (1073741824 : Int) < (k : Int) := by omega
  have HX : Hid (InRow w (some ad) n0 xs) := hx
  have HY : Hid (InRow w a1 n1 ys) := hy
  clear hx hy
  have hmx : n0 ≤ maxLen := by unfold maxLen; omega
  have hnil := fun wx => run_neq_slice_nil_any (P := Trym.prog) wx 27 5 (some ad) n0 cap0 0 0 Trym.underlying27
  have hsz : (Trym.prog.info? 5).map (·.size) = some 1 := by rw [hi]; simp [hz1]
  have hways : ((n0 : Int) < (k : Int) + 3 ∧ (s = true ∨ s = false) ∧ (t = true ∨ t = false)) ∨ (¬ (n0 : Int) < (k : Int) + 3 ∧ t = s ∧ (s = true ∨ s = false)) := by
    by_cases h : (n0 : Int) < (k : Int) + 3
    · exact .inl ⟨h, by cases s <;> simp, by cases t <;> simp⟩
    · exact .inr ⟨h, hg.resolve_left (by omega), by cases s <;> simp⟩
  clear hg
  rcases hways with ⟨h3, hss, htt⟩ | ⟨h3, rfl, hss⟩
  · rcases hss with rfl | rfl <;> rcases htt with rfl | rfl
    all_goals
      go_enter Trym.func5, Trym.ntmps5
      go_wp2_with (first | (go_at_call 16; refine (zz16_yes _ _ _ _ _ _ _ _ hn).mono ?_; rintro e w' ⟨rfl, hw⟩; obtain rfl : w = w' := hw.symm) | (at_make; refine wpList_make_is _ rfl _ _ 27 rfl 5 i0 .u8 Trym.underlying27 hi hz0 hz1 _ _ _ _ n0 rfl rfl (by omega) (by omega) (by rw [hz2]; omega) hmx ?_))
      intro w1 HR1 hb1
      obtain ⟨w2, hcp, hr2, hb2⟩ := copy_is (cap := cap0) 27 5 Trym.underlying27 hsz (HX.out.after hb1) w.heap.size w.heap.size (Nat.le_refl _) (zs := List.replicate n0 0) (by simp) (by simpa using HR1.out)
      have HB : Hid (Below w.heap.size w w2) := hb1.trans hb2
      have HP : Hid (InRow w2 a1 n1 ys) := HY.out.after HB.out
      have HD : Hid (InRow w2 (some ⟨w.heap.size, 0, none⟩) n0 xs) := InRow.copied HX.out hr2
      clear HR1 hb1 hr2 hb2
      go_wp2_with fail
      refine (join_any _ n0 _ xs _ n1 _ ys _ HD.out HP.out hn).mono ?_
      rintro e w3 ⟨rfl, hr3, hb3⟩
      have HD3 : Hid (InRow w3 (some ⟨w.heap.size, 0, none⟩) n0 xs) := HD.out.after hb3
      have HW3 : Hid (InRow w3 (some ⟨w2.heap.size, 0, none⟩) (n0 + n1) (xs ++ ys)) := InRow.joined HD.out HP.out hr3
      have HB3 : Hid (Below w.heap.size w w3) := HB.out.trans (hb3.mono HB.out.size)
      clear hr3 hb3
      go_wp2_with fail
      refine (zzsep_any _ n0 _ k _ xs _ HD3.out (by omega) rfl (by omega)).mono ?_
      rintro e w4 ⟨he, hb4⟩
      rw [hs] at he
      subst he
      have HD4 : Hid (InRow w4 (some ⟨w.heap.size, 0, none⟩) n0 xs) := HD3.out.after hb4
      have HW4 : Hid (InRow w4 (some ⟨w2.heap.size, 0, none⟩) (n0 + n1) (xs ++ ys)) := HW3.out.after hb4
      have HB4 : Hid (Below w.heap.size w w4) := HB3.out.trans (hb4.mono HB3.out.size)
      clear hb4
      go_wp2_with fail
      refine (zzsep_any _ (n0 + n1) _ k _ (xs ++ ys) _ HW4.out (by omega) rfl (by omega)).mono ?_
      rintro e w5 ⟨he, hb5⟩
      rw [ht] at he
      subst he
      have HD5 : Hid (InRow w5 (some ⟨w.heap.size, 0, none⟩) n0 xs) := HD4.out.after hb5
      have HW5 : Hid (InRow w5 (some ⟨w2.heap.size, 0, none⟩) (n0 + n1) (xs ++ ys)) := HW4.out.after hb5
      have HB5 : Hid (Below w.heap.size w w5) := HB4.out.trans (hb5.mono HB4.out.size)
      clear hb5
      go_wp2_with fail
      refine (enc_any _ n0 _ k _ xs _ HD5.out (by omega) rfl (by omega)).mono ?_
      rintro e w6 ⟨he, hw6⟩
      obtain rfl : w5 = w6 := hw6.symm
      rw [hs] at he
      subst he
      go_wp2_with fail
      refine (enc_any _ (n0 + n1) _ k _ (xs ++ ys) _ HW5.out (by omega) rfl (by omega)).mono ?_
      rintro e w7 ⟨he, hw7⟩
      obtain rfl : w5 = w7 := hw7.symm
      rw [ht] at he
      subst he
      go_wp2
      go_ret
      exact ⟨rfl, HB5.out⟩
  · rcases hss with rfl | rfl
    all_goals
      go_enter Trym.func5, Trym.ntmps5
      go_wp2_with (first | (go_at_call 16; refine (zz16_yes _ _ _ _ _ _ _ _ hn).mono ?_; rintro e w' ⟨rfl, hw⟩; obtain rfl : w = w' := hw.symm) | (at_make; refine wpList_make_is _ rfl _ _ 27 rfl 5 i0 .u8 Trym.underlying27 hi hz0 hz1 _ _ _ _ n0 rfl rfl (by omega) (by omega) (by rw [hz2]; omega) hmx ?_))
      intro w1 HR1 hb1
      obtain ⟨w2, hcp, hr2, hb2⟩ := copy_is (cap := cap0) 27 5 Trym.underlying27 hsz (HX.out.after hb1) w.heap.size w.heap.size (Nat.le_refl _) (zs := List.replicate n0 0) (by simp) (by simpa using HR1.out)
      have HB : Hid (Below w.heap.size w w2) := hb1.trans hb2
      have HP : Hid (InRow w2 a1 n1 ys) := HY.out.after HB.out
      have HD : Hid (InRow w2 (some ⟨w.heap.size, 0, none⟩) n0 xs) := InRow.copied HX.out hr2
      clear HR1 hb1 hr2 hb2
      go_wp2_with fail
      refine (join_any _ n0 _ xs _ n1 _ ys _ HD.out HP.out hn).mono ?_
      rintro e w3 ⟨rfl, hr3, hb3⟩
      have HD3 : Hid (InRow w3 (some ⟨w.heap.size, 0, none⟩) n0 xs) := HD.out.after hb3
      have HW3 : Hid (InRow w3 (some ⟨w2.heap.size, 0, none⟩) (n0 + n1) (xs ++ ys)) := InRow.joined HD.out HP.out hr3
      have HB3 : Hid (Below w.heap.size w w3) := HB.out.trans (hb3.mono HB.out.size)
      clear hr3 hb3
      go_wp2_with fail
      refine (zzsep_any _ n0 _ k _ xs _ HD3.out (by omega) rfl (by omega)).mono ?_
      rintro e w4 ⟨he, hb4⟩
      rw [hs] at he
      subst he
      have HD4 : Hid (InRow w4 (some ⟨w.heap.size, 0, none⟩) n0 xs) := HD3.out.after hb4
      have HW4 : Hid (InRow w4 (some ⟨w2.heap.size, 0, none⟩) (n0 + n1) (xs ++ ys)) := HW3.out.after hb4
      have HB4 : Hid (Below w.heap.size w w4) := HB3.out.trans (hb4.mono HB3.out.size)
      clear hb4
      go_wp2_with fail
      refine (zzsep_any _ (n0 + n1) _ k _ (xs ++ ys) _ HW4.out (by omega) rfl (by omega)).mono ?_
      rintro e w5 ⟨he, hb5⟩
      rw [ht] at he
      subst he
      have HD5 : Hid (InRow w5 (some ⟨w.heap.size, 0, none⟩) n0 xs) := HD4.out.after hb5
      have HW5 : Hid (InRow w5 (some ⟨w2.heap.size, 0, none⟩) (n0 + n1) (xs ++ ys)) := HW4.out.after hb5
      have HB5 : Hid (Below w.heap.size w w5) := HB4.out.trans (hb5.mono HB4.out.size)
      clear hb5
      go_wp2_with fail
      refine (enc_any _ n0 _ k _ xs _ HD5.out (by omega) rfl (by omega)).mono ?_
      rintro e w6 ⟨he, hw6⟩
      obtain rfl : w5 = w6 := hw6.symm
      rw [hs] at he
      subst he
      go_wp2_with fail
      refine (enc_any _ (n0 + n1) _ k _ (xs ++ ys) _ HW5.out (by omega) rfl (by omega)).mono ?_
      rintro e w7 ⟨he, hw7⟩
      obtain rfl : w5 = w7 := hw7.symm
      rw [ht] at he
      subst he
      go_wp2
      go_ret
      exact ⟨rfl, HB5.out⟩

set_option maxHeartbeats 1000000 in
theorem keeps_main (a0 : Option Addr) (n0 cap0 : Nat) (xs : List Int) (a1 : Option Addr) (n1 cap1 : Nat) (ys : List Int) (k : Nat) (w : World) (hx : InRow w a0 n0 xs) (hy : InRow w a1 n1 ys) (hn : n0 + n1 ≤ 1048576) (hk : k ≤ 1073741824) :
    Calls Trym.prog 5 #[.slice a0 n0 cap0, .slice a1 n1 cap1, .int .i64 k] w fun e w' => e = .returned (.bool true) ∧ Below w.heap.size w w' := by
  obtain ⟨i0, hi, hz0, hz1, hz2⟩ := info_parts Trym.info5
  have hq0 : ¬ (1048576 : Int) < (n0 : Int) := by omega
  have hq1 : ¬ (1048576 : Int) < (n1 : Int) := by omega
  have hq2 : ¬ (1048576 : Int) < (n0 : Int) + (n1 : Int) := by omega
  have hi0 : ¬ (k : Int) < 0 := by omega
  have hi1 : ¬ (1073741824 : Int) < (k : Int) := by omega
  have HX : Hid (InRow w a0 n0 xs) := hx
  have HY : Hid (InRow w a1 n1 ys) := hy
  clear hx hy
  have hnil := fun wx => run_neq_slice_nil_any (P := Trym.prog) wx 27 5 a0 n0 cap0 0 0 Trym.underlying27
  have hl0 := HX.out.len
  have HS : Hid (k + 3 ≤ n0 → sepAt (xs ++ ys) k = sepAt xs k) := fun h => sepAt_keeps xs ys k (by omega)
  clear hl0
  have hsz : (Trym.prog.info? 5).map (·.size) = some 1 := by rw [hi]; simp [hz1]
  -- the six ways on which the answers may lie
  have hways : (n0 < k + 3 ∨ sepAt (xs ++ ys) k = sepAt xs k) ∧ (sepAt xs k = true ∨ sepAt xs k = false) ∧ (sepAt (xs ++ ys) k = true ∨ sepAt (xs ++ ys) k = false) := by
    refine ⟨?_, by cases sepAt xs k <;> simp, by cases sepAt (xs ++ ys) k <;> simp⟩
    by_cases h : k + 3 ≤ n0
    · exact .inr (HS.out h)
    · exact .inl (by omega)
  clear HS
  obtain ⟨hg, hs, ht⟩ := hways
  by_cases hnn : a0 = none
  · subst hnn
    have HB : Hid (Below w.heap.size w w) := Below.refl _ _
    have HD : Hid (InRow w none n0 xs) := HX
    have HP : Hid (InRow w a1 n1 ys) := HY
    clear HX HY
    have hn3 : n0 < k + 3 := by
      by_cases h : 0 < n0
      · obtain ⟨b, off, e, _⟩ := HD.out.lies h
        cases e
      · omega
    have hn3' : (n0 : Int) < (k : Int) + 3 := by omega
    clear hg
    rcases hs with hs | hs <;> rcases ht with ht | ht
    all_goals
      go_enter Trym.func5, Trym.ntmps5
      go_wp2_with (go_at_call 16; refine (zz16_yes _ _ _ _ _ _ _ _ hn).mono ?_; rintro e w' ⟨rfl, hw⟩; obtain rfl : w = w' := hw.symm)
      refine (join_any _ n0 _ xs _ n1 _ ys _ HD.out HP.out hn).mono ?_
      rintro e w3 ⟨rfl, hr3, hb3⟩
      have HD3 : Hid (InRow w3 none n0 xs) := HD.out.after hb3
      have HW3 : Hid (InRow w3 (some ⟨w.heap.size, 0, none⟩) (n0 + n1) (xs ++ ys)) := InRow.joined HD.out HP.out hr3
      have HB3 : Hid (Below w.heap.size w w3) := HB.out.trans (hb3.mono HB.out.size)
      clear hr3 hb3
      go_wp2_with fail
      refine (zzsep_any _ n0 _ k _ xs _ HD3.out (by omega) rfl (by omega)).mono ?_
      rintro e w4 ⟨he, hb4⟩
      rw [hs] at he
      subst he
      have HD4 : Hid (InRow w4 none n0 xs) := HD3.out.after hb4
      have HW4 : Hid (InRow w4 (some ⟨w.heap.size, 0, none⟩) (n0 + n1) (xs ++ ys)) := HW3.out.after hb4
      have HB4 : Hid (Below w.heap.size w w4) := HB3.out.trans (hb4.mono HB3.out.size)
      clear hb4
      go_wp2_with fail
      refine (zzsep_any _ (n0 + n1) _ k _ (xs ++ ys) _ HW4.out (by omega) rfl (by omega)).mono ?_
      rintro e w5 ⟨he, hb5⟩
      rw [ht] at he
      subst he
      have HD5 : Hid (InRow w5 none n0 xs) := HD4.out.after hb5
      have HW5 : Hid (InRow w5 (some ⟨w.heap.size, 0, none⟩) (n0 + n1) (xs ++ ys)) := HW4.out.after hb5
      have HB5 : Hid (Below w.heap.size w w5) := HB4.out.trans (hb5.mono HB4.out.size)
      clear hb5
      go_wp2_with fail
      refine (enc_any _ n0 _ k _ xs _ HD5.out (by omega) rfl (by omega)).mono ?_
      rintro e w6 ⟨he, hw6⟩
      obtain rfl : w5 = w6 := hw6.symm
      rw [hs] at he
      subst he
      go_wp2_with fail
      refine (enc_any _ (n0 + n1) _ k _ (xs ++ ys) _ HW5.out (by omega) rfl (by omega)).mono ?_
      rintro e w7 ⟨he, hw7⟩
      obtain rfl : w5 = w7 := hw7.symm
      rw [ht] at he
      subst he
      go_wp2
      go_ret
      exact ⟨rfl, HB5.out⟩
  · obtain ⟨ad, rfl⟩ : ∃ ad, a0 = some ad := by cases a0 with | none => exact absurd rfl hnn | some ad => exact ⟨ad, rfl⟩
    exact keeps_own ad n0 cap0 xs a1 n1 cap1 ys k w HX.out HY.out hn hk _ _ rfl rfl hg

set_option maxHeartbeats 1000000 in
theorem keeps_any (a0 : Option Addr) (n0 cap0 : Nat) (xs : List Int) (a1 : Option Addr) (n1 cap1 : Nat) (ys : List Int) (i : Int) (w : World) (hx : InRow w a0 n0 xs) (hy : InRow w a1 n1 ys) (bi : -9223372036854775808 ≤ i ∧ i ≤ 9223372036854775807) :
    Calls Trym.prog 5 #[.slice a0 n0 cap0, .slice a1 n1 cap1, .int .i64 i] w fun e w' => e = .returned (.bool true) ∧ Below w.heap.size w w' := by
  obtain ⟨bi0, bi1⟩ := bi
  by_cases hn : n0 + n1 ≤ 1048576
  · have hq0 : ¬ (1048576 : Int) < (n0 : Int) := by omega
    have hq1 : ¬ (1048576 : Int) < (n1 : Int) := by omega
    have hq2 : ¬ (1048576 : Int) < (n0 : Int) + (n1 : Int) := by omega
    by_cases hi0 : i < 0
    · clear hx hy
      go_enter Trym.func5, Trym.ntmps5
      go_wp2_with (go_at_call 16; refine (zz16_yes _ _ _ _ _ _ _ _ hn).mono ?_; rintro e w' ⟨rfl, rfl⟩)
      go_ret
      exact ⟨rfl, Below.refl _ _⟩
    · by_cases hi1 : 1073741824 < i
      · clear hx hy
        go_enter Trym.func5, Trym.ntmps5
        go_wp2_with (go_at_call 16; refine (zz16_yes _ _ _ _ _ _ _ _ hn).mono ?_; rintro e w' ⟨rfl, rfl⟩)
        go_ret
        exact ⟨rfl, Below.refl _ _⟩
      · obtain ⟨k, rfl⟩ : ∃ k : Nat, i = (k : Int) := ⟨i.toNat, by omega⟩
        have hk : k ≤ 1073741824 := by omega
        exact keeps_main a0 n0 cap0 xs a1 n1 cap1 ys k w hx hy hn hk
  · go_enter Trym.func5, Trym.ntmps5
    go_wp2_with (go_at_call 16; refine (zz16_no _ _ _ _ _ _ _ _ hn).mono ?_; rintro e w' ⟨rfl, rfl⟩)
    go_ret
    exact ⟨rfl, Below.refl _ _⟩

end Go.Proofs.Qxb6615543aMods
