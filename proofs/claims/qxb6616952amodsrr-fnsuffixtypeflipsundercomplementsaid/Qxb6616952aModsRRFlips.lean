/-
  THE WALK OF FnSuffixTypeFlipsUnderComplement, out of the contracts.
-/
import Derived.Test.Qxb6616952aModsRRZz
namespace Go.Proofs.Qxb6616952aModsRR
open Go.RowKit
set_option linter.unusedVariables false

/-- A row that is being filled with zs: the first k are there, the rest is still zero. -/
def fill (zs : List Int) (k : Nat) : List Int := zs.take k ++ List.replicate (zs.length - k) 0
theorem fill_length (zs : List Int) (k : Nat) : (fill zs k).length = zs.length := by simp [fill]; omega
theorem fill_zero (zs : List Int) : fill zs 0 = List.replicate zs.length 0 := by simp [fill]
theorem fill_all (zs : List Int) : fill zs zs.length = zs := by simp [fill]
theorem fill_set (zs : List Int) (k : Nat) (h : k < zs.length) : (fill zs k).set k (zs[k]?.getD 0) = fill zs (k + 1) := by
  unfold fill
  have hk : (zs.take k).length = k := by simp; omega
  rw [List.set_append_right _ _ (by omega), hk, Nat.sub_self]
  rw [List.take_succ_eq_append_getElem h, List.append_assoc]
  congr 1
  obtain ⟨m, hm⟩ : ∃ m, zs.length - k = m + 1 := ⟨zs.length - k - 1, by omega⟩
  rw [hm, show zs.length - (k + 1) = m by omega, List.replicate_succ, List.set_cons_zero]
  simp [h]

theorem fill_row {w : World} {g : Nat} {e : TypeId} {zs : List Int} {k : Nat} (h : RowIs w g e ((fill zs k).map (Value.int .u8))) (hk : k < zs.length) :
    RowIs (w.setCell ⟨g, k, none⟩ (.int .u8 (zs[k]?.getD 0))) g e ((fill zs (k + 1)).map (Value.int .u8)) := by
  have := h.set k (.int .u8 (zs[k]?.getD 0))
  rwa [← List.map_set, fill_set zs k hk] at this

theorem row_cell {w : World} {g : Nat} {e : TypeId} {zs : List Int} (h : RowIs w g e (zs.map (Value.int .u8))) {k : Nat} (hk : k < zs.length) : w.cell? ⟨g, k, none⟩ = some (.int .u8 (zs[k]?.getD 0)) := by
  rw [h.cell k]; simp [hk]

/-- The new row in a round: k of the bytes zs are laid. -/
def FRow (w : World) (g : Nat) (zs : List Int) (k : Nat) : Prop := RowIs w g 5 ((fill zs k).map (Value.int .u8))
theorem FRow.start {w : World} {g n : Nat} {zs : List Int} (hl : zs.length = n) (h : Hid (RowIs w g 5 (List.replicate n (Value.int .u8 0)))) : FRow w g zs 0 := by
  unfold FRow; rw [fill_zero, hl]; simpa using h.out
theorem FRow.cell {w : World} {g : Nat} {zs : List Int} {k : Nat} (h : FRow w g zs k) (hk : k < zs.length) : ∃ v, w.cell? ⟨g, k, none⟩ = some (.int .u8 v) := ⟨_, row_cell h (by rw [fill_length]; exact hk)⟩
theorem FRow.frozen {w : World} {g : Nat} {zs : List Int} {k : Nat} (h : FRow w g zs k) : w.frozen? ⟨g, k, none⟩ = false := RowIs.frozen h k
theorem FRow.step {w : World} {g : Nat} {zs : List Int} {k : Nat} (h : FRow w g zs k) (hk : k < zs.length) {v : Int} (hv : v = zs[k]?.getD 0) : FRow (w.setCell ⟨g, k, none⟩ (.int .u8 v)) g zs (k + 1) := by
  subst hv; exact fill_row h hk

theorem InRow.at0 {w : World} {g n : Nat} {bs : List Int} (h : InRow w (some ⟨g, 0, none⟩) n bs) {j : Nat} (hj : j < n) : w.cell? ⟨g, j, none⟩ = some (.int .u8 (bs[j]?.getD 0)) := by
  obtain ⟨b, off, e, _, hc⟩ := h.lies (by omega)
  cases e
  have := hc j hj
  rwa [Nat.zero_add] at this

theorem InRow.complement {w w' : World} {a : Option Addr} {g n : Nat} {bs : List Int} (h : InRow w a n bs) (hr : FRow w' g (comp bs) n) : InRow w' (some ⟨g, 0, none⟩) n (comp bs) := by
  have hl : (comp bs).length = n := by rw [comp_length, h.len]
  unfold FRow at hr
  rw [← hl, fill_all] at hr
  have := InRow.own hr (fun j => by
    by_cases hj : j < bs.length
    · rw [comp_at bs j hj]; have := h.byte j; omega
    · simp [comp, show bs.length ≤ j by omega])
  rwa [hl] at this

theorem hid {p : Prop} (h : p) : Hid p := h

/-- The three ways on which the two types of a position may lie. -/
theorem ways3 {bs : List Int} {q : Nat} (h : Tail bs q) {j : Nat} (hj : j < bs.length) :
    (sAt bs j = true ∧ sAt (comp bs) j = false) ∨ (sAt bs j = false ∧ j < q ∧ sAt (comp bs) j = true) ∨ (sAt bs j = false ∧ ¬ j < q ∧ sAt (comp bs) j = false) := by
  have hf := flips bs q h j hj
  by_cases e : j < q <;> cases hs : sAt bs j <;> simp [hs, e] at hf <;> simp [hf, e]

set_option maxHeartbeats 2000000 in
theorem flips_nil (n cap : Nat) (bs : List Int) (w : World) (hx : InRow w none n bs) (hn : n ≤ 65536) (hz : n ≤ 0) :
    Calls Trym.prog 6 #[.slice none n cap] w fun e w' => e = .returned (.bool true) ∧ Below w.heap.size w w' := by
  obtain ⟨i0, hi, hz0, hz1, hz2⟩ := info_parts Trym.info5
  have hq0 : ¬ (65536 : Int) < (n : Int) := by omega
  have HX : Hid (InRow w none n bs) := hx
  have HL : Hid (bs.length = n) := hx.len
  have HY : Hid (∀ j : Nat, 0 ≤ bs[j]?.getD 0 ∧ bs[j]?.getD 0 ≤ 255) := hx.byte
  clear hx
  have hmx : n ≤ maxLen := by unfold maxLen; omega
  have hnil := fun wx => run_neq_slice_nil_any (P := Trym.prog) wx 27 5 none n cap 0 0 Trym.underlying27
  have hsz : (Trym.prog.info? 5).map (·.size) = some 1 := by rw [hi]; simp [hz1]
  have HBW : Hid (Below w.heap.size w w) := Below.refl _ _
  have HD : Hid (InRow w none n bs) := HX
  go_enter Trym.func6, Trym.ntmps6
  go_wp2_with (first | (go_at_call 14; refine (zz14_yes _ _ _ _ (by omega)).mono ?_; rintro e w' ⟨rfl, hw⟩; obtain rfl : w = w' := hw.symm) | (at_make; refine wpList_make_is _ rfl _ _ 27 rfl 5 i0 .u8 Trym.underlying27 hi hz0 hz1 _ _ _ _ n rfl rfl (by omega) (by omega) (by rw [hz2]; omega) hmx ?_))
  intro wm HRm hbm
  have HC : Hid (FRow wm w.heap.size (comp bs) 0) := FRow.start (n := n) (by rw [comp_length]; exact HL.out) (by simpa using HRm)
  have HBm : Hid (Below w.heap.size w wm) := hbm
  clear HRm hbm
  go_wp2
  go_loopw [6] (fun i wr => ∃ k : Nat, k ≤ n ∧ i = .int .i64 k ∧ Hid (FRow wr w.heap.size (comp bs) k) ∧ Hid (Below w.heap.size w wr)) (fun i _ => n - (intOf i).toNat)
  case atStart => exact ⟨0, Nat.zero_le _, rfl, HC, HBm⟩
  case round =>
    clear HC HBm
    obtain ⟨k, hk, rfl, HC, HBm⟩ := hrel
    by_cases hlt : k < n
    · exfalso; omega
    · obtain rfl : k = n := by omega
      have HD1 : Hid (InRow wr none k bs) := HD.out.after HBm.out
      have HC1 : Hid (InRow wr (some ⟨w.heap.size, 0, none⟩) k (comp bs)) := InRow.complement HD.out HC.out
      have HB1 : Hid (Below w.heap.size w wr) := HBW.out.trans (HBm.out.mono HBW.out.size)
      clear HC HBm
      go_wp2_with fail
      refine (zzclassify_any _ k _ bs _ HD1.out (by omega)).mono ?_
      rintro e w4 ⟨rfl, hT, hb4⟩
      obtain ⟨G1, hG⟩ : ∃ G, G = wr.heap.size := ⟨_, rfl⟩
      rw [← hG] at hT ⊢
      have HD4 : Hid (InRow w4 none k bs) := HD1.out.after hb4
      have HC4 : Hid (InRow w4 (some ⟨w.heap.size, 0, none⟩) k (comp bs)) := HC1.out.after hb4
      have HT4 : Hid (Told w4 G1 ((k + 63) / 64) k (sAt bs)) := hT
      have HB4 : Hid (Below w.heap.size w w4) := HB1.out.trans (hb4.mono HB1.out.size)
      clear hT hb4 hG HD1 HC1 HB1
      go_wp2_with fail
      refine (zzclassify_any _ k _ (comp bs) _ HC4.out (by omega)).mono ?_
      rintro e w5 ⟨rfl, hT, hb5⟩
      obtain ⟨G2, hG⟩ : ∃ G, G = w4.heap.size := ⟨_, rfl⟩
      rw [← hG] at hT ⊢
      have HD5 : Hid (InRow w5 none k bs) := HD4.out.after hb5
      have HT5 : Hid (Told w5 G1 ((k + 63) / 64) k (sAt bs)) := HT4.out.after hb5
      have HU5 : Hid (Told w5 G2 ((k + 63) / 64) k (sAt (comp bs))) := hT
      have HB5 : Hid (Below w.heap.size w w5) := HB4.out.trans (hb5.mono HB4.out.size)
      clear hT hb5 hG HD4 HC4 HT4 HB4
      go_wp2
      go_loopw [10] (fun i wr => i = .int .i64 0 ∧ Hid (Below w.heap.size w wr)) (fun _ _ => 0)
      case atStart => exact ⟨rfl, HB5⟩
      case round =>
        obtain ⟨rfl, HB⟩ := hrel
        have hk0 : ¬ (0 : Int) < (k : Int) := by omega
        go_wp2
        go_ret
        exact ⟨rfl, HB.out⟩

set_option maxHeartbeats 2000000 in
theorem flips_zero (ad : Addr) (n cap : Nat) (bs : List Int) (w : World) (hx : InRow w (some ad) n bs) (hn : n ≤ 65536) (hz : n ≤ 0) :
    Calls Trym.prog 6 #[.slice (some ad) n cap] w fun e w' => e = .returned (.bool true) ∧ Below w.heap.size w w' := by
  obtain ⟨i0, hi, hz0, hz1, hz2⟩ := info_parts Trym.info5
  have hq0 : ¬ (65536 : Int) < (n : Int) := by omega
  have HX : Hid (InRow w (some ad) n bs) := hx
  have HL : Hid (bs.length = n) := hx.len
  have HY : Hid (∀ j : Nat, 0 ≤ bs[j]?.getD 0 ∧ bs[j]?.getD 0 ≤ 255) := hx.byte
  clear hx
  have hmx : n ≤ maxLen := by unfold maxLen; omega
  have hnil := fun wx => run_neq_slice_nil_any (P := Trym.prog) wx 27 5 (some ad) n cap 0 0 Trym.underlying27
  have hsz : (Trym.prog.info? 5).map (·.size) = some 1 := by rw [hi]; simp [hz1]
  go_enter Trym.func6, Trym.ntmps6
  go_wp2_with (first | (go_at_call 14; refine (zz14_yes _ _ _ _ (by omega)).mono ?_; rintro e w' ⟨rfl, hw⟩; obtain rfl : w = w' := hw.symm) | (at_make; refine wpList_make_is _ rfl _ _ 27 rfl 5 i0 .u8 Trym.underlying27 hi hz0 hz1 _ _ _ _ n rfl rfl (by omega) (by omega) (by rw [hz2]; omega) hmx ?_))
  intro w1 HR1 hb1
  obtain ⟨w2, hcp, hr2, hb2⟩ := copy_is (cap := cap) 27 5 Trym.underlying27 hsz (HX.out.after hb1) w.heap.size w.heap.size (Nat.le_refl _) (zs := List.replicate n 0) (by simp) (by simpa using HR1.out)
  have HBW : Hid (Below w.heap.size w w2) := hb1.trans hb2
  have HD : Hid (InRow w2 (some ⟨w.heap.size, 0, none⟩) n bs) := InRow.copied HX.out hr2
  clear HR1 hb1 hr2 hb2
  go_wp2_with (at_make; refine wpList_make_is _ rfl _ _ 27 rfl 5 i0 .u8 Trym.underlying27 hi hz0 hz1 _ _ _ _ n rfl rfl (by omega) (by omega) (by rw [hz2]; omega) hmx ?_)
  intro wm HRm hbm
  have HC : Hid (FRow wm w2.heap.size (comp bs) 0) := FRow.start (n := n) (by rw [comp_length]; exact HL.out) (by simpa using HRm)
  have HBm : Hid (Below w2.heap.size w2 wm) := hbm
  clear HRm hbm
  go_wp2
  go_loopw [6] (fun i wr => ∃ k : Nat, k ≤ n ∧ i = .int .i64 k ∧ Hid (FRow wr w2.heap.size (comp bs) k) ∧ Hid (Below w2.heap.size w2 wr)) (fun i _ => n - (intOf i).toNat)
  case atStart => exact ⟨0, Nat.zero_le _, rfl, HC, HBm⟩
  case round =>
    clear HC HBm
    obtain ⟨k, hk, rfl, HC, HBm⟩ := hrel
    by_cases hlt : k < n
    · exfalso; omega
    · obtain rfl : k = n := by omega
      have HD1 : Hid (InRow wr (some ⟨w.heap.size, 0, none⟩) k bs) := HD.out.after HBm.out
      have HC1 : Hid (InRow wr (some ⟨w2.heap.size, 0, none⟩) k (comp bs)) := InRow.complement HD.out HC.out
      have HB1 : Hid (Below w.heap.size w wr) := HBW.out.trans (HBm.out.mono HBW.out.size)
      clear HC HBm
      go_wp2_with fail
      refine (zzclassify_any _ k _ bs _ HD1.out (by omega)).mono ?_
      rintro e w4 ⟨rfl, hT, hb4⟩
      obtain ⟨G1, hG⟩ : ∃ G, G = wr.heap.size := ⟨_, rfl⟩
      rw [← hG] at hT ⊢
      have HD4 : Hid (InRow w4 (some ⟨w.heap.size, 0, none⟩) k bs) := HD1.out.after hb4
      have HC4 : Hid (InRow w4 (some ⟨w2.heap.size, 0, none⟩) k (comp bs)) := HC1.out.after hb4
      have HT4 : Hid (Told w4 G1 ((k + 63) / 64) k (sAt bs)) := hT
      have HB4 : Hid (Below w.heap.size w w4) := HB1.out.trans (hb4.mono HB1.out.size)
      clear hT hb4 hG HD1 HC1 HB1
      go_wp2_with fail
      refine (zzclassify_any _ k _ (comp bs) _ HC4.out (by omega)).mono ?_
      rintro e w5 ⟨rfl, hT, hb5⟩
      obtain ⟨G2, hG⟩ : ∃ G, G = w4.heap.size := ⟨_, rfl⟩
      rw [← hG] at hT ⊢
      have HD5 : Hid (InRow w5 (some ⟨w.heap.size, 0, none⟩) k bs) := HD4.out.after hb5
      have HT5 : Hid (Told w5 G1 ((k + 63) / 64) k (sAt bs)) := HT4.out.after hb5
      have HU5 : Hid (Told w5 G2 ((k + 63) / 64) k (sAt (comp bs))) := hT
      have HB5 : Hid (Below w.heap.size w w5) := HB4.out.trans (hb5.mono HB4.out.size)
      clear hT hb5 hG HD4 HC4 HT4 HB4
      go_wp2
      go_loopw [10] (fun i wr => i = .int .i64 0 ∧ Hid (Below w.heap.size w wr)) (fun _ _ => 0)
      case atStart => exact ⟨rfl, HB5⟩
      case round =>
        obtain ⟨rfl, HB⟩ := hrel
        have hk0 : ¬ (0 : Int) < (k : Int) := by omega
        go_wp2
        go_ret
        exact ⟨rfl, HB.out⟩

set_option maxHeartbeats 2000000 in
theorem flips_own (ad : Addr) (n cap : Nat) (bs : List Int) (w : World) (hx : InRow w (some ad) n bs) (hn : n ≤ 65536) (hz : 0 < n) :
    Calls Trym.prog 6 #[.slice (some ad) n cap] w fun e w' => e = .returned (.bool true) ∧ Below w.heap.size w w' := by
  obtain ⟨i0, hi, hz0, hz1, hz2⟩ := info_parts Trym.info5
  have hq0 : ¬ (65536 : Int) < (n : Int) := by omega
  have HX : Hid (InRow w (some ad) n bs) := hx
  have HL : Hid (bs.length = n) := hx.len
  have HY : Hid (∀ j : Nat, 0 ≤ bs[j]?.getD 0 ∧ bs[j]?.getD 0 ≤ 255) := hx.byte
  clear hx
  have hmx : n ≤ maxLen := by unfold maxLen; omega
  have hnil := fun wx => run_neq_slice_nil_any (P := Trym.prog) wx 27 5 (some ad) n cap 0 0 Trym.underlying27
  have hsz : (Trym.prog.info? 5).map (·.size) = some 1 := by rw [hi]; simp [hz1]
  go_enter Trym.func6, Trym.ntmps6
  go_wp2_with (first | (go_at_call 14; refine (zz14_yes _ _ _ _ (by omega)).mono ?_; rintro e w' ⟨rfl, hw⟩; obtain rfl : w = w' := hw.symm) | (at_make; refine wpList_make_is _ rfl _ _ 27 rfl 5 i0 .u8 Trym.underlying27 hi hz0 hz1 _ _ _ _ n rfl rfl (by omega) (by omega) (by rw [hz2]; omega) hmx ?_))
  intro w1 HR1 hb1
  obtain ⟨w2, hcp, hr2, hb2⟩ := copy_is (cap := cap) 27 5 Trym.underlying27 hsz (HX.out.after hb1) w.heap.size w.heap.size (Nat.le_refl _) (zs := List.replicate n 0) (by simp) (by simpa using HR1.out)
  have HBW : Hid (Below w.heap.size w w2) := hb1.trans hb2
  have HD : Hid (InRow w2 (some ⟨w.heap.size, 0, none⟩) n bs) := InRow.copied HX.out hr2
  clear HR1 hb1 hr2 hb2
  go_wp2_with (at_make; refine wpList_make_is _ rfl _ _ 27 rfl 5 i0 .u8 Trym.underlying27 hi hz0 hz1 _ _ _ _ n rfl rfl (by omega) (by omega) (by rw [hz2]; omega) hmx ?_)
  intro wm HRm hbm
  have HC : Hid (FRow wm w2.heap.size (comp bs) 0) := FRow.start (n := n) (by rw [comp_length]; exact HL.out) (by simpa using HRm)
  have HBm : Hid (Below w2.heap.size w2 wm) := hbm
  clear HRm hbm
  go_wp2
  go_loopw [6] (fun i wr => ∃ k : Nat, k ≤ n ∧ i = .int .i64 k ∧ Hid (FRow wr w2.heap.size (comp bs) k) ∧ Hid (Below w2.heap.size w2 wr)) (fun i _ => n - (intOf i).toNat)
  case atStart => exact ⟨0, Nat.zero_le _, rfl, HC, HBm⟩
  case round =>
    clear HC HBm
    obtain ⟨k, hk, rfl, HC, HBm⟩ := hrel
    by_cases hlt : k < n
    · have hcx : wr.cell? ⟨w.heap.size, k, none⟩ = some (.int .u8 (bs[k]?.getD 0)) := (HD.out.after HBm.out).at0 hlt
      have hkz : k < (comp bs).length := by rw [comp_length, HL.out]; exact hlt
      obtain ⟨v, hcg⟩ := HC.out.cell hkz
      have hfz := HC.out.frozen
      have hby := HY.out k
      have hby0 := hby.1
      have hby1 := hby.2
      have HS : Hid (FRow (wr.setCell ⟨w2.heap.size, k, none⟩ (.int .u8 (255 - bs[k]?.getD 0))) w2.heap.size (comp bs) (k + 1)) := HC.out.step hkz (by rw [comp_at bs k (by rw [HL.out]; exact hlt)])
      have HB' : Hid (Below w2.heap.size w2 (wr.setCell ⟨w2.heap.size, k, none⟩ (.int .u8 (255 - bs[k]?.getD 0)))) := HBm.out.setCell (p := ⟨w2.heap.size, k, none⟩) (Nat.le_refl _) _
      clear hkz hby
      go_wp2
      go_roundw
      case rel => exact ⟨k + 1, by omega, by go_num, HS, HB'⟩
      case measure => simp [intOf]; omega
    · obtain rfl : k = n := by omega
      have HD1 : Hid (InRow wr (some ⟨w.heap.size, 0, none⟩) k bs) := HD.out.after HBm.out
      have HC1 : Hid (InRow wr (some ⟨w2.heap.size, 0, none⟩) k (comp bs)) := InRow.complement HD.out HC.out
      have HB1 : Hid (Below w.heap.size w wr) := HBW.out.trans (HBm.out.mono HBW.out.size)
      clear HC HBm
      go_wp2_with fail
      refine (zzclassify_any _ k _ bs _ HD1.out (by omega)).mono ?_
      rintro e w4 ⟨rfl, hT, hb4⟩
      obtain ⟨G1, hG⟩ : ∃ G, G = wr.heap.size := ⟨_, rfl⟩
      rw [← hG] at hT ⊢
      have HD4 : Hid (InRow w4 (some ⟨w.heap.size, 0, none⟩) k bs) := HD1.out.after hb4
      have HC4 : Hid (InRow w4 (some ⟨w2.heap.size, 0, none⟩) k (comp bs)) := HC1.out.after hb4
      have HT4 : Hid (Told w4 G1 ((k + 63) / 64) k (sAt bs)) := hT
      have HB4 : Hid (Below w.heap.size w w4) := HB1.out.trans (hb4.mono HB1.out.size)
      clear hT hb4 hG HD1 HC1 HB1
      go_wp2_with fail
      refine (zzclassify_any _ k _ (comp bs) _ HC4.out (by omega)).mono ?_
      rintro e w5 ⟨rfl, hT, hb5⟩
      obtain ⟨G2, hG⟩ : ∃ G, G = w4.heap.size := ⟨_, rfl⟩
      rw [← hG] at hT ⊢
      have HD5 : Hid (InRow w5 (some ⟨w.heap.size, 0, none⟩) k bs) := HD4.out.after hb5
      have HT5 : Hid (Told w5 G1 ((k + 63) / 64) k (sAt bs)) := HT4.out.after hb5
      have HU5 : Hid (Told w5 G2 ((k + 63) / 64) k (sAt (comp bs))) := hT
      have HB5 : Hid (Below w.heap.size w w5) := HB4.out.trans (hb5.mono HB4.out.size)
      clear hT hb5 hG HD4 HC4 HT4 HB4
      go_wp2
      have HRUN : Hid (∀ j, k - 1 ≤ j → j < k → bs[j]?.getD 0 = bs[k - 1]?.getD 0) := fun j h1 h2 => by rw [show j = k - 1 by omega]
      go_loopw [9] (fun t wr => ∃ q : Nat, q < k ∧ t = .int .i64 q ∧ Hid (∀ j, q ≤ j → j < k → bs[j]?.getD 0 = bs[k - 1]?.getD 0) ∧ Hid (InRow wr (some ⟨w.heap.size, 0, none⟩) k bs) ∧ Hid (Told wr G1 ((k + 63) / 64) k (sAt bs)) ∧ Hid (Told wr G2 ((k + 63) / 64) k (sAt (comp bs))) ∧ Hid (Below w.heap.size w wr)) (fun t _ => (intOf t).toNat)
      case atStart => exact ⟨k - 1, by omega, by go_num, HRUN, HD5, HT5, HU5, HB5⟩
      case round =>
        clear HRUN HD5 HT5 HU5 HB5
        obtain ⟨q, hq, rfl, HRUN, HD5, HT5, HU5, HB5⟩ := hrel
        have hcl : wr.cell? ⟨w.heap.size, k - 1, none⟩ = some (.int .u8 (bs[k - 1]?.getD 0)) := HD5.out.at0 (by omega)
        by_cases hgo : 0 < q ∧ bs[q - 1]?.getD 0 = bs[k - 1]?.getD 0
        · obtain ⟨hq0, he⟩ := hgo
          have hq1 : (0 : Int) < (q : Int) := by omega
          have hcq : wr.cell? ⟨w.heap.size, q - 1, none⟩ = some (.int .u8 (bs[q - 1]?.getD 0)) := HD5.out.at0 (by omega)
          have hqk : (q : Int) - 1 < (k : Int) := by omega
          have hkk : (k : Int) - 1 < (k : Int) := by omega
          have HRUN1 : Hid (∀ j, q - 1 ≤ j → j < k → bs[j]?.getD 0 = bs[k - 1]?.getD 0) := fun j h1 h2 => by
            by_cases e : j = q - 1
            · rw [e]; exact he
            · exact HRUN.out j (by omega) h2
          clear HRUN
          go_wp2
          go_quiet (fail)
          go_wp2
          go_roundw
          case rel => exact ⟨q - 1, by omega, by go_num, HRUN1, HD5.out.after (below_drewN (Below.refl _ _) nq), HT5.out.after (below_drewN (Below.refl _ _) nq), HU5.out.after (below_drewN (Below.refl _ _) nq), below_drewN HB5.out nq⟩
          case measure => simp [intOf]; omega
        · have TAIL : Hid (Tail bs q) := by
            refine hid ⟨by rw [HL.out]; exact hq, fun j h1 h2 => ?_, ?_⟩
            · rw [HL.out] at h2 ⊢; exact HRUN.out j h1 h2
            · rw [HL.out]
              by_cases hq0 : 0 < q
              · exact .inr fun e => hgo ⟨hq0, e⟩
              · exact .inl (by omega)
          by_cases hq0 : 0 < q
          · have he : ¬ bs[q - 1]?.getD 0 = bs[k - 1]?.getD 0 := fun e => hgo ⟨hq0, e⟩
            have he' : (bs[q - 1]?.getD 0 == bs[k - 1]?.getD 0) = false := by simpa using he
            have hq1 : (0 : Int) < (q : Int) := by omega
            have hcq : wr.cell? ⟨w.heap.size, q - 1, none⟩ = some (.int .u8 (bs[q - 1]?.getD 0)) := HD5.out.at0 (by omega)
            have hqk : (q : Int) - 1 < (k : Int) := by omega
            have hkk : (k : Int) - 1 < (k : Int) := by omega
            clear HRUN hgo
            go_wp2
            go_quiet (fail)
            go_wp2
            go_loopw [10] (fun i wr => ∃ j : Nat, j ≤ k ∧ i = .int .i64 j ∧ Hid (Told wr G1 ((k + 63) / 64) k (sAt bs)) ∧ Hid (Told wr G2 ((k + 63) / 64) k (sAt (comp bs))) ∧ Hid (Below w.heap.size w wr)) (fun i _ => k - (intOf i).toNat)
            case atStart => exact ⟨0, Nat.zero_le _, rfl, HT5.out.after (below_drewN (Below.refl _ _) nq), HU5.out.after (below_drewN (Below.refl _ _) nq), below_drewN HB5.out nq⟩
            case round =>
              clear HT5 HU5 HB5
              obtain ⟨j, hj, rfl, HT, HU, HB⟩ := hrel
              by_cases hlt : j < k
              · rcases ways3 TAIL.out (j := j) (by rw [HL.out]; exact hlt) with ⟨hs, hu⟩ | ⟨hs, hjq, hu⟩ | ⟨hs, hjq, hu⟩
                · go_wp2_with fail
                  refine (zzs_any _ _ k j (sAt bs) _ HT.out hlt).mono ?_
                  rintro e w7 ⟨he, hw7⟩
                  obtain rfl : wr = w7 := hw7.symm
                  rw [hs] at he
                  subst he
                  go_wp2_with fail
                  refine (zzs_any _ _ k j (sAt (comp bs)) _ HU.out hlt).mono ?_
                  rintro e w8 ⟨he, hw8⟩
                  obtain rfl : wr = w8 := hw8.symm
                  rw [hu] at he
                  subst he
                  go_wp2
                  go_roundw
                  case rel => exact ⟨j + 1, by omega, by go_num, HT, HU, HB⟩
                  case measure => simp [intOf]; omega
                · have hjq' : (j : Int) < (q : Int) := by omega
                  go_wp2_with fail
                  refine (zzs_any _ _ k j (sAt bs) _ HT.out hlt).mono ?_
                  rintro e w7 ⟨he, hw7⟩
                  obtain rfl : wr = w7 := hw7.symm
                  rw [hs] at he
                  subst he
                  go_wp2_with fail
                  refine (zzs_any _ _ k j (sAt (comp bs)) _ HU.out hlt).mono ?_
                  rintro e w8 ⟨he, hw8⟩
                  obtain rfl : wr = w8 := hw8.symm
                  rw [hu] at he
                  subst he
                  go_wp2
                  go_roundw
                  case rel => exact ⟨j + 1, by omega, by go_num, HT, HU, HB⟩
                  case measure => simp [intOf]; omega
                · have hjq' : ¬ (j : Int) < (q : Int) := by omega
                  go_wp2_with fail
                  refine (zzs_any _ _ k j (sAt bs) _ HT.out hlt).mono ?_
                  rintro e w7 ⟨he, hw7⟩
                  obtain rfl : wr = w7 := hw7.symm
                  rw [hs] at he
                  subst he
                  go_wp2_with fail
                  refine (zzs_any _ _ k j (sAt (comp bs)) _ HU.out hlt).mono ?_
                  rintro e w8 ⟨he, hw8⟩
                  obtain rfl : wr = w8 := hw8.symm
                  rw [hu] at he
                  subst he
                  go_wp2
                  go_roundw
                  case rel => exact ⟨j + 1, by omega, by go_num, HT, HU, HB⟩
                  case measure => simp [intOf]; omega
              · go_wp2
                go_ret
                exact ⟨rfl, HB.out⟩
          · have hq1 : decide ((0 : Int) < (q : Int)) = false := by simp; omega
            clear HRUN hgo
            go_wp2
            go_quiet (fail)
            go_wp2
            go_loopw [10] (fun i wr => ∃ j : Nat, j ≤ k ∧ i = .int .i64 j ∧ Hid (Told wr G1 ((k + 63) / 64) k (sAt bs)) ∧ Hid (Told wr G2 ((k + 63) / 64) k (sAt (comp bs))) ∧ Hid (Below w.heap.size w wr)) (fun i _ => k - (intOf i).toNat)
            case atStart => exact ⟨0, Nat.zero_le _, rfl, HT5.out.after (below_drewN (Below.refl _ _) nq), HU5.out.after (below_drewN (Below.refl _ _) nq), below_drewN HB5.out nq⟩
            case round =>
              clear HT5 HU5 HB5
              obtain ⟨j, hj, rfl, HT, HU, HB⟩ := hrel
              by_cases hlt : j < k
              · rcases ways3 TAIL.out (j := j) (by rw [HL.out]; exact hlt) with ⟨hs, hu⟩ | ⟨hs, hjq, hu⟩ | ⟨hs, hjq, hu⟩
                · go_wp2_with fail
                  refine (zzs_any _ _ k j (sAt bs) _ HT.out hlt).mono ?_
                  rintro e w7 ⟨he, hw7⟩
                  obtain rfl : wr = w7 := hw7.symm
                  rw [hs] at he
                  subst he
                  go_wp2_with fail
                  refine (zzs_any _ _ k j (sAt (comp bs)) _ HU.out hlt).mono ?_
                  rintro e w8 ⟨he, hw8⟩
                  obtain rfl : wr = w8 := hw8.symm
                  rw [hu] at he
                  subst he
                  go_wp2
                  go_roundw
                  case rel => exact ⟨j + 1, by omega, by go_num, HT, HU, HB⟩
                  case measure => simp [intOf]; omega
                · have hjq' : (j : Int) < (q : Int) := by omega
                  go_wp2_with fail
                  refine (zzs_any _ _ k j (sAt bs) _ HT.out hlt).mono ?_
                  rintro e w7 ⟨he, hw7⟩
                  obtain rfl : wr = w7 := hw7.symm
                  rw [hs] at he
                  subst he
                  go_wp2_with fail
                  refine (zzs_any _ _ k j (sAt (comp bs)) _ HU.out hlt).mono ?_
                  rintro e w8 ⟨he, hw8⟩
                  obtain rfl : wr = w8 := hw8.symm
                  rw [hu] at he
                  subst he
                  go_wp2
                  go_roundw
                  case rel => exact ⟨j + 1, by omega, by go_num, HT, HU, HB⟩
                  case measure => simp [intOf]; omega
                · have hjq' : ¬ (j : Int) < (q : Int) := by omega
                  go_wp2_with fail
                  refine (zzs_any _ _ k j (sAt bs) _ HT.out hlt).mono ?_
                  rintro e w7 ⟨he, hw7⟩
                  obtain rfl : wr = w7 := hw7.symm
                  rw [hs] at he
                  subst he
                  go_wp2_with fail
                  refine (zzs_any _ _ k j (sAt (comp bs)) _ HU.out hlt).mono ?_
                  rintro e w8 ⟨he, hw8⟩
                  obtain rfl : wr = w8 := hw8.symm
                  rw [hu] at he
                  subst he
                  go_wp2
                  go_roundw
                  case rel => exact ⟨j + 1, by omega, by go_num, HT, HU, HB⟩
                  case measure => simp [intOf]; omega
              · go_wp2
                go_ret
                exact ⟨rfl, HB.out⟩

set_option maxHeartbeats 1000000 in
theorem flips_any (a : Option Addr) (n cap : Nat) (bs : List Int) (w : World) (hx : InRow w a n bs) :
    Calls Trym.prog 6 #[.slice a n cap] w fun e w' => e = .returned (.bool true) ∧ Below w.heap.size w w' := by
  by_cases h1 : n ≤ 1048576
  · by_cases h2 : n ≤ 65536
    · cases a with
      | none =>
        refine flips_nil n cap bs w hx h2 ?_
        by_cases h : 0 < n
        · obtain ⟨b, off, e, _⟩ := hx.lies h
          cases e
        · omega
      | some ad =>
        by_cases h : 0 < n
        · exact flips_own ad n cap bs w hx h2 h
        · exact flips_zero ad n cap bs w hx h2 (by omega)
    · have hq0 : (65536 : Int) < (n : Int) := by omega
      clear hx
      go_enter Trym.func6, Trym.ntmps6
      go_wp2_with (go_at_call 14; refine (zz14_yes _ _ _ _ h1).mono ?_; rintro e w' ⟨rfl, rfl⟩)
      go_ret
      exact ⟨rfl, Below.refl _ _⟩
  · clear hx
    go_enter Trym.func6, Trym.ntmps6
    go_wp2_with (go_at_call 14; refine (zz14_no _ _ _ _ h1).mono ?_; rintro e w' ⟨rfl, rfl⟩)
    go_ret
    exact ⟨rfl, Below.refl _ _⟩
end Go.Proofs.Qxb6616952aModsRR
