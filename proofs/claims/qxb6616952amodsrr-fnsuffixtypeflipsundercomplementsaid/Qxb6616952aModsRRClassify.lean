/-
  THE CONTRACT OF classify AND ZZclassify.
-/
import Derived.Test.Qxb6616952aModsRRTypes
namespace Go.Proofs.Qxb6616952aModsRR
open Go.RowKit
set_option linter.unusedVariables false

theorem Trym.info37 : (Trym.prog.info? 37).map (fun i => (i.zero, i.size, i.bytes)) = some (some (.int .u64 0), 1, 8) := by kernel_rfl

/-- The words in a round: what stands above i is laid. -/
def CRow (w : World) (g n : Nat) (bs : List Int) (i : Int) (ws : List Nat) : Prop := WRow w g ws ∧ Marks ws n (above bs i)

theorem CRow.start {w : World} {g n : Nat} {bs : List Int} (hl : bs.length = n) (h : Hid (RowIs w g 37 (List.replicate ((n + 63) / 64) (Value.int .u64 0)))) : CRow w g n bs ((n : Int) - 2) (List.replicate ((n + 63) / 64) 0) := by
  refine ⟨?_, marks_zero n _ fun j hj => ?_⟩
  · show RowIs _ _ _ _
    simpa using h.out
  · unfold above
    by_cases e : (n : Int) - 2 < (j : Int)
    · rw [sAt_last bs j (by omega)]; simp
    · simp [e]

theorem CRow.yes {w : World} {g n k : Nat} {bs : List Int} {ws : List Nat} (h : CRow w g n bs k ws) (hk : k < n) (hs : sAt bs k = true) :
    CRow (w.setCell ⟨g, k / 64, none⟩ (.int .u64 (bits BinOp.or IntKind.u64 ((ws[k / 64]?.getD 0 : Nat) : Int) (IntKind.u64.wrap (2 ^ (k % 64)))))) g n bs ((k : Int) - 1) (ws.set (k / 64) (ws[k / 64]?.getD 0 ||| 2 ^ (k % 64))) := by
  refine ⟨?_, above_yes h.2 hk hs⟩
  rw [or_bit _ _ (h.2.small _)]
  have := RowIs.set h.1 (k / 64) (.int .u64 ((ws[k / 64]?.getD 0 ||| 2 ^ (k % 64) : Nat) : Int))
  show RowIs _ _ _ _
  rw [List.map_set]
  exact this

theorem CRow.no {w w' : World} {g n k : Nat} {bs : List Int} {ws : List Nat} (h : CRow w g n bs k ws) (hb : w'.heap = w.heap) (hs : sAt bs k = false) : CRow w' g n bs ((k : Int) - 1) ws :=
  ⟨by unfold WRow RowIs; rw [hb]; exact h.1, above_no h.2 hs⟩
theorem CRow.quiet {w w' : World} {g n : Nat} {i : Int} {bs : List Int} {ws : List Nat} (h : CRow w g n bs i ws) (hb : w'.heap = w.heap) : CRow w' g n bs i ws :=
  ⟨by unfold WRow RowIs; rw [hb]; exact h.1, h.2⟩

set_option maxHeartbeats 1000000 in
theorem classify_any (a : Option Addr) (n cap : Nat) (bs : List Int) (w : World) (hr : InRow w a n bs) (hn : n ≤ 65536) :
    Calls Trym.prog 17 #[.slice a n cap] w fun e w' => e = .returned (.slice (some ⟨w.heap.size, 0, none⟩) ((n + 63) / 64) ((n + 63) / 64)) ∧ Told w' w.heap.size ((n + 63) / 64) n (sAt bs) ∧ Below w.heap.size w w' := by
  obtain ⟨i0, hi, hz0, hz1, hz2⟩ := info_parts Trym.info37
  have HR : Hid (InRow w a n bs) := hr
  have HL : Hid (bs.length = n) := hr.len
  clear hr
  have hmx : (n + 63) / 64 ≤ maxLen := by unfold maxLen; omega
  go_enter Trym.func17, Trym.ntmps17
  go_wp2_with (at_make; refine wpList_make_is _ rfl _ _ 35 rfl 37 i0 .u64 Trym.underlying35 hi hz0 hz1 _ _ _ _ ((n + 63) / 64) rfl rfl (by omega) (by omega) (by rw [hz2]; omega) hmx ?_)
  intro w1 HR1 hb1
  have HC : Hid (CRow w1 w.heap.size n bs ((n : Int) - 2) (List.replicate ((n + 63) / 64) 0)) := CRow.start HL.out (by simpa using HR1)
  have HB : Hid (Below w.heap.size w w1) := hb1
  clear HR1 hb1
  go_wp2
  go_loopw [4, 5] (fun s i wr => ∃ (p : Int) (ws : List Nat), -2 ≤ p ∧ p + 2 ≤ (n : Int) ∧ i = .int .i64 p ∧ s = .bool (sAt bs (p + 1).toNat) ∧ Hid (CRow wr w.heap.size n bs p ws) ∧ Hid (Below w.heap.size w wr)) (fun _ i _ => (intOf i + 2).toNat)
  case atStart => exact ⟨_, _, by omega, by omega, rfl, by rw [sAt_last bs _ (by rw [HL.out]; omega)], HC, HB⟩
  case round =>
    clear HC HB
    obtain ⟨p, ws, hp0, hp1, rfl, rfl, HC, HB⟩ := hrel
    by_cases hp : 0 ≤ p
    · obtain ⟨k, rfl⟩ : ∃ k : Nat, p = (k : Int) := ⟨p.toNat, by omega⟩
      have hk : k + 1 < n := by omega
      have hk0 : (k : Int) < (n : Int) := by omega
      have hk1 : (k : Int) + 1 < (n : Int) := by omega
      have ek : ((k : Int) + 1).toNat = k + 1 := by omega
      rw [ek]
      clear ek
      obtain ⟨b, off, e, hbl, hcell⟩ := HR.out.lies (by omega)
      subst e
      have hc0 : wr.cell? ⟨b, off + k, none⟩ = some (.int .u8 (bs[k]?.getD 0)) := (HB.out.cell (p := ⟨b, off + k, none⟩) hbl).trans (hcell k (by omega))
      have hc1 : wr.cell? ⟨b, off + (k + 1), none⟩ = some (.int .u8 (bs[k + 1]?.getD 0)) := (HB.out.cell (p := ⟨b, off + (k + 1), none⟩) hbl).trans (hcell (k + 1) hk)
      have hq : k / 64 < ws.length := by rw [HC.out.2.len]; omega
      have hcw := HC.out.1.cell hq
      have hfw : wr.frozen? ⟨w.heap.size, k / 64, none⟩ = false := RowIs.frozen HC.out.1 _
      have hqm : (k : Int) / 64 < ((n : Int) + 63) / 64 := by omega
      have hL1 : k + 1 < bs.length := by rw [HL.out]; exact hk
      have HL1 : Hid (k + 1 < bs.length) := hL1
      clear hcell hq hL1
      by_cases he : bs[k]?.getD 0 = bs[k + 1]?.getD 0
      · have hs : sAt bs (k + 1) = true ∨ sAt bs (k + 1) = false := by cases sAt bs (k + 1) <;> simp
        rcases hs with hs | hs
        · have HS : Hid (sAt bs k = true) := (sAt_eq HL1.out he).trans hs
          rw [hs]
          clear hs
          go_wp2
          go_quiet (fail)
          go_wp2
          go_roundw
          case rel => exact ⟨(k : Int) - 1, _, by omega, by omega, rfl, by rw [Int.sub_add_cancel, Int.toNat_natCast, HS.out], (HC.out.quiet (w' := wr.drewN nq) rfl).yes (by omega) HS.out, (below_drewN HB.out nq).setCell (p := ⟨w.heap.size, k / 64, none⟩) (Nat.le_refl _) _⟩
          case measure => simp [intOf]; omega
        · have HS : Hid (sAt bs k = false) := (sAt_eq HL1.out he).trans hs
          rw [hs]
          clear hs
          go_wp2
          go_quiet (fail)
          go_wp2
          go_roundw
          case rel => exact ⟨(k : Int) - 1, _, by omega, by omega, rfl, by rw [Int.sub_add_cancel, Int.toNat_natCast, HS.out], HC.out.no rfl HS.out, below_drewN HB.out nq⟩
          case measure => simp [intOf]; omega
      · have he' : (bs[k]?.getD 0 == bs[k + 1]?.getD 0) = false := by simpa using he
        by_cases hlt : bs[k]?.getD 0 < bs[k + 1]?.getD 0
        · have HS : Hid (sAt bs k = true) := sAt_lt HL1.out hlt
          go_wp2
          go_quiet (fail)
          go_wp2
          go_quiet (fail)
          go_wp2
          go_roundw
          case rel => exact ⟨(k : Int) - 1, _, by omega, by omega, rfl, by rw [Int.sub_add_cancel, Int.toNat_natCast, HS.out], (HC.out.quiet rfl).yes (by omega) HS.out, (below_drewN HB.out _).setCell (p := ⟨w.heap.size, k / 64, none⟩) (Nat.le_refl _) _⟩
          case measure => simp [intOf]; omega
        · have HS : Hid (sAt bs k = false) := sAt_gt HL1.out he hlt
          go_wp2
          go_quiet (fail)
          go_wp2
          go_quiet (fail)
          go_wp2
          go_roundw
          case rel => exact ⟨(k : Int) - 1, _, by omega, by omega, rfl, by rw [Int.sub_add_cancel, Int.toNat_natCast, HS.out, decide_eq_false (by omega)], HC.out.no rfl HS.out, below_drewN HB.out _⟩
          case measure => simp [intOf]; omega
    · have HM : Hid (Told wr w.heap.size ((n + 63) / 64) n (sAt bs)) := ⟨hn, rfl, ws, HC.out.1, above_all HC.out.2 (by omega)⟩
      clear HC
      go_wp2
      go_ret
      exact ⟨rfl, HM.out, HB.out⟩

set_option maxHeartbeats 400000 in
theorem zzclassify_any (a : Option Addr) (n cap : Nat) (bs : List Int) (w : World) (hr : InRow w a n bs) (hn : n ≤ 65536) :
    Calls Trym.prog 11 #[.slice a n cap] w fun e w' => e = .returned (.slice (some ⟨w.heap.size, 0, none⟩) ((n + 63) / 64) ((n + 63) / 64)) ∧ Told w' w.heap.size ((n + 63) / 64) n (sAt bs) ∧ Below w.heap.size w w' := by
  have H := classify_any a n cap bs w hr hn
  clear hr
  go_enter Trym.func11, Trym.ntmps11
  go_wp2_with (go_at_call 17; refine H.mono ?_; rintro e w' ⟨rfl, hT, hB⟩)
  go_ret
  exact ⟨rfl, hT, hB⟩
end Go.Proofs.Qxb6616952aModsRR
