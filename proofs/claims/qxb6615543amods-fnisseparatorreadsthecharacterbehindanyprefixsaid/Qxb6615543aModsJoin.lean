/-
  THE CONTRACT OF joinBytes.
-/
import Derived.Test.Qxb6615543aModsMem
namespace Go.Proofs.Qxb6615543aMods
open Go.RowKit
set_option linter.unusedVariables false

/-- A row that is being filled with zs: the first k are there, the rest is still zero. -/
def fill (zs : List Int) (k : Nat) : List Int := zs.take k ++ List.replicate (zs.length - k) 0
theorem fill_length (zs : List Int) (k : Nat) : (fill zs k).length = zs.length := by simp [fill]; omega
theorem fill_zero (zs : List Int) : fill zs 0 = List.replicate zs.length 0 := by simp [fill]
theorem fill_all (zs : List Int) : fill zs zs.length = zs := by simp [fill]
theorem fill_set (zs : List Int) (k : Nat) (h : k < zs.length) : (fill zs k).set k (zs[k]?.getD 0) = fill zs (k + 1) := by
  unfold fill
  have hk : (zs.take k).length = k := by simp; omega
  rw [List.set_append_right _ _ (by omega), hk, Nat.sub_self]
  rw [List.take_succ_eq_append_getElem h, List.append_assoc]
  congr 1
  obtain ⟨m, hm⟩ : ∃ m, zs.length - k = m + 1 := ⟨zs.length - k - 1, by omega⟩
  rw [hm, show zs.length - (k + 1) = m by omega, List.replicate_succ, List.set_cons_zero]
  simp [h]

theorem fill_row {w : World} {g : Nat} {e : TypeId} {zs : List Int} {k : Nat} (h : RowIs w g e ((fill zs k).map (Value.int .u8))) (hk : k < zs.length) :
    RowIs (w.setCell ⟨g, k, none⟩ (.int .u8 (zs[k]?.getD 0))) g e ((fill zs (k + 1)).map (Value.int .u8)) := by
  have := h.set k (.int .u8 (zs[k]?.getD 0))
  rwa [← List.map_set, fill_set zs k hk] at this

theorem row_cell {w : World} {g : Nat} {e : TypeId} {zs : List Int} (h : RowIs w g e (zs.map (Value.int .u8))) {k : Nat} (hk : k < zs.length) : w.cell? ⟨g, k, none⟩ = some (.int .u8 (zs[k]?.getD 0)) := by
  rw [h.cell k]; simp [hk]

/-- The new row in a round: k of the bytes zs are laid. -/
def FRow (w : World) (g : Nat) (zs : List Int) (k : Nat) : Prop := RowIs w g 5 ((fill zs k).map (Value.int .u8))
theorem FRow.start {w : World} {g n : Nat} {zs : List Int} (hl : zs.length = n) (h : Hid (RowIs w g 5 (List.replicate n (Value.int .u8 0)))) : FRow w g zs 0 := by
  unfold FRow; rw [fill_zero, hl]; simpa using h.out
theorem FRow.cell {w : World} {g : Nat} {zs : List Int} {k : Nat} (h : FRow w g zs k) (hk : k < zs.length) : ∃ v, w.cell? ⟨g, k, none⟩ = some (.int .u8 v) := ⟨_, row_cell h (by rw [fill_length]; exact hk)⟩
theorem FRow.frozen {w : World} {g : Nat} {zs : List Int} {k : Nat} (h : FRow w g zs k) : w.frozen? ⟨g, k, none⟩ = false := RowIs.frozen h k
theorem FRow.step {w : World} {g : Nat} {zs : List Int} {k : Nat} (h : FRow w g zs k) (hk : k < zs.length) {v : Int} (hv : v = zs[k]?.getD 0) : FRow (w.setCell ⟨g, k, none⟩ (.int .u8 v)) g zs (k + 1) := by
  subst hv; exact fill_row h hk

theorem Trym.info5 : (Trym.prog.info? 5).map (fun i => (i.zero, i.size, i.bytes)) = some (some (.int .u8 0), 1, 1) := by kernel_rfl

set_option maxHeartbeats 1000000 in
theorem join_any (a0 : Option Addr) (n0 cap0 : Nat) (xs : List Int) (a1 : Option Addr) (n1 cap1 : Nat) (ys : List Int) (w : World) (h0 : InRow w a0 n0 xs) (h1 : InRow w a1 n1 ys) (hn : n0 + n1 ≤ 1048576) :
    Calls Trym.prog 13 #[.slice a0 n0 cap0, .slice a1 n1 cap1] w fun e w' => e = .returned (.slice (some ⟨w.heap.size, 0, none⟩) (n0 + n1) (n0 + n1)) ∧ RowIs w' w.heap.size 5 ((xs ++ ys).map (Value.int .u8)) ∧ Below w.heap.size w w' := by
  obtain ⟨i0, hi, hz0, hz1, hz2⟩ := info_parts Trym.info5
  have hl0 := h0.len
  have hl1 := h1.len
  have H0 : Hid (InRow w a0 n0 xs) := h0
  have H1 : Hid (InRow w a1 n1 ys) := h1
  have HL : Hid ((xs ++ ys).length = n0 + n1) := by show _ = _; simp [hl0, hl1]
  have HL0 : Hid (xs.length = n0) := hl0
  have HL1 : Hid (ys.length = n1) := hl1
  clear h0 h1 hl0 hl1
  have hmx : n0 + n1 ≤ maxLen := by unfold maxLen; omega
  go_enter Trym.func13, Trym.ntmps13
  go_wp2_with (at_make; refine wpList_make_is _ rfl _ _ 27 rfl 5 i0 .u8 Trym.underlying27 hi hz0 hz1 _ _ _ _ (n0 + n1) rfl rfl (by omega) (by omega) (by rw [hz2]; omega) hmx ?_)
  intro w1 HR1 hb1
  have HF : Hid (FRow w1 w.heap.size (xs ++ ys) 0) := FRow.start HL.out (by simpa using HR1)
  have HB : Hid (Below w.heap.size w w1) := hb1
  clear HR1 hb1
  go_wp2
  go_loopw [6] (fun i wr => ∃ k : Nat, k ≤ n0 ∧ i = .int .i64 k ∧ Hid (FRow wr w.heap.size (xs ++ ys) k) ∧ Hid (Below w.heap.size w wr)) (fun i _ => n0 - (intOf i).toNat)
  case atStart => exact ⟨0, Nat.zero_le _, rfl, HF, HB⟩
  case round =>
    obtain ⟨k, hk, rfl, HFr, HBr⟩ := hrel
    by_cases hlt : k < n0
    · obtain ⟨b, off, e, hbl, hc⟩ := H0.out.lies (by omega)
      subst e
      have hcx : wr.cell? ⟨b, off + k, none⟩ = some (.int .u8 (xs[k]?.getD 0)) := (HBr.out.cell (p := ⟨b, off + k, none⟩) hbl).trans (hc k hlt)
      have hkz : k < (xs ++ ys).length := by rw [HL.out]; omega
      obtain ⟨v, hcg⟩ := HFr.out.cell hkz
      have hfz := HFr.out.frozen
      have HS : Hid (FRow (wr.setCell ⟨w.heap.size, k, none⟩ (.int .u8 (xs[k]?.getD 0))) w.heap.size (xs ++ ys) (k + 1)) := HFr.out.step hkz (by rw [List.getElem?_append_left (by rw [HL0.out]; exact hlt)])
      have HB' : Hid (Below w.heap.size w (wr.setCell ⟨w.heap.size, k, none⟩ (.int .u8 (xs[k]?.getD 0)))) := HBr.out.setCell (p := ⟨w.heap.size, k, none⟩) (Nat.le_refl _) _
      clear hc hkz
      go_wp2
      go_roundw
      case rel => exact ⟨k + 1, by omega, by go_num, HS, HB'⟩
      case measure => simp [intOf]; omega
    · have ek : k = n0 := by omega
      subst ek
      clear HF HB
      go_wp2
      go_loopw [7] (fun i wq => ∃ j : Nat, j ≤ n1 ∧ i = .int .i64 j ∧ Hid (FRow wq w.heap.size (xs ++ ys) (k + j)) ∧ Hid (Below w.heap.size w wq)) (fun i _ => n1 - (intOf i).toNat)
      case atStart => exact ⟨0, Nat.zero_le _, rfl, HFr, HBr⟩
      case round =>
        clear HFr HBr
        obtain ⟨j, hj, rfl, HFr, HBr⟩ := hrel
        by_cases hlt : j < n1
        · obtain ⟨b, off, e, hbl, hc⟩ := H1.out.lies (by omega)
          subst e
          have hcx : wr.cell? ⟨b, off + j, none⟩ = some (.int .u8 (ys[j]?.getD 0)) := (HBr.out.cell (p := ⟨b, off + j, none⟩) hbl).trans (hc j hlt)
          have hkz : k + j < (xs ++ ys).length := by rw [HL.out]; omega
          obtain ⟨v, hcg⟩ := HFr.out.cell hkz
          have hfz := HFr.out.frozen
          have HS : Hid (FRow (wr.setCell ⟨w.heap.size, k + j, none⟩ (.int .u8 (ys[j]?.getD 0))) w.heap.size (xs ++ ys) (k + j + 1)) := HFr.out.step hkz (by rw [List.getElem?_append_right (by rw [HL0.out]; omega), HL0.out, Nat.add_sub_cancel_left])
          have HB' : Hid (Below w.heap.size w (wr.setCell ⟨w.heap.size, k + j, none⟩ (.int .u8 (ys[j]?.getD 0)))) := HBr.out.setCell (p := ⟨w.heap.size, k + j, none⟩) (Nat.le_refl _) _
          clear hc hkz
          go_wp2
          go_roundw
          case rel => exact ⟨j + 1, by omega, by go_num, HS, HB'⟩
          case measure => simp [intOf]; omega
        · have ej : j = n1 := by omega
          subst ej
          have HE : Hid (RowIs wr w.heap.size 5 ((xs ++ ys).map (Value.int .u8))) := by
            have := HFr.out
            rw [← HL.out] at this
            unfold FRow at this
            rwa [fill_all] at this
          clear HFr
          go_wp2
          go_ret
          exact ⟨rfl, HE.out, HBr.out⟩
end Go.Proofs.Qxb6615543aMods
