/-
  THE CONTRACTS OF suffixTypes.s, ZZsuffixTypesS, suffixLess.
-/
import Derived.Test.Qxb6616952aModsRRMem
import Derived.Test.Qxb6616952aModsRRPlain
import Derived.WalkLawsBesides
import Derived.WalkSmall
import Derived.Deep.QuietTactic
import Derived.BigQuiet
namespace Go.Proofs.Qxb6616952aModsRR
open Go.RowKit
set_option linter.unusedVariables false

theorem ret_bool {a b : Bool} (h : a = b) : Ending.returned (.bool a) = .returned (.bool b) := by rw [h]

/-- A row of words of 64 bits. -/
def WRow (w : World) (g : Nat) (ws : List Nat) : Prop := RowIs w g 37 (ws.map fun (x : Nat) => Value.int .u64 (x : Int))
theorem WRow.cell {w : World} {g : Nat} {ws : List Nat} (h : WRow w g ws) {q : Nat} (hq : q < ws.length) : w.cell? ⟨g, q, none⟩ = some (.int .u64 ((ws[q]?.getD 0 : Nat) : Int)) := by
  rw [RowIs.cell h q]; simp [hq]
theorem WRow.after {w w' : World} {g : Nat} {ws : List Nat} (h : WRow w g ws) (hb : Below w.heap.size w w') : WRow w' g ws := RowIs.after h hb

theorem wrap_pow (r : Nat) (h : r < 64) : IntKind.u64.wrap ((2 : Int) ^ r) = ((2 ^ r : Nat) : Int) := by
  have h1 : 2 ^ r < 2 ^ 64 := Nat.pow_lt_pow_right (by omega) h
  have e : ((2 ^ r : Nat) : Int) = (2 : Int) ^ r := by rw [Int.natCast_pow]; rfl
  rw [← e]
  have h2 : 2 ^ r ≤ 18446744073709551615 := by omega
  generalize 2 ^ r = y at h2
  exact IntWalk.u64_in _ ⟨by omega, by omega⟩
theorem and_bit (x k : Nat) (hx : x < 18446744073709551616) : (bits BinOp.and IntKind.u64 (x : Int) (IntKind.u64.wrap (2 ^ (k % 64))) != 0) = x.testBit (k % 64) := by
  have h1 : 2 ^ (k % 64) < 2 ^ 64 := Nat.pow_lt_pow_right (by omega) (by omega)
  rw [wrap_pow _ (by omega), bits_and_u64_nat x _ hx (by omega)]
  cases h : x.testBit (k % 64) with
  | false =>
    have : x &&& 2 ^ (k % 64) = 0 := by
      apply Nat.eq_of_testBit_eq
      intro i
      rw [Nat.testBit_and, Nat.testBit_two_pow, Nat.zero_testBit]
      by_cases e : k % 64 = i
      · subst e; simp [h]
      · simp [e]
    rw [this]; rfl
  | true =>
    have : ¬ x &&& 2 ^ (k % 64) = 0 := by
      intro e
      have := congrArg (Nat.testBit · (k % 64)) e
      simp [h] at this
    simp only [bne_iff_ne, ne_eq]
    omega
theorem or_bit (x k : Nat) (hx : x < 18446744073709551616) : bits BinOp.or IntKind.u64 (x : Int) (IntKind.u64.wrap (2 ^ (k % 64))) = ((x ||| 2 ^ (k % 64) : Nat) : Int) := by
  have h1 : 2 ^ (k % 64) < 2 ^ 64 := Nat.pow_lt_pow_right (by omega) (by omega)
  rw [wrap_pow _ (by omega), bits_or_u64_nat x _ hx (by omega)]

set_option maxHeartbeats 400000 in
theorem s_any (g m k x : Nat) (f : Bool) (w : World) (hm : m ≤ 65536) (hk : k / 64 < m) (hc : w.cell? ⟨g, k / 64, none⟩ = some (.int .u64 (x : Int))) (hx : x < 18446744073709551616) (hf : x.testBit (k % 64) = f) :
    Calls Trym.prog 18 #[.slice (some ⟨g, 0, none⟩) m m, .int .i64 k] w fun e w' => e = .returned (.bool f) ∧ w' = w := by
  have hkb : k < 4194304 := by omega
  have HF : Hid ((bits BinOp.and IntKind.u64 (x : Int) (IntKind.u64.wrap (2 ^ (k % 64))) != 0) = f) := (and_bit x k hx).trans hf
  clear hf
  go_enter Trym.func18, Trym.ntmps18
  go_wp2
  go_ret
  exact ⟨ret_bool HF.out, rfl⟩

/-- What classify leaves, as its readers take it: the row of words at g tells f of the first n positions. -/
structure Told (w : World) (g m n : Nat) (f : Nat → Bool) : Prop where
  le : n ≤ 65536
  len : m = (n + 63) / 64
  row : ∃ ws, WRow w g ws ∧ Marks ws n f

theorem Told.after {w w' : World} {g m n : Nat} {f : Nat → Bool} (h : Told w g m n f) (hb : Below w.heap.size w w') : Told w' g m n f := by
  obtain ⟨ws, h1, h2⟩ := h.row
  exact ⟨h.le, h.len, ws, h1.after hb, h2⟩

set_option maxHeartbeats 400000 in
theorem zzs_any (g m n k : Nat) (f : Nat → Bool) (w : World) (h : Told w g m n f) (hk : k < n) :
    Calls Trym.prog 12 #[.slice (some ⟨g, 0, none⟩) m m, .int .i64 k] w fun e w' => e = .returned (.bool (f k)) ∧ w' = w := by
  obtain ⟨ws, h1, h2⟩ := h.row
  have hn := h.le
  have hm := h.len
  have hl := h2.len
  have hc := h1.cell (q := k / 64) (by omega)
  have H := s_any g m k _ (f k) w (by omega) (by omega) hc (h2.small _) (h2.bit k hk)
  clear h1 h2 hc hl hm h
  go_enter Trym.func12, Trym.ntmps12
  go_wp2_with (go_at_call 18; refine H.mono ?_; rintro e w' ⟨rfl, hw⟩; obtain rfl : w = w' := hw.symm)
  go_ret
  exact ⟨rfl, rfl⟩

set_option maxHeartbeats 400000 in
theorem less_any (a : Option Addr) (n cap i : Nat) (bs : List Int) (w : World) (hr : InRow w a n bs) (hn : n ≤ 65536) (hi : i < n) :
    Calls Trym.prog 13 #[.slice a n cap, .int .i64 i, .int .i64 ((i : Int) + 1)] w fun e w' => e = .returned (.bool (sAt bs i)) ∧ Below w.heap.size w w' := by
  obtain ⟨b, off, rfl, hbl, hcell⟩ := hr.lies (by omega)
  have HC : Hid (∀ j, j < n → w.cell? ⟨b, off + j, none⟩ = some (.int .u8 (bs[j]?.getD 0))) := hcell
  have HL : Hid (bs.length = n) := hr.len
  have HY : Hid (∀ j : Nat, 0 ≤ bs[j]?.getD 0 ∧ bs[j]?.getD 0 ≤ 255) := hr.byte
  clear hcell hr
  go_enter Trym.func13, Trym.ntmps13
  go_wp2
  go_loopw [1, 2] (fun p q wr => ∃ k : Nat, k < n ∧ p = .int .i64 k ∧ q = .int .i64 ((k : Int) + 1) ∧ Hid (sAt bs k = sAt bs i) ∧ Hid (Below w.heap.size w wr)) (fun p _ _ => n - (intOf p).toNat)
  case atStart => exact ⟨i, hi, rfl, rfl, rfl, Below.refl _ _⟩
  case round =>
    obtain ⟨k, hk, rfl, rfl, HS, HB⟩ := hrel
    have hne : ((k : Int) == (n : Int)) = false := by simp; omega
    have hc0 : wr.cell? ⟨b, off + k, none⟩ = some (.int .u8 (bs[k]?.getD 0)) := (HB.out.cell (p := ⟨b, off + k, none⟩) hbl).trans (HC.out k hk)
    by_cases hl : k + 1 < n
    · have hne1 : ((k : Int) + 1 == (n : Int)) = false := by simp; omega
      have hc1 : wr.cell? ⟨b, off + (k + 1), none⟩ = some (.int .u8 (bs[k + 1]?.getD 0)) := (HB.out.cell (p := ⟨b, off + (k + 1), none⟩) hbl).trans (HC.out (k + 1) hl)
      by_cases he : bs[k]?.getD 0 = bs[k + 1]?.getD 0
      · have HS1 : Hid (sAt bs (k + 1) = sAt bs i) := (sAt_eq (by rw [HL.out]; exact hl) he).symm.trans HS.out
        have hk0 : (k : Int) < (n : Int) := by omega
        have hk1 : (k : Int) + 1 < (n : Int) := by omega
        clear HS
        go_wp2
        go_quiet (fail)
        go_wp2
        go_roundw
        case rel => exact ⟨k + 1, hl, by go_num, by go_num, HS1, below_drewN HB.out nq⟩
        case measure => simp [intOf]; omega
      · have hk0 : (k : Int) < (n : Int) := by omega
        have hk1 : (k : Int) + 1 < (n : Int) := by omega
        have he' : (bs[k]?.getD 0 == bs[k + 1]?.getD 0) = false := by simpa using he
        have HV : Hid (decide (bs[k]?.getD 0 < bs[k + 1]?.getD 0) = sAt bs i) := by
          have := sAt_step bs k (by rw [HL.out]; exact hl)
          rw [if_neg he] at this
          exact this.symm.trans HS.out
        clear HS
        go_wp2
        go_quiet (fail)
        go_wp2
        go_quiet (fail)
        go_wp2
        go_ret
        exact ⟨ret_bool HV.out, below_drewN (below_drewN HB.out _) _⟩
    · have hk1 : ((k : Int) + 1 == (n : Int)) = true := by simp; omega
      have HV : Hid (sAt bs i = false) := HS.out.symm.trans (sAt_last bs k (by rw [HL.out]; omega))
      clear HS
      go_wp2
      go_ret
      exact ⟨ret_bool HV.out.symm, HB.out⟩
end Go.Proofs.Qxb6616952aModsRR
