/-
  THE CONTRACTS OF isSeparator, ZZisSeparator, encodesSeparator.
-/
import Derived.Test.Qxb6615543aModsMem
import Derived.WalkLawsBesides
namespace Go.Proofs.Qxb6615543aMods
open Go.RowKit
set_option linter.unusedVariables false

/-- Do the three bytes at k spell U+2028 or U+2029. -/
def sep3 (c0 c1 c2 : Int) : Bool := decide (c0 = 226 ∧ c1 = 128 ∧ (c2 = 168 ∨ c2 = 169))
def sepAt (bs : List Int) (k : Nat) : Bool := decide (k + 2 < bs.length) && sep3 (bs[k]?.getD 0) (bs[k + 1]?.getD 0) (bs[k + 2]?.getD 0)

theorem ret_bool {a b : Bool} (h : a = b) : Ending.returned (.bool a) = .returned (.bool b) := by rw [h]

theorem andNot_fin : ∀ c : Fin 256, (bits BinOp.andNot IntKind.u8 ((c.val : Nat) : Int) 1 == 168) = sep3 226 128 ((c.val : Nat) : Int) := by decide +kernel
theorem andNot_one (c : Int) (h : 0 ≤ c ∧ c ≤ 255) : (bits BinOp.andNot IntKind.u8 c 1 == 168) = sep3 226 128 c := by
  obtain ⟨k, rfl⟩ : ∃ k : Nat, c = k := ⟨c.toNat, by omega⟩
  exact andNot_fin ⟨k, by omega⟩
theorem and240_fin : ∀ c : Fin 256, (bits BinOp.and IntKind.u8 ((c.val : Nat) : Int) 240 = 224) ↔ (224 ≤ c.val ∧ c.val < 240) := by decide +kernel
theorem and192_fin : ∀ c : Fin 256, (bits BinOp.and IntKind.u8 ((c.val : Nat) : Int) 192 = 128) ↔ (128 ≤ c.val ∧ c.val < 192) := by decide +kernel
theorem and240 (c : Int) (h : 0 ≤ c ∧ c ≤ 255) : bits BinOp.and IntKind.u8 c 240 = 224 ↔ (224 ≤ c ∧ c < 240) := by
  obtain ⟨k, rfl⟩ : ∃ k : Nat, c = k := ⟨c.toNat, by omega⟩
  rw [and240_fin ⟨k, by omega⟩]
  show (224 ≤ k ∧ k < 240) ↔ _
  omega
theorem and192 (c : Int) (h : 0 ≤ c ∧ c ≤ 255) : bits BinOp.and IntKind.u8 c 192 = 128 ↔ (128 ≤ c ∧ c < 192) := by
  obtain ⟨k, rfl⟩ : ∃ k : Nat, c = k := ⟨c.toNat, by omega⟩
  rw [and192_fin ⟨k, by omega⟩]
  show (128 ≤ k ∧ k < 192) ↔ _
  omega
theorem or_i64 (a b : Nat) (ha : a < 4611686018427387904) (hb : b < 4611686018427387904) : bits .or .i64 (a : Int) (b : Int) = ((a ||| b : Nat) : Int) := by
  have hx : a ||| b < 2 ^ 62 := Nat.or_lt_two_pow (by omega) (by omega)
  show IntKind.i64.wrap ((BitVec.ofInt 64 (a : Int) ||| BitVec.ofInt 64 (b : Int)).toNat : Int) = _
  rw [BitVec.toNat_or, ofInt_u64 a (by omega), ofInt_u64 b (by omega)]
  rw [IntKind.wrap_i64]
  omega
/-- The code that three bytes encode, as the Go text reckons it. -/
def code3 (c0 c1 c2 : Int) : Int := bits BinOp.or IntKind.i64 (bits BinOp.or IntKind.i64 (c0 % 16 * 4096) (c1 % 64 * 64)) (c2 % 64)
theorem code3_eq (c0 c1 c2 : Int) : code3 c0 c1 c2 = c0 % 16 * 4096 + c1 % 64 * 64 + c2 % 64 := by
  unfold code3
  obtain ⟨x, hx⟩ : ∃ x : Nat, c0 % 16 = x := ⟨(c0 % 16).toNat, by omega⟩
  obtain ⟨y, hy⟩ : ∃ y : Nat, c1 % 64 = y := ⟨(c1 % 64).toNat, by omega⟩
  obtain ⟨z, hz⟩ : ∃ z : Nat, c2 % 64 = z := ⟨(c2 % 64).toNat, by omega⟩
  have bx : x < 16 := by omega
  have byy : y < 64 := by omega
  have bz : z < 64 := by omega
  rw [hx, hy, hz]
  rw [show (x : Int) * 4096 = ((x * 4096 : Nat) : Int) by omega, show (y : Int) * 64 = ((y * 64 : Nat) : Int) by omega, or_i64 _ _ (by omega) (by omega)]
  have e1 : x * 4096 ||| y * 64 = x * 4096 + y * 64 := by
    have := Nat.two_pow_add_eq_or_of_lt (i := 12) (b := y * 64) (by omega) x
    rw [show 2 ^ 12 * x = x * 4096 by omega] at this
    exact this.symm
  rw [e1, or_i64 _ _ (by omega) (by omega)]
  have e2 : (x * 4096 + y * 64) ||| z = x * 4096 + y * 64 + z := by
    have := Nat.two_pow_add_eq_or_of_lt (i := 6) (b := z) (by omega) (x * 64 + y)
    rw [show 2 ^ 6 * (x * 64 + y) = x * 4096 + y * 64 by omega] at this
    exact this.symm
  rw [e2]
  omega
theorem sep3_false0 {c0 c1 c2 : Int} (b0 : 0 ≤ c0 ∧ c0 ≤ 255) (h : ¬ bits BinOp.and IntKind.u8 c0 240 = 224) : sep3 c0 c1 c2 = false := by
  rw [and240 c0 b0] at h; unfold sep3; rw [decide_eq_false_iff_not]; omega
theorem sep3_false1 {c0 c1 c2 : Int} (b1 : 0 ≤ c1 ∧ c1 ≤ 255) (h : ¬ bits BinOp.and IntKind.u8 c1 192 = 128) : sep3 c0 c1 c2 = false := by
  rw [and192 c1 b1] at h; unfold sep3; rw [decide_eq_false_iff_not]; omega
theorem sep3_false2 {c0 c1 c2 : Int} (b2 : 0 ≤ c2 ∧ c2 ≤ 255) (h : ¬ bits BinOp.and IntKind.u8 c2 192 = 128) : sep3 c0 c1 c2 = false := by
  rw [and192 c2 b2] at h; unfold sep3; rw [decide_eq_false_iff_not]; omega
theorem sep3_code {c0 c1 c2 : Int} (b0 : 0 ≤ c0 ∧ c0 ≤ 255) (b1 : 0 ≤ c1 ∧ c1 ≤ 255) (b2 : 0 ≤ c2 ∧ c2 ≤ 255) (q0 : bits BinOp.and IntKind.u8 c0 240 = 224) (q1 : bits BinOp.and IntKind.u8 c1 192 = 128) (q2 : bits BinOp.and IntKind.u8 c2 192 = 128) :
    sep3 c0 c1 c2 = true ↔ (code3 c0 c1 c2 = 8232 ∨ code3 c0 c1 c2 = 8233) := by
  rw [and240 c0 b0] at q0; rw [and192 c1 b1] at q1; rw [and192 c2 b2] at q2
  rw [code3_eq]; unfold sep3; rw [decide_eq_true_iff]; omega

set_option maxHeartbeats 400000 in
theorem issep_short (p : Addr) (a : Option Addr) (n cap : Nat) (i : Int) (w : World) (hp : p.spot = none) (hc : w.cell? p = some (.slice a n cap)) (h0 : 0 ≤ i) (h1 : i ≤ 2147483648) (h : (n : Int) ≤ i + 2) :
    Calls Trym.prog 24 #[.pointer (some p), .int .i64 i] w fun e w' => e = .returned (.bool false) ∧ w' = w := by
  obtain ⟨b, off, spot⟩ := p
  subst hp
  have hd : ¬ i + 2 < (n : Int) := by omega
  have hd' : decide (i + 2 < (n : Int)) = false := by simpa using hd
  go_enter Trym.func24, Trym.ntmps24
  go_wp2
  go_ret
  exact ⟨rfl, rfl⟩

set_option maxHeartbeats 400000 in
theorem issep_long (p : Addr) (b off n cap k : Nat) (c0 c1 c2 : Int) (w : World) (hp : p.spot = none) (hc : w.cell? p = some (.slice (some ⟨b, off, none⟩) n cap)) (hn : n ≤ 2147483648) (h : k + 2 < n)
    (g0 : w.cell? ⟨b, off + k, none⟩ = some (.int .u8 c0)) (g1 : w.cell? ⟨b, off + (k + 1), none⟩ = some (.int .u8 c1)) (g2 : w.cell? ⟨b, off + (k + 2), none⟩ = some (.int .u8 c2))
    (b0 : 0 ≤ c0 ∧ c0 ≤ 255) (b1 : 0 ≤ c1 ∧ c1 ≤ 255) (b2 : 0 ≤ c2 ∧ c2 ≤ 255) :
    Calls Trym.prog 24 #[.pointer (some p), .int .i64 k] w fun e w' => e = .returned (.bool (sep3 c0 c1 c2)) ∧ w' = w := by
  obtain ⟨pb, po, spot⟩ := p
  subst hp
  have hd : (k : Int) + 2 < (n : Int) := by omega
  by_cases e0 : c0 = 226
  · by_cases e1 : c1 = 128
    · subst e0; subst e1
      go_enter Trym.func24, Trym.ntmps24
      go_wp2
      go_ret
      exact ⟨ret_bool (andNot_one c2 b2), rfl⟩
    · have e1' : (c1 == 128) = false := by simpa using e1
      have hv : sep3 c0 c1 c2 = false := by simp [sep3, e1]
      subst e0
      go_enter Trym.func24, Trym.ntmps24
      go_wp2
      go_ret
      exact ⟨ret_bool hv.symm, rfl⟩
  · have e0' : (c0 == 226) = false := by simpa using e0
    have hv : sep3 c0 c1 c2 = false := by simp [sep3, e0]
    go_enter Trym.func24, Trym.ntmps24
    go_wp2
    go_ret
    exact ⟨ret_bool hv.symm, rfl⟩

set_option maxHeartbeats 400000 in
theorem enc_long (b off n cap k : Nat) (c0 c1 c2 : Int) (w : World) (hn : n ≤ 2147483648) (h : k + 2 < n)
    (g0 : w.cell? ⟨b, off + k, none⟩ = some (.int .u8 c0)) (g1 : w.cell? ⟨b, off + (k + 1), none⟩ = some (.int .u8 c1)) (g2 : w.cell? ⟨b, off + (k + 2), none⟩ = some (.int .u8 c2))
    (b0 : 0 ≤ c0 ∧ c0 ≤ 255) (b1 : 0 ≤ c1 ∧ c1 ≤ 255) (b2 : 0 ≤ c2 ∧ c2 ≤ 255) :
    Calls Trym.prog 15 #[.slice (some ⟨b, off, none⟩) n cap, .int .i64 k] w fun e w' => e = .returned (.bool (sep3 c0 c1 c2)) ∧ w' = w := by
  have hd : ¬ (n : Int) - (k : Int) < 3 := by omega
  have hk0 : ¬ (k : Int) < 0 := by omega
  by_cases q0 : bits BinOp.and IntKind.u8 c0 240 = 224
  · by_cases q1 : bits BinOp.and IntKind.u8 c1 192 = 128
    · by_cases q2 : bits BinOp.and IntKind.u8 c2 192 = 128
      · have hv := sep3_code b0 b1 b2 q0 q1 q2
        unfold code3 at hv
        by_cases d1 : bits BinOp.or IntKind.i64 (bits BinOp.or IntKind.i64 (c0 % 16 * 4096) (c1 % 64 * 64)) (c2 % 64) = 8232
        · have hv1 : sep3 c0 c1 c2 = true := hv.2 (.inl d1)
          clear hv
          go_enter Trym.func15, Trym.ntmps15
          go_wp2
          go_ret
          exact ⟨rfl, rfl⟩
        · have d1' : (bits BinOp.or IntKind.i64 (bits BinOp.or IntKind.i64 (c0 % 16 * 4096) (c1 % 64 * 64)) (c2 % 64) == 8232) = false := by simpa using d1
          by_cases d2 : bits BinOp.or IntKind.i64 (bits BinOp.or IntKind.i64 (c0 % 16 * 4096) (c1 % 64 * 64)) (c2 % 64) = 8233
          · have hv1 : sep3 c0 c1 c2 = true := hv.2 (.inr d2)
            clear hv d1 d1'
            go_enter Trym.func15, Trym.ntmps15
            go_wp2
            go_ret
            exact ⟨rfl, rfl⟩
          · have d2' : (bits BinOp.or IntKind.i64 (bits BinOp.or IntKind.i64 (c0 % 16 * 4096) (c1 % 64 * 64)) (c2 % 64) == 8233) = false := by simpa using d2
            have hv1 : sep3 c0 c1 c2 = false := by rw [Bool.eq_false_iff]; intro e; rcases hv.1 e with e | e <;> contradiction
            clear hv
            go_enter Trym.func15, Trym.ntmps15
            go_wp2
            go_ret
            exact ⟨rfl, rfl⟩
      · have q2' : (bits BinOp.and IntKind.u8 c2 192 != 128) = true := by simpa using q2
        have hv := sep3_false2 (c0 := c0) (c1 := c1) b2 q2
        go_enter Trym.func15, Trym.ntmps15
        go_wp2
        go_ret
        exact ⟨rfl, rfl⟩
    · have q1' : (bits BinOp.and IntKind.u8 c1 192 != 128) = true := by simpa using q1
      have hv := sep3_false1 (c0 := c0) (c2 := c2) b1 q1
      go_enter Trym.func15, Trym.ntmps15
      go_wp2
      go_ret
      exact ⟨rfl, rfl⟩
  · have q0' : (bits BinOp.and IntKind.u8 c0 240 != 224) = true := by simpa using q0
    have hv := sep3_false0 (c1 := c1) (c2 := c2) b0 q0
    go_enter Trym.func15, Trym.ntmps15
    go_wp2
    go_ret
    exact ⟨rfl, rfl⟩

set_option maxHeartbeats 400000 in
theorem enc_short (a : Option Addr) (n cap : Nat) (i : Int) (w : World) (h0 : 0 ≤ i) (h1 : i ≤ 2147483648) (h : (n : Int) ≤ i + 2) :
    Calls Trym.prog 15 #[.slice a n cap, .int .i64 i] w fun e w' => e = .returned (.bool false) ∧ w' = w := by
  have hd : (n : Int) - i < 3 := by omega
  have h0' : ¬ i < 0 := by omega
  go_enter Trym.func15, Trym.ntmps15
  go_wp2
  go_ret
  exact ⟨rfl, rfl⟩

/-! ### THE TWO READERS, OVER WHATEVER SLICE -/
theorem issep_any (p : Addr) (a : Option Addr) (n cap k : Nat) (i : Int) (bs : List Int) (w : World) (hp : p.spot = none) (hc : w.cell? p = some (.slice a n cap)) (hr : InRow w a n bs) (hn : n ≤ 2147483648) (hi : i = (k : Int)) (hk : k ≤ 2147483648) :
    Calls Trym.prog 24 #[.pointer (some p), .int .i64 i] w fun e w' => e = .returned (.bool (sepAt bs k)) ∧ w' = w := by
  subst hi
  unfold sepAt
  rw [hr.len]
  by_cases h : k + 2 < n
  · obtain ⟨b, off, rfl, _, hcell⟩ := hr.lies (by omega)
    rw [decide_eq_true h, Bool.true_and]
    exact issep_long p b off n cap k _ _ _ w hp hc hn h (hcell k (by omega)) (hcell (k + 1) (by omega)) (hcell (k + 2) (by omega)) (hr.byte _) (hr.byte _) (hr.byte _)
  · rw [decide_eq_false h, Bool.false_and]
    exact issep_short p a n cap k w hp hc (by omega) (by omega) (by omega)

theorem enc_any (a : Option Addr) (n cap k : Nat) (i : Int) (bs : List Int) (w : World) (hr : InRow w a n bs) (hn : n ≤ 2147483648) (hi : i = (k : Int)) (hk : k ≤ 2147483648) :
    Calls Trym.prog 15 #[.slice a n cap, .int .i64 i] w fun e w' => e = .returned (.bool (sepAt bs k)) ∧ w' = w := by
  subst hi
  unfold sepAt
  rw [hr.len]
  by_cases h : k + 2 < n
  · obtain ⟨b, off, rfl, _, hcell⟩ := hr.lies (by omega)
    rw [decide_eq_true h, Bool.true_and]
    exact enc_long b off n cap k _ _ _ w hn h (hcell k (by omega)) (hcell (k + 1) (by omega)) (hcell (k + 2) (by omega)) (hr.byte _) (hr.byte _) (hr.byte _)
  · rw [decide_eq_false h, Bool.false_and]
    exact enc_short a n cap k w (by omega) (by omega) (by omega)

set_option maxHeartbeats 400000 in
theorem zzsep_any (a : Option Addr) (n cap k : Nat) (i : Int) (bs : List Int) (w : World) (hr : InRow w a n bs) (hn : n ≤ 2147483648) (hi : i = (k : Int)) (hk : k ≤ 2147483648) :
    Calls Trym.prog 14 #[.slice a n cap, .int .i64 i] w fun e w' => e = .returned (.bool (sepAt bs k)) ∧ Below w.heap.size w w' := by
  subst hi
  have hr1 : ∀ o : Obj, InRow (w.alloc o) a n bs := fun o => hr.after ((Below.refl _ _).alloc (Nat.le_refl _) o)
  have hb1 : ∀ o : Obj, Below w.heap.size w (w.alloc o) := fun o => (Below.refl _ _).alloc (Nat.le_refl _) o
  go_enter Trym.func14, Trym.ntmps14
  go_wp2_with fail
  refine (issep_any _ a n cap k _ bs _ rfl (by simp) (hr1 _) hn rfl hk).mono ?_
  rintro e w' ⟨rfl, rfl⟩
  go_wp2
  go_ret
  exact ⟨rfl, hb1 _⟩
end Go.Proofs.Qxb6615543aMods
