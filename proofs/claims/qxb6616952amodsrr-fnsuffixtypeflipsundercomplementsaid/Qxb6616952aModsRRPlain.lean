/-
  THE PLAIN MATHEMATICS OF SUFFIX TYPES: no Go in sight.
-/
namespace Go.Proofs.Qxb6616952aModsRR
set_option linter.unusedVariables false

/-- Is a text below its own tail: S-type. -/
def stype : List Int → Bool
  | [] => false
  | x :: r => match r with
    | [] => false
    | y :: _ => if x = y then stype r else decide (x < y)
/-- The type of the suffix at k. -/
def sAt (bs : List Int) (k : Nat) : Bool := stype (bs.drop k)

theorem sAt_last (bs : List Int) (k : Nat) (h : bs.length ≤ k + 1) : sAt bs k = false := by
  unfold sAt
  match e : bs.drop k with
  | [] => rfl
  | [x] => rfl
  | x :: y :: r => have := congrArg List.length e; simp at this; omega

theorem sAt_step (bs : List Int) (k : Nat) (h : k + 1 < bs.length) :
    sAt bs k = if bs[k]?.getD 0 = bs[k + 1]?.getD 0 then sAt bs (k + 1) else decide (bs[k]?.getD 0 < bs[k + 1]?.getD 0) := by
  have h0 : k < bs.length := by omega
  unfold sAt
  rw [List.drop_eq_getElem_cons h0, List.drop_eq_getElem_cons h]
  simp [stype, h0, h]

theorem sAt_eq {bs : List Int} {k : Nat} (h : k + 1 < bs.length) (e : bs[k]?.getD 0 = bs[k + 1]?.getD 0) : sAt bs k = sAt bs (k + 1) := by rw [sAt_step bs k h, if_pos e]
theorem sAt_lt {bs : List Int} {k : Nat} (h : k + 1 < bs.length) (e : bs[k]?.getD 0 < bs[k + 1]?.getD 0) : sAt bs k = true := by rw [sAt_step bs k h, if_neg (by omega), decide_eq_true e]
theorem sAt_gt {bs : List Int} {k : Nat} (h : k + 1 < bs.length) (e : ¬ bs[k]?.getD 0 = bs[k + 1]?.getD 0) (e' : ¬ bs[k]?.getD 0 < bs[k + 1]?.getD 0) : sAt bs k = false := by rw [sAt_step bs k h, if_neg e, decide_eq_false e']

/-! ### A bit a position, in words of 64 -/
structure Marks (ws : List Nat) (n : Nat) (f : Nat → Bool) : Prop where
  len : ws.length = (n + 63) / 64
  small : ∀ q : Nat, ws[q]?.getD 0 < 18446744073709551616
  bit : ∀ j, j < n → (ws[j / 64]?.getD 0).testBit (j % 64) = f j

theorem Marks.same {ws : List Nat} {n : Nat} {f g : Nat → Bool} (h : Marks ws n f) (e : ∀ j, j < n → f j = g j) : Marks ws n g := ⟨h.len, h.small, fun j hj => (h.bit j hj).trans (e j hj)⟩

theorem marks_zero (n : Nat) (f : Nat → Bool) (hf : ∀ j, j < n → f j = false) : Marks (List.replicate ((n + 63) / 64) 0) n f := by
  refine ⟨by simp, fun q => ?_, fun j hj => ?_⟩
  · rw [List.getElem?_replicate]; split <;> simp
  · rw [List.getElem?_replicate, hf j hj]; split <;> simp

theorem marks_set {ws : List Nat} {n : Nat} {f g : Nat → Bool} (h : Marks ws n f) (k : Nat) (hk : k < n) (hg : ∀ j, j < n → g j = (f j || decide (j = k))) :
    Marks (ws.set (k / 64) (ws[k / 64]?.getD 0 ||| 2 ^ (k % 64))) n g := by
  have hl : k / 64 < ws.length := by rw [h.len]; omega
  have hs : ws[k / 64]?.getD 0 ||| 2 ^ (k % 64) < 18446744073709551616 := by
    have h1 : 2 ^ (k % 64) < 2 ^ 64 := Nat.pow_lt_pow_right (by omega) (by omega)
    have h2 := h.small (k / 64)
    exact Nat.or_lt_two_pow (n := 64) h2 h1
  refine ⟨by simpa using h.len, fun q => ?_, fun j hj => ?_⟩
  · by_cases e : k / 64 = q
    · subst e; rw [List.getElem?_set_self hl]; exact hs
    · rw [List.getElem?_set_ne e]; exact h.small q
  · rw [hg j hj]
    by_cases e : k / 64 = j / 64
    · rw [← e, List.getElem?_set_self hl, Option.getD_some, Nat.testBit_or, Nat.testBit_two_pow]
      have hb := h.bit j hj
      rw [← e] at hb
      rw [hb]
      congr 1
      rw [decide_eq_decide]
      omega
    · rw [List.getElem?_set_ne e, h.bit j hj]
      have : ¬ j = k := by omega
      simp [this]

/-- What stands in the words when the positions above i are done. -/
def above (bs : List Int) (i : Int) (j : Nat) : Bool := decide (i < (j : Int)) && sAt bs j

theorem above_yes {ws : List Nat} {bs : List Int} {n k : Nat} (h : Marks ws n (above bs k)) (hk : k < n) (hs : sAt bs k = true) :
    Marks (ws.set (k / 64) (ws[k / 64]?.getD 0 ||| 2 ^ (k % 64))) n (above bs ((k : Int) - 1)) := by
  refine marks_set h k hk fun j hj => ?_
  unfold above
  by_cases e : j = k
  · subst e; simp [hs]; omega
  · have : ((k : Int) - 1 < (j : Int)) ↔ ((k : Int) < (j : Int)) := by omega
    simp [e, this]

theorem above_no {ws : List Nat} {bs : List Int} {n k : Nat} (h : Marks ws n (above bs k)) (hs : sAt bs k = false) : Marks ws n (above bs ((k : Int) - 1)) := by
  refine h.same fun j hj => ?_
  unfold above
  by_cases e : j = k
  · subst e; simp [hs]
  · have : ((k : Int) - 1 < (j : Int)) ↔ ((k : Int) < (j : Int)) := by omega
    simp [this]

theorem above_all {ws : List Nat} {bs : List Int} {n : Nat} {i : Int} (h : Marks ws n (above bs i)) (hi : i < 0) : Marks ws n (sAt bs) := by
  refine h.same fun j hj => ?_
  unfold above
  have : i < (j : Int) := by omega
  simp [this]

/-! ### The complement, and the final run -/
def comp (bs : List Int) : List Int := bs.map fun c => 255 - c
theorem comp_length (bs : List Int) : (comp bs).length = bs.length := by simp [comp]
theorem comp_at (bs : List Int) (k : Nat) (h : k < bs.length) : (comp bs)[k]?.getD 0 = 255 - bs[k]?.getD 0 := by simp [comp, h]

/-- t is where the final run of one byte begins. -/
structure Tail (bs : List Int) (t : Nat) : Prop where
  lt : t < bs.length
  run : ∀ j, t ≤ j → j < bs.length → bs[j]?.getD 0 = bs[bs.length - 1]?.getD 0
  first : t = 0 ∨ ¬ bs[t - 1]?.getD 0 = bs[bs.length - 1]?.getD 0

/-- Inside a run of one byte that ends the text every suffix is L-type. -/
theorem sAt_run (bs : List Int) (t m : Nat) (h : ∀ j, t ≤ j → j < bs.length → bs[j]?.getD 0 = bs[bs.length - 1]?.getD 0) : ∀ k, t ≤ k → bs.length ≤ k + 1 + m → sAt bs k = false := by
  induction m with
  | zero => intro k _ h2; exact sAt_last bs k (by omega)
  | succ m ih =>
    intro k h1 h2
    by_cases hk : bs.length ≤ k + 1
    · exact sAt_last bs k hk
    · rw [sAt_eq (by omega) ((h k h1 (by omega)).trans (h (k + 1) (by omega) (by omega)).symm)]
      exact ih (k + 1) (by omega) (by omega)

theorem flips_in (bs : List Int) (t : Nat) (h : Tail bs t) (k : Nat) (hk : t ≤ k) (hl : k < bs.length) : sAt bs k = false ∧ sAt (comp bs) k = false := by
  refine ⟨sAt_run bs t bs.length h.run k hk (by omega), sAt_run (comp bs) t bs.length (fun j h1 h2 => ?_) k hk (by rw [comp_length]; omega)⟩
  rw [comp_length] at h2
  rw [comp_length, comp_at bs j h2, comp_at bs (bs.length - 1) (by omega), h.run j h1 h2]

theorem flips_before (bs : List Int) (t m : Nat) (h : Tail bs t) : ∀ k, k < t → t ≤ k + 1 + m → sAt (comp bs) k = !sAt bs k := by
  have hl := h.lt
  have hc := comp_length bs
  induction m with
  | zero =>
    intro k h1 h2
    obtain rfl : t = k + 1 := by omega
    have hne : ¬ bs[k]?.getD 0 = bs[k + 1]?.getD 0 := by
      rcases h.first with h0 | h0
      · omega
      · rw [h.run (k + 1) (Nat.le_refl _) hl]; simpa using h0
    rw [sAt_step bs k (by omega), sAt_step (comp bs) k (by omega), comp_at bs k (by omega), comp_at bs (k + 1) (by omega), if_neg hne, if_neg (by omega), Bool.eq_iff_iff]
    simp; omega
  | succ m ih =>
    intro k h1 h2
    by_cases hk : t ≤ k + 1
    · obtain rfl : t = k + 1 := by omega
      have hne : ¬ bs[k]?.getD 0 = bs[k + 1]?.getD 0 := by
        rcases h.first with h0 | h0
        · omega
        · rw [h.run (k + 1) (Nat.le_refl _) hl]; simpa using h0
      rw [sAt_step bs k (by omega), sAt_step (comp bs) k (by omega), comp_at bs k (by omega), comp_at bs (k + 1) (by omega), if_neg hne, if_neg (by omega), Bool.eq_iff_iff]
      simp; omega
    · by_cases he : bs[k]?.getD 0 = bs[k + 1]?.getD 0
      · rw [sAt_eq (by omega) he, sAt_eq (bs := comp bs) (by omega) (by rw [comp_at bs k (by omega), comp_at bs (k + 1) (by omega), he])]
        exact ih (k + 1) (by omega) (by omega)
      · rw [sAt_step bs k (by omega), sAt_step (comp bs) k (by omega), comp_at bs k (by omega), comp_at bs (k + 1) (by omega), if_neg he, if_neg (by omega), Bool.eq_iff_iff]
        simp; omega

/-- THE LAW OF THE COMPLEMENT. -/
theorem flips (bs : List Int) (t : Nat) (h : Tail bs t) (k : Nat) (hk : k < bs.length) : sAt (comp bs) k = (!sAt bs k && decide (k < t)) := by
  by_cases hkt : k < t
  · rw [flips_before bs t t h k hkt (by omega)]; simp [hkt]
  · have := flips_in bs t h k (by omega) hk
    rw [this.1, this.2]; simp [hkt]
end Go.Proofs.Qxb6616952aModsRR
