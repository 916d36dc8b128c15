/-
  THE CONTRACTS OF THE TWO zzBytes FUNCTIONS; AND THE PLAIN LAWS ON sepAt.
-/
import Derived.Test.Qxb6615543aModsSep
import Derived.Test.Qxb6615543aModsJoin
namespace Go.Proofs.Qxb6615543aMods
open Go.RowKit
set_option linter.unusedVariables false

set_option maxHeartbeats 400000 in
theorem zz12_yes (a0 a1 : Option Addr) (n0 cap0 n1 cap1 : Nat) (i : Int) (w : World) (h : n0 + n1 ≤ 1048576) :
    Calls Trym.prog 12 #[.slice a0 n0 cap0, .slice a1 n1 cap1, .int .i64 i] w fun e w' => e = .returned (.bool true) ∧ w' = w := by
  have h0 : ¬ (1048576 : Int) < (n0 : Int) := by omega
  have h1 : ¬ (1048576 : Int) < (n1 : Int) := by omega
  have h2 : ¬ (1048576 : Int) < (n0 : Int) + (n1 : Int) := by omega
  go_enter Trym.func12, Trym.ntmps12
  go_wp2
  go_ret
  exact ⟨rfl, rfl⟩

set_option maxHeartbeats 400000 in
theorem zz12_no (a0 a1 : Option Addr) (n0 cap0 n1 cap1 : Nat) (i : Int) (w : World) (h : ¬ n0 + n1 ≤ 1048576) :
    Calls Trym.prog 12 #[.slice a0 n0 cap0, .slice a1 n1 cap1, .int .i64 i] w fun e w' => e = .returned (.bool false) ∧ w' = w := by
  by_cases h0 : (1048576 : Int) < (n0 : Int)
  · go_enter Trym.func12, Trym.ntmps12
    go_wp2
    go_ret
    exact ⟨rfl, rfl⟩
  · by_cases h1 : (1048576 : Int) < (n1 : Int)
    · go_enter Trym.func12, Trym.ntmps12
      go_wp2
      go_ret
      exact ⟨rfl, rfl⟩
    · have h2 : (1048576 : Int) < (n0 : Int) + (n1 : Int) := by omega
      go_enter Trym.func12, Trym.ntmps12
      go_wp2
      go_ret
      exact ⟨rfl, rfl⟩

set_option maxHeartbeats 400000 in
theorem zz16_yes (a0 a1 : Option Addr) (n0 cap0 n1 cap1 : Nat) (i : Int) (w : World) (h : n0 + n1 ≤ 1048576) :
    Calls Trym.prog 16 #[.slice a0 n0 cap0, .slice a1 n1 cap1, .int .i64 i] w fun e w' => e = .returned (.bool true) ∧ w' = w := by
  have h0 : ¬ (1048576 : Int) < (n0 : Int) := by omega
  have h1 : ¬ (1048576 : Int) < (n1 : Int) := by omega
  have h2 : ¬ (1048576 : Int) < (n0 : Int) + (n1 : Int) := by omega
  go_enter Trym.func16, Trym.ntmps16
  go_wp2
  go_ret
  exact ⟨rfl, rfl⟩

set_option maxHeartbeats 400000 in
theorem zz16_no (a0 a1 : Option Addr) (n0 cap0 n1 cap1 : Nat) (i : Int) (w : World) (h : ¬ n0 + n1 ≤ 1048576) :
    Calls Trym.prog 16 #[.slice a0 n0 cap0, .slice a1 n1 cap1, .int .i64 i] w fun e w' => e = .returned (.bool false) ∧ w' = w := by
  by_cases h0 : (1048576 : Int) < (n0 : Int)
  · go_enter Trym.func16, Trym.ntmps16
    go_wp2
    go_ret
    exact ⟨rfl, rfl⟩
  · by_cases h1 : (1048576 : Int) < (n1 : Int)
    · go_enter Trym.func16, Trym.ntmps16
      go_wp2
      go_ret
      exact ⟨rfl, rfl⟩
    · have h2 : (1048576 : Int) < (n0 : Int) + (n1 : Int) := by omega
      go_enter Trym.func16, Trym.ntmps16
      go_wp2
      go_ret
      exact ⟨rfl, rfl⟩

/-! ### WHAT THE CALLS LEAVE, AS SLICES TO READ -/
theorem InRow.copied {w w' : World} {a : Option Addr} {g n : Nat} {bs : List Int} (h : InRow w a n bs) (hr : RowIs w' g 5 (bs.map (Value.int .u8))) : InRow w' (some ⟨g, 0, none⟩) n bs := by
  have := InRow.own hr h.byte
  rwa [h.len] at this
theorem InRow.joined {w w' : World} {a0 a1 : Option Addr} {g n0 n1 : Nat} {xs ys : List Int} (h0 : InRow w a0 n0 xs) (h1 : InRow w a1 n1 ys) (hr : RowIs w' g 5 ((xs ++ ys).map (Value.int .u8))) : InRow w' (some ⟨g, 0, none⟩) (n0 + n1) (xs ++ ys) := by
  have hb : ∀ j : Nat, 0 ≤ (xs ++ ys)[j]?.getD 0 ∧ (xs ++ ys)[j]?.getD 0 ≤ 255 := by
    intro j
    rw [List.getElem?_append]
    split
    · exact h0.byte j
    · exact h1.byte _
  have := InRow.own hr hb
  rwa [List.length_append, h0.len, h1.len] at this

/-! ### THE PLAIN LAWS -/
/-- Behind other bytes the same character is read. -/
theorem sepAt_prefix (xs ys : List Int) (k : Nat) : sepAt (xs ++ ys) (xs.length + k) = sepAt ys k := by
  unfold sepAt
  have e : ∀ j, (xs ++ ys)[xs.length + k + j]?.getD 0 = ys[k + j]?.getD 0 := by
    intro j
    rw [Nat.add_assoc, List.getElem?_append_right (by omega), Nat.add_sub_cancel_left]
  have e0 := e 0
  simp only [Nat.add_zero] at e0
  rw [e0, e 1, e 2]
  congr 1
  simp; omega

/-- What follows a whole character changes nothing. -/
theorem sepAt_keeps (xs ys : List Int) (k : Nat) (h : k + 3 ≤ xs.length) : sepAt (xs ++ ys) k = sepAt xs k := by
  unfold sepAt
  rw [List.getElem?_append_left (by omega), List.getElem?_append_left (by omega), List.getElem?_append_left (by omega)]
  have h1 : k + 2 < (xs ++ ys).length := by simp; omega
  have h2 : k + 2 < xs.length := by omega
  rw [decide_eq_true h1, decide_eq_true h2]
end Go.Proofs.Qxb6615543aMods
