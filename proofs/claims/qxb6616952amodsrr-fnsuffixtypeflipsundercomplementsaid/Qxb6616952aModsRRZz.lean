/-
  THE CONTRACTS OF THE TWO zzBytes FUNCTIONS.
-/
import Derived.Test.Qxb6616952aModsRRClassify
namespace Go.Proofs.Qxb6616952aModsRR
open Go.RowKit
set_option linter.unusedVariables false

set_option maxHeartbeats 400000 in
theorem zz10_yes (a : Option Addr) (n cap : Nat) (w : World) (h : n ≤ 1048576) :
    Calls Trym.prog 10 #[.slice a n cap] w fun e w' => e = .returned (.bool true) ∧ w' = w := by
  have h0 : ¬ (1048576 : Int) < (n : Int) := by omega
  go_enter Trym.func10, Trym.ntmps10
  go_wp2
  go_ret
  exact ⟨rfl, rfl⟩

set_option maxHeartbeats 400000 in
theorem zz10_no (a : Option Addr) (n cap : Nat) (w : World) (h : ¬ n ≤ 1048576) :
    Calls Trym.prog 10 #[.slice a n cap] w fun e w' => e = .returned (.bool false) ∧ w' = w := by
  have h0 : (1048576 : Int) < (n : Int) := by omega
  go_enter Trym.func10, Trym.ntmps10
  go_wp2
  go_ret
  exact ⟨rfl, rfl⟩

set_option maxHeartbeats 400000 in
theorem zz14_yes (a : Option Addr) (n cap : Nat) (w : World) (h : n ≤ 1048576) :
    Calls Trym.prog 14 #[.slice a n cap] w fun e w' => e = .returned (.bool true) ∧ w' = w := by
  have h0 : ¬ (1048576 : Int) < (n : Int) := by omega
  go_enter Trym.func14, Trym.ntmps14
  go_wp2
  go_ret
  exact ⟨rfl, rfl⟩

set_option maxHeartbeats 400000 in
theorem zz14_no (a : Option Addr) (n cap : Nat) (w : World) (h : ¬ n ≤ 1048576) :
    Calls Trym.prog 14 #[.slice a n cap] w fun e w' => e = .returned (.bool false) ∧ w' = w := by
  have h0 : (1048576 : Int) < (n : Int) := by omega
  go_enter Trym.func14, Trym.ntmps14
  go_wp2
  go_ret
  exact ⟨rfl, rfl⟩

theorem InRow.copied {w w' : World} {a : Option Addr} {g n : Nat} {bs : List Int} (h : InRow w a n bs) (hr : RowIs w' g 5 (bs.map (Value.int .u8))) : InRow w' (some ⟨g, 0, none⟩) n bs := by
  have := InRow.own hr h.byte
  rwa [h.len] at this

theorem Trym.info5 : (Trym.prog.info? 5).map (fun i => (i.zero, i.size, i.bytes)) = some (some (.int .u8 0), 1, 1) := by kernel_rfl

end Go.Proofs.Qxb6616952aModsRR
