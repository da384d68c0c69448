import Derived.Test.Qxb6614788aModsRows
import Derived.WalkKit
import Derived.ProofKit
import Derived.OpenShut
import Derived.Below
namespace Go.Proofs.Qxb6614788aMods.fnFilterValidCountByteSweep
open Go.ChangeShapes Go.WideShapes Go.ChangeAt Go.RowKit

/-! ### THE CALLEES' CONTRACTS -/

/-- the length guard, within the bound -/
theorem bytes_yes (a : Option Addr) (len cap : Nat) (w : World) (h : len ≤ 1048576) :
    Calls Trym.prog 4 #[.slice a len cap] w fun e w' => e = .returned (.bool true) ∧ w = w' := by
  go_enter Trym.func4, Trym.ntmps4
  go_wp2
  go_ret
  exact ⟨rfl, rfl⟩

/-- the length guard, beyond the bound -/
theorem bytes_no (a : Option Addr) (len cap : Nat) (w : World) (h : 1048576 < len) :
    Calls Trym.prog 4 #[.slice a len cap] w fun e w' => e = .returned (.bool false) ∧ w = w' := by
  go_enter Trym.func4, Trym.ntmps4
  go_wp2
  go_ret
  exact ⟨rfl, rfl⟩

/-- a filter of one byte is never valid -/
theorem valid_one (a : Option Addr) (cap : Nat) (w : World) :
    Calls Trym.prog 5 #[.slice a 1 cap] w fun e w' => e = .returned (.bool false) ∧ w = w' := by
  go_enter Trym.func5, Trym.ntmps5
  go_wp2
  go_ret
  exact ⟨rfl, rfl⟩

/-- a filter of n + 1 >= 2 bytes whose last one is 0 is not valid -/
theorem valid_zero (g n cap : Nat) (w : World) (h1 : 1 ≤ n) (h2 : n ≤ 65536)
    (hc : w.cell? ⟨g, n, none⟩ = some (.int .u8 0)) :
    Calls Trym.prog 5 #[.slice (some ⟨g, 0, none⟩) (n + 1) cap] w fun e w' => e = .returned (.bool false) ∧ w = w' := by
  go_enter Trym.func5, Trym.ntmps5
  go_wp2
  go_ret
  exact ⟨rfl, rfl⟩

/-- a filter of n + 1 >= 2 bytes whose last one is not 0 is valid -/
theorem valid_pos (g n cap : Nat) (k : Int) (w : World) (h1 : 1 ≤ n) (h2 : n ≤ 65536) (hk : 0 < k)
    (hc : w.cell? ⟨g, n, none⟩ = some (.int .u8 k)) :
    Calls Trym.prog 5 #[.slice (some ⟨g, 0, none⟩) (n + 1) cap] w fun e w' => e = .returned (.bool true) ∧ w = w' := by
  go_enter Trym.func5, Trym.ntmps5
  go_wp2
  go_ret
  exact ⟨rfl, rfl⟩

end Go.Proofs.Qxb6614788aMods.fnFilterValidCountByteSweep
