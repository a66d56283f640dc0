/- FnTxStateStringRoundTrip (function 3): the walk. -/
import Derived.Test.Qxb6000899aModsProg
import Derived.WalkKit
import Derived.WalkSpells
import Derived.OpenShut
namespace Go.Proofs.Qxb6000899aMods
open Go.RowKit

theorem tx_pending (w : World) : Calls Trym.prog 3 #[.int .i64 1] w fun e w' => e = .returned (.bool true) ∧ w' = w := by
  go_enter Trym.func3, Trym.ntmps3
  go_wp2
  go_ret
  exact ⟨rfl, rfl⟩

theorem tx_speculative (w : World) : Calls Trym.prog 3 #[.int .i64 2] w fun e w' => e = .returned (.bool true) ∧ w' = w := by
  go_enter Trym.func3, Trym.ntmps3
  go_wp2
  go_ret
  exact ⟨rfl, rfl⟩

theorem tx_committed (w : World) : Calls Trym.prog 3 #[.int .i64 3] w fun e w' => e = .returned (.bool true) ∧ w' = w := by
  go_enter Trym.func3, Trym.ntmps3
  go_wp2
  go_ret
  exact ⟨rfl, rfl⟩

theorem tx_less (n : Int) (w : World) (h : n < 1) : Calls Trym.prog 3 #[.int .i64 n] w fun e w' => e = .returned (.bool true) ∧ w' = w := by
  have h1 : (n == 1) = false := by simp; omega
  have h2 : (n == 2) = false := by simp; omega
  have h3 : (n == 3) = false := by simp; omega
  go_enter Trym.func3, Trym.ntmps3
  go_wp2
  go_ret
  exact ⟨rfl, rfl⟩

theorem tx_more (n : Int) (w : World) (h : 3 < n) : Calls Trym.prog 3 #[.int .i64 n] w fun e w' => e = .returned (.bool true) ∧ w' = w := by
  have h1 : (n == 1) = false := by simp; omega
  have h2 : (n == 2) = false := by simp; omega
  have h3 : (n == 3) = false := by simp; omega
  go_enter Trym.func3, Trym.ntmps3
  go_wp2
  go_ret
  exact ⟨rfl, rfl⟩

end Go.Proofs.Qxb6000899aMods
