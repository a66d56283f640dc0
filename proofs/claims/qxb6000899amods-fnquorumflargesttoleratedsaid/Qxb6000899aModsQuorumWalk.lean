/- FnQuorumFLargestTolerated (function 5): the walk. -/
import Derived.Test.Qxb6000899aModsProg
import Derived.WalkKit
import Derived.WalkSpells
import Derived.OpenShut
namespace Go.Proofs.Qxb6000899aMods
open Go.RowKit

theorem grown_trans {a b c : World} (h : Grown a b) (k : Grown b c) : Grown a c := ⟨World.keptBut_trans h.1 k.1, fun x => (k.2.1 x).trans (h.2.1 x), Nat.le_trans h.2.2 k.2.2⟩

theorem ret_true {b : Bool} (h : b = true) : Ending.returned (.bool b) = .returned (.bool true) := by rw [h]

/-- ZZQuorumOf (function 10): the struct of one field. -/
theorem quorumOf_any (n : Int) (w : World) : Calls Trym.prog 10 #[.int .i64 n] w fun e w' => e = .returned (.agg #[.int .i64 n]) ∧ Grown w w' := by
  go_enter Trym.func10, Trym.ntmps10
  go_wp2
  exact bodyPost_ret (v := .agg #[.int .i64 n]) (by simp [results, Trym.results10, go_sem]) rfl ⟨rfl, by repeat (first | exact Grown.refl _ | apply Grown.drew | apply Grown.alloc)⟩

/-- (Quorum).F (function 11), a cluster of at least one. -/
theorem f_any (n : Int) (w : World) (h : 1 ≤ n) (h9 : n ≤ 9223372036854775807) : Calls Trym.prog 11 #[.agg #[.int .i64 n]] w fun e w' => e = .returned (.int .i64 ((n - 1) / 3)) ∧ Grown w w' := by
  go_enter Trym.func11, Trym.ntmps11
  go_wp2
  go_ret
  exact ⟨rfl, by repeat (first | exact Grown.refl _ | apply Grown.drew | apply Grown.alloc)⟩

theorem quorum_less (n : Int) (w : World) (h : n < 1) : Calls Trym.prog 5 #[.int .i64 n] w fun e w' => e = .returned (.bool true) ∧ w' = w := by
  go_enter Trym.func5, Trym.ntmps5
  go_wp2
  go_ret
  exact ⟨rfl, rfl⟩

theorem quorum_some (n : Int) (w : World) (h : 1 ≤ n) (h9 : n ≤ 9223372036854775807) : Calls Trym.prog 5 #[.int .i64 n] w fun e w' => e = .returned (.bool true) ∧ Grown w w' := by
  go_enter Trym.func5, Trym.ntmps5
  go_wp2_with (first | (go_at_call 10; refine (quorumOf_any _ _).mono ?_; rintro e w1 ⟨rfl, hg1⟩) | (go_at_call 11; refine (f_any _ _ h h9).mono ?_; rintro e w2 ⟨rfl, hg2⟩))
  go_ret
  exact ⟨ret_true (decide_eq_true (by omega)), grown_trans hg1 hg2⟩

end Go.Proofs.Qxb6000899aMods
