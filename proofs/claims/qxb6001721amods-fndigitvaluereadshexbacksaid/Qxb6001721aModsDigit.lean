/- digitValue (function 18) and its shim (16), by their contracts. -/
import Derived.Test.Qxb6001721aModsProg
import Derived.WalkKit
import Derived.WalkSpells
import Derived.OpenShut
namespace Go.Proofs.Qxb6001721aMods
open Go.RowKit

/-- The value of a byte as a hexadecimal digit, 16 where it is none. -/
def dv (c : Int) : Int := if 48 ≤ c ∧ c ≤ 57 then c - 48 else if 97 ≤ c ∧ c ≤ 102 then c - 97 + 10 else if 65 ≤ c ∧ c ≤ 70 then c - 65 + 10 else 16

theorem digit_any (c : Int) (w : World) (h0 : 0 ≤ c) (h1 : c ≤ 255) : Calls Trym.prog 18 #[.int .u8 c] w fun e w' => e = .returned (.int .u64 (dv c)) ∧ w' = w := by
  rcases (show (c < 48) ∨ (48 ≤ c ∧ c ≤ 57) ∨ (57 < c ∧ c < 65) ∨ (65 ≤ c ∧ c ≤ 70) ∨ (70 < c ∧ c < 97) ∨ (97 ≤ c ∧ c ≤ 102) ∨ 102 < c by omega) with h | ⟨h, h'⟩ | ⟨h, h'⟩ | ⟨h, h'⟩ | ⟨h, h'⟩ | ⟨h, h'⟩ | h
  · have e : dv c = 16 := by unfold dv; rw [if_neg (by omega), if_neg (by omega), if_neg (by omega)]
    rw [e]; clear e
    go_enter Trym.func18, Trym.ntmps18
    go_wp2
    go_ret
    exact ⟨rfl, rfl⟩
  · have e : dv c = c - 48 := by unfold dv; rw [if_pos (by omega)]
    rw [e]; clear e
    go_enter Trym.func18, Trym.ntmps18
    go_wp2
    go_ret
    exact ⟨rfl, rfl⟩
  · have e : dv c = 16 := by unfold dv; rw [if_neg (by omega), if_neg (by omega), if_neg (by omega)]
    rw [e]; clear e
    go_enter Trym.func18, Trym.ntmps18
    go_wp2
    go_ret
    exact ⟨rfl, rfl⟩
  · have e : dv c = c - 65 + 10 := by unfold dv; rw [if_neg (by omega), if_neg (by omega), if_pos (by omega)]
    rw [e]; clear e
    go_enter Trym.func18, Trym.ntmps18
    go_wp2
    go_ret
    exact ⟨rfl, rfl⟩
  · have e : dv c = 16 := by unfold dv; rw [if_neg (by omega), if_neg (by omega), if_neg (by omega)]
    rw [e]; clear e
    go_enter Trym.func18, Trym.ntmps18
    go_wp2
    go_ret
    exact ⟨rfl, rfl⟩
  · have e : dv c = c - 97 + 10 := by unfold dv; rw [if_neg (by omega), if_pos (by omega)]
    rw [e]; clear e
    go_enter Trym.func18, Trym.ntmps18
    go_wp2
    go_ret
    exact ⟨rfl, rfl⟩
  · have e : dv c = 16 := by unfold dv; rw [if_neg (by omega), if_neg (by omega), if_neg (by omega)]
    rw [e]; clear e
    go_enter Trym.func18, Trym.ntmps18
    go_wp2
    go_ret
    exact ⟨rfl, rfl⟩

theorem zdigit_any (c : Int) (w : World) (h0 : 0 ≤ c) (h1 : c ≤ 255) : Calls Trym.prog 16 #[.int .u8 c] w fun e w' => e = .returned (.int .u64 (dv c)) ∧ w' = w := by
  go_enter Trym.func16, Trym.ntmps16
  go_wp2_with fail
  refine (digit_any c w h0 h1).mono ?_
  rintro e w' ⟨rfl, rfl⟩
  go_wp2
  go_ret
  exact ⟨rfl, rfl⟩

end Go.Proofs.Qxb6001721aMods
