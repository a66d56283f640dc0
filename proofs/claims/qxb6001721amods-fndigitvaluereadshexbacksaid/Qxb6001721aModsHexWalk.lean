/- FnDigitValueIsHexDigitOrSixteen (function 6): the walk. -/
import Derived.Test.Qxb6001721aModsDigit
namespace Go.Proofs.Qxb6001721aMods
open Go.RowKit

/-- The characters of the two texts, by their places. -/
def lowCh (d : Nat) : Int := if d < 10 then 48 + d else 87 + d
def upCh (d : Nat) : Int := if d < 10 then 48 + d else 55 + d

/-- 'lower[d]', 'upper[d]', the index of whatever integer kind. -/
theorem run_lower (k : IntKind) (d : Nat) (h : d < 16) (w : World) : (Instr.index 9 (.string ⟨#[48, 49, 50, 51, 52, 53, 54, 55, 56, 57, 97, 98, 99, 100, 101, 102]⟩) (.int k d)).run Trym.prog w = .ok (.int .u8 (lowCh d)) w := by
  rcases (show d = 0 ∨ d = 1 ∨ d = 2 ∨ d = 3 ∨ d = 4 ∨ d = 5 ∨ d = 6 ∨ d = 7 ∨ d = 8 ∨ d = 9 ∨ d = 10 ∨ d = 11 ∨ d = 12 ∨ d = 13 ∨ d = 14 ∨ d = 15 by omega) with rfl | rfl | rfl | rfl | rfl | rfl | rfl | rfl | rfl | rfl | rfl | rfl | rfl | rfl | rfl | rfl
  all_goals kernel_rfl

theorem run_upper (k : IntKind) (d : Nat) (h : d < 16) (w : World) : (Instr.index 9 (.string ⟨#[48, 49, 50, 51, 52, 53, 54, 55, 56, 57, 65, 66, 67, 68, 69, 70]⟩) (.int k d)).run Trym.prog w = .ok (.int .u8 (upCh d)) w := by
  rcases (show d = 0 ∨ d = 1 ∨ d = 2 ∨ d = 3 ∨ d = 4 ∨ d = 5 ∨ d = 6 ∨ d = 7 ∨ d = 8 ∨ d = 9 ∨ d = 10 ∨ d = 11 ∨ d = 12 ∨ d = 13 ∨ d = 14 ∨ d = 15 by omega) with rfl | rfl | rfl | rfl | rfl | rfl | rfl | rfl | rfl | rfl | rfl | rfl | rfl | rfl | rfl | rfl
  all_goals kernel_rfl

theorem dv_lower (c : Int) (d : Nat) (h : dv c = d) (hd : d < 16) : c = lowCh d ∨ c = upCh d := by
  unfold dv at h
  unfold lowCh upCh
  by_cases h1 : 48 ≤ c ∧ c ≤ 57
  · rw [if_pos h1] at h; left; rw [if_pos (by omega)]; omega
  · rw [if_neg h1] at h
    by_cases h2 : 97 ≤ c ∧ c ≤ 102
    · rw [if_pos h2] at h; left; rw [if_neg (by omega)]; omega
    · rw [if_neg h2] at h
      by_cases h3 : 65 ≤ c ∧ c ≤ 70
      · rw [if_pos h3] at h; right; rw [if_neg (by omega)]; omega
      · rw [if_neg h3] at h; omega

theorem dv_le (c : Int) : 0 ≤ dv c ∧ dv c ≤ 16 := by
  unfold dv
  split
  · omega
  · split
    · omega
    · split <;> omega

theorem dv_none (c : Int) (h : dv c = 16) (d : Nat) (hd : d < 16) : c ≠ lowCh d ∧ c ≠ upCh d := by
  unfold dv at h
  unfold lowCh upCh
  by_cases h1 : 48 ≤ c ∧ c ≤ 57
  · rw [if_pos h1] at h; omega
  · rw [if_neg h1] at h
    by_cases h2 : 97 ≤ c ∧ c ≤ 102
    · rw [if_pos h2] at h; omega
    · rw [if_neg h2] at h
      by_cases h3 : 65 ≤ c ∧ c ≤ 70
      · rw [if_pos h3] at h; omega
      · constructor <;> split <;> omega

theorem hex_walk (c : Int) (w : World) (h0 : 0 ≤ c) (h1 : c ≤ 255) : Calls Trym.prog 6 #[.int .u8 c] w fun e w' => e = .returned (.bool true) ∧ w' = w := by
  have HZ := (show Hid _ from zdigit_any c w h0 h1)
  by_cases h16 : dv c = 16
  · have HN := (show Hid _ from dv_none c h16)
    rw [h16] at HZ
    go_enter Trym.func6, Trym.ntmps6
    go_wp2_with fail
    refine Calls.mono HZ.out ?_
    rintro e w' ⟨rfl, rfl⟩
    clear h16 HZ
    go_wp2
    go_loop [4] (fun i => ∃ k : Nat, k ≤ 16 ∧ i = .int .i64 k) (fun i => 16 - (intOf i).toNat)
    case atStart => exact ⟨0, Nat.zero_le _, rfl⟩
    case round =>
      obtain ⟨k, hk, rfl⟩ := hrel
      by_cases hlt : k < 16
      · have hl := fun w => run_lower .i64 k hlt w
        have hu := fun w => run_upper .i64 k hlt w
        have el : (c == lowCh k) = false := by have := (HN.out k hlt).1; simpa using this
        have eu : (c == upCh k) = false := by have := (HN.out k hlt).2; simpa using this
        go_wp2
        go_round
        case rel => exact ⟨k + 1, by omega, by go_num⟩
        case measure => simp [intOf]; omega
      · obtain rfl : k = 16 := by omega
        go_wp2
        go_ret
        exact ⟨rfl, rfl⟩
  · have hb := dv_le c
    obtain ⟨d, hd⟩ : ∃ d : Nat, dv c = d := ⟨(dv c).toNat, by omega⟩
    have hd16 : d < 16 := by omega
    have HH := (show Hid _ from dv_lower c d hd hd16)
    have hl := fun w => run_lower .u64 d hd16 w
    have hu := fun w => run_upper .u64 d hd16 w
    rw [hd] at HZ
    clear hb h16 hd
    have e16 : ((d : Int) == 16) = false := by simp; omega
    cases el : (c == lowCh d) with
    | true =>
      go_enter Trym.func6, Trym.ntmps6
      go_wp2_with fail
      refine Calls.mono HZ.out ?_
      rintro e w' ⟨rfl, rfl⟩
      go_wp2
      go_ret
      exact ⟨rfl, rfl⟩
    | false =>
      have eu : (c == upCh d) = true := by
        rcases HH.out with h | h
        · rw [h] at el; simp at el
        · rw [h]; simp
      go_enter Trym.func6, Trym.ntmps6
      go_wp2_with fail
      refine Calls.mono HZ.out ?_
      rintro e w' ⟨rfl, rfl⟩
      go_wp2
      go_ret
      exact ⟨rfl, rfl⟩

end Go.Proofs.Qxb6001721aMods
