/- FnDigitValueReadsHexBack (function 7): the walk. -/
import Derived.Test.Qxb6001721aModsHexWalk
import Derived.Deep.OwnRows
namespace Go.Proofs.Qxb6001721aMods
open Go.RowKit

/-- The k-th of the sixteen digits of X, and what the first k of them make. -/
def dg (X k : Nat) : Nat := X / 2 ^ (60 - 4 * k) % 16
def val (X k : Nat) : Nat := X / 2 ^ (64 - 4 * k)

theorem dg_lt (X k : Nat) : dg X k < 16 := Nat.mod_lt _ (by decide)

theorem val_zero {X : Nat} (h : X < 18446744073709551616) : val X 0 = 0 := Nat.div_eq_of_lt (by simpa using h)
theorem val_all (X : Nat) : val X 16 = X := by simp [val]

theorem val_succ (X k : Nat) (h : k < 16) : val X (k + 1) = val X k * 16 + dg X k := by
  unfold val dg
  rw [show 64 - 4 * (k + 1) = 60 - 4 * k by omega, show 64 - 4 * k = (60 - 4 * k) + 4 by omega, Nat.pow_add, ← Nat.div_div_eq_div_mul]
  omega

theorem val_lt {X k : Nat} (hX : X < 18446744073709551616) (h : k < 16) : val X k < 1152921504606846976 := by
  have h1 := val_succ X k h
  have h2 : val X (k + 1) ≤ X := Nat.div_le_self _ _
  omega

theorem and15 (X k : Nat) (hX : X < 18446744073709551616) : bits .and .u64 ((X : Int) / 2 ^ (60 - 4 * k)) 15 = ((dg X k : Nat) : Int) := by
  have e : ((X : Int) / 2 ^ (60 - 4 * k)) = ((X / 2 ^ (60 - 4 * k) : Nat) : Int) := by simp
  have hlt : X / 2 ^ (60 - 4 * k) < 18446744073709551616 := Nat.lt_of_le_of_lt (Nat.div_le_self _ _) hX
  rw [e]
  have h := u64_and_nat (X / 2 ^ (60 - 4 * k)) 15 hlt (by decide)
  have h15 : (X / 2 ^ (60 - 4 * k)) &&& 15 = (X / 2 ^ (60 - 4 * k)) % 16 := Nat.and_two_pow_sub_one_eq_mod _ 4
  rw [h15] at h
  exact h

theorem or16 (v d : Nat) (hv : v < 1152921504606846976) (hd : d < 16) : bits .or .u64 ((v : Int) * 16) (d : Int) = ((v * 16 + d : Nat) : Int) := by
  have h := u64_or_nat (v * 16) d (by omega) (by omega)
  have e : v * 16 ||| d = v * 16 + d := by
    have := Nat.shiftLeft_add_eq_or_of_lt (b := d) (i := 4) (by simpa using hd) v
    rw [Nat.shiftLeft_eq] at this
    exact this.symm
  rw [e] at h
  rw [← h]
  simp

/-- The text's character at place j. -/
def ch (X : Nat) (m : Int) (j : Nat) : Int := if (bits .and .u16 (m / 2 ^ j) 1 == 1) = true then upCh (dg X j) else lowCh (dg X j)

theorem dv_low (d : Nat) (h : d < 16) : dv (lowCh d) = d := by
  unfold lowCh dv
  by_cases h1 : d < 10
  · rw [if_pos h1, if_pos (by omega)]; omega
  · rw [if_neg h1, if_neg (by omega), if_pos (by omega)]; omega

theorem dv_up (d : Nat) (h : d < 16) : dv (upCh d) = d := by
  unfold upCh dv
  by_cases h1 : d < 10
  · rw [if_pos h1, if_pos (by omega)]; omega
  · rw [if_neg h1, if_neg (by omega), if_neg (by omega), if_pos (by omega)]; omega

theorem dv_ch (X : Nat) (m : Int) (j : Nat) : dv (ch X m j) = dg X j := by
  unfold ch
  split
  · exact dv_up _ (dg_lt X j)
  · exact dv_low _ (dg_lt X j)

theorem ch_bounds (X : Nat) (m : Int) (j : Nat) : 0 ≤ ch X m j ∧ ch X m j ≤ 255 := by
  have := dg_lt X j
  unfold ch lowCh upCh
  split <;> split <;> omega

theorem row_step {wr : World} {B X k : Nat} {m c : Int} (h : wr.rowIs B 35 16 (fun j => .int .u8 (if j < k then ch X m j else 0))) (hc : ch X m k = c) :
    (wr.setCell ⟨B, k, none⟩ (.int .u8 c)).rowIs B 35 16 (fun j => .int .u8 (if j < k + 1 then ch X m j else 0)) := by
  refine (h.set k (.int .u8 c)).congr (fun j _ => ?_)
  by_cases e : j = k
  · subst e
    rw [if_pos rfl, if_pos (by omega), hc]
  · rw [if_neg e]
    by_cases e2 : j < k
    · rw [if_pos e2, if_pos (by omega)]
    · rw [if_neg e2, if_neg (by omega)]

set_option maxHeartbeats 800000 in
theorem back_walk (X : Nat) (m : Int) (w : World) (hX : X < 18446744073709551616) (_hm0 : 0 ≤ m) (_hm1 : m ≤ 65535) : Calls Trym.prog 7 #[.int .u64 (X : Int), .int .u16 m] w fun e w' => e = .returned (.bool true) ∧ Grown w w' := by
  go_enter Trym.func7, Trym.ntmps7
  go_wp2
  go_loopw [6] (fun i wr => ∃ k : Nat, k ≤ 16 ∧ i = .int .i64 k ∧ wr.rowIs w.heap.size 35 16 (fun j => .int .u8 (if j < k then ch X m j else 0)) ∧ Grown w wr)
    (fun i _ => 16 - (intOf i).toNat)
  case atStart =>
    refine ⟨0, Nat.zero_le _, rfl, World.rowIs_alloc _ _ _ _ (fun i hi => ?_), (Grown.refl _).alloc _ _⟩
    have hi' : i < 16 := hi
    rcases (show i = 0 ∨ i = 1 ∨ i = 2 ∨ i = 3 ∨ i = 4 ∨ i = 5 ∨ i = 6 ∨ i = 7 ∨ i = 8 ∨ i = 9 ∨ i = 10 ∨ i = 11 ∨ i = 12 ∨ i = 13 ∨ i = 14 ∨ i = 15 by omega) with rfl | rfl | rfl | rfl | rfl | rfl | rfl | rfl | rfl | rfl | rfl | rfl | rfl | rfl | rfl | rfl
    all_goals rfl
  case round =>
    obtain ⟨k, hk, rfl, hrow, hg⟩ := hrel
    by_cases hlt : k < 16
    · have hcy : wr.cell? ⟨w.heap.size, k, none⟩ = some (.int .u8 0) := by have := hrow.cell hlt; simpa using this
      have hfy : wr.frozen? ⟨w.heap.size, k, none⟩ = false := hrow.frozen k
      have hand := and15 X k hX
      have hd := dg_lt X k
      have HR := (show Hid _ from hrow)
      have HG := (show Hid _ from hg)
      have hl := fun w => run_lower .u64 (dg X k) hd w
      have hu := fun w => run_upper .u64 (dg X k) hd w
      have HCh : Hid (ch X m k = if (bits .and .u16 (m / 2 ^ k) 1 == 1) = true then upCh (dg X k) else lowCh (dg X k)) := (rfl : ch X m k = _)
      clear hrow hg
      generalize dg X k = d at hand hd hl hu HCh
      cases hb : (bits .and .u16 (m / 2 ^ k) 1 == 1) with
      | true =>
        have HC : Hid (ch X m k = upCh d) := HCh.out.trans (if_pos hb)
        go_wp2
        go_roundw
        case rel => exact ⟨k + 1, by omega, by go_num, row_step HR.out HC.out, Grown.setCell HG.out (Nat.le_refl _) _⟩
        case measure => simp [intOf]; omega
      | false =>
        have HC : Hid (ch X m k = lowCh d) := HCh.out.trans (if_neg (by rw [hb]; simp))
        go_wp2
        go_roundw
        case rel => exact ⟨k + 1, by omega, by go_num, row_step HR.out HC.out, Grown.setCell HG.out (Nat.le_refl _) _⟩
        case measure => simp [intOf]; omega
    · have hk16 : 16 ≤ k := by omega
      have HR : Hid (∀ j, j < 16 → wr.cell? ⟨w.heap.size, j, none⟩ = some (.int .u8 (ch X m j))) := fun j hj => by
        have := hrow.cell hj
        rw [if_pos (by omega)] at this
        exact this
      have HG := (show Hid _ from hg)
      clear hrow hg
      go_wp2
      go_loop [8, 9] (fun v i => ∃ k : Nat, k ≤ 16 ∧ i = .int .i64 k ∧ v = .int .u64 (val X k : Nat)) (fun _ i => 16 - (intOf i).toNat)
      case atStart => exact ⟨0, Nat.zero_le _, rfl, by rw [val_zero hX]; rfl⟩
      case round =>
        obtain ⟨i, hi, rfl, rfl⟩ := hrel
        by_cases hlt2 : i < 16
        · have hc := HR.out i hlt2
          have hb := ch_bounds X m i
          have hv := val_lt hX hlt2
          have hd := dg_lt X i
          have HD := (show Hid _ from dv_ch X m i)
          have HZ := (show Hid _ from fun w => zdigit_any (ch X m i) w hb.1 hb.2)
          have HV := (show Hid _ from val_succ X i hlt2)
          have hor := or16 (val X i) (dg X i) hv hd
          generalize ch X m i = c at hc hb HD HZ
          rw [HD.out] at HZ
          generalize dg X i = d at hd HD HZ HV hor
          generalize val X i = v at hv HV hor ⊢
          go_wp2_with (go_at_call 16; refine Calls.mono (HZ.out _) ?_; rintro e w' ⟨rfl, hw⟩; rw [hw]; clear hw w')
          go_round
          case rel => exact ⟨i + 1, by omega, by go_num, by rw [HV.out]; go_num⟩
          case measure => simp [intOf]; omega
        · obtain rfl : i = 16 := by omega
          rw [val_all]
          go_wp2
          go_ret
          exact ⟨rfl, HG.out⟩

end Go.Proofs.Qxb6001721aMods
