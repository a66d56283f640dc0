/- runLen (function 21), its shim (14), and FnRunLenAgreesWithSegmentLens (function 5): the walks. -/
import Derived.Test.Qxb6000442aModsLens
import Derived.OpenShut
namespace Go.Proofs.Qxb6000442aMods
open Go.RowKit

theorem ret_int {k : IntKind} {a b : Int} (h : a = b) : Ending.returned (.int k a) = .returned (.int k b) := by rw [h]

/-- What runLen answers over a whole piece. -/
def runOut (zs : List Int) (len : Nat) (c : Int) : Int :=
  if (Seg.lens (tz zs) len).length < c then -1 else (Seg.off (Seg.lens (tz zs) len) c.toNat : Nat)

theorem runOut_at {zs : List Int} {len n : Nat} {c : Int} (hn : n ≤ len) (h0 : (Seg.st (tz zs) len n).2 = 0) (hc : c = ((Seg.st (tz zs) len n).1.length : Nat)) : runOut zs len c = n := by
  have h1 := Seg.run_len (tz zs) len n hn
  have h2 := Seg.run_sum (tz zs) len n hn h0
  unfold runOut
  rw [if_neg (by omega), hc, Int.toNat_natCast, h2]

/-- Where the loop of runLen stands: n tags read, m of them in the open segment, u segments still asked for. -/
structure RunAt (zs : List Int) (len : Nat) (c : Int) (n m : Nat) (u : Int) : Prop where
  left : u + ((Seg.st (tz zs) len n).1.length : Nat) = c
  inSeg : m = (Seg.st (tz zs) len n).2
  zero : u = 0 → m = 0

theorem runAt_start {zs : List Int} {len : Nat} {c : Int} : RunAt zs len c 0 0 c := ⟨by simp [Seg.st], rfl, fun _ => rfl⟩

theorem RunAt.lt {zs : List Int} {len n m : Nat} {c u : Int} (h : RunAt zs len c n m u) : m < 32 := by rw [h.inSeg]; exact Seg.st_lt _ _ _

theorem RunAt.close {zs : List Int} {len n m : Nat} {c u : Int} (h : RunAt zs len c n m u) (_hu : 0 < u) (hc : tz zs n = true ∨ m + 1 = 32 ∨ n + 1 = len) : RunAt zs len c (n + 1) 0 (u - 1) := by
  rw [h.inSeg] at hc
  have hl := h.left
  refine ⟨?_, ?_, fun _ => rfl⟩
  · rw [Seg.st_close hc]; simp; omega
  · rw [Seg.st_close hc]

theorem RunAt.step {zs : List Int} {len n m : Nat} {c u : Int} (h : RunAt zs len c n m u) (hu : 0 < u) (hc : ¬ (tz zs n = true ∨ m + 1 = 32 ∨ n + 1 = len)) : RunAt zs len c (n + 1) (m + 1) u := by
  have hm := h.inSeg
  have hl := h.left
  rw [h.inSeg] at hc
  refine ⟨?_, ?_, fun h0 => by omega⟩
  · rw [Seg.st_open hc]; exact hl
  · rw [Seg.st_open hc, hm]

theorem RunAt.done {zs : List Int} {len n m : Nat} {c : Int} (h : RunAt zs len c n m 0) (hn : n ≤ len) : runOut zs len c = n :=
  runOut_at hn (by rw [← h.inSeg]; exact h.zero rfl) (by have := h.left; omega)

theorem RunAt.over {zs : List Int} {n m : Nat} {c u : Int} (h : RunAt zs n c n m u) (hu : 0 < u) : runOut zs n c = -1 := by
  have hl := h.left
  unfold runOut
  rw [if_pos (by show ((Seg.st (tz zs) n n).1.length : Int) < c; omega)]

/-- No segment is asked for. -/
theorem run_zero (a : Option Addr) (len cap : Nat) (c at' total : Int) (w : World) (hc : c ≤ 0) :
    Calls Trym.prog 21 #[.slice a len cap, .int .i64 c, .int .i64 at', .int .i64 total] w fun e w' => e = .returned (.int .i64 0) ∧ w' = w := by
  go_enter Trym.func21, Trym.ntmps21
  go_wp2
  refine wp_loop_rounds 1 ?_
  rw [rounds_succ]
  go_wp2
  go_ret
  exact ⟨rfl, rfl⟩

/-- No tag, a segment asked for. -/
theorem run_empty (a : Option Addr) (cap : Nat) (c : Int) (w : World) (hc : 0 < c) :
    Calls Trym.prog 21 #[.slice a 0 cap, .int .i64 c, .int .i64 0, .int .i64 0] w fun e w' => e = .returned (.int .i64 (-1)) ∧ w' = w := by
  go_enter Trym.func21, Trym.ntmps21
  go_wp2
  refine wp_loop_rounds 1 ?_
  rw [rounds_succ]
  go_wp2
  go_ret
  exact ⟨rfl, rfl⟩

set_option maxHeartbeats 1600000 in
theorem run_some (b off len cap : Nat) (zs : List Int) (c : Int) (w : World) (hlen : len ≤ 1048576) (hp : 0 < len) (hc0 : 0 < c) (hc9 : c ≤ 9223372036854775807)
    (hc : ∀ j, j < len → w.cell? ⟨b, off + j, none⟩ = some (.int .u8 (zs.getD j 0))) :
    Calls Trym.prog 21 #[.slice (some ⟨b, off, none⟩) len cap, .int .i64 c, .int .i64 0, .int .i64 (len : Int)] w fun e w' => e = .returned (.int .i64 (runOut zs len c)) ∧ w' = w := by
  have HCe := (show Hid _ from hc)
  clear hc
  go_enter Trym.func21, Trym.ntmps21
  go_wp2
  go_loop [1, 9, 10] (fun x y z => ∃ (n m : Nat) (u : Int), n ≤ len ∧ y = .int .i64 n ∧ z = .int .i64 m ∧ x = .int .i64 u ∧ 0 ≤ u ∧ u ≤ c ∧ Hid (RunAt zs len c n m u))
    (fun _ y _ => len - (intOf y).toNat)
  case atStart => exact ⟨0, 0, c, Nat.zero_le _, rfl, rfl, rfl, by omega, Int.le_refl _, runAt_start⟩
  case round =>
    obtain ⟨n, m, u, hn, rfl, rfl, rfl, hu0, huc, HR⟩ := hrel
    by_cases hu : 0 < u
    · have hm := HR.out.lt
      by_cases hlt : n < len
      · have hct : w.cell? ⟨b, off + n, none⟩ = some (.int .u8 (zs.getD n 0)) := HCe.out n hlt
        have e1 : ((n : Int) == (len : Int)) = false := by simp; omega
        by_cases hcl : tz zs n = true ∨ m + 1 = 32 ∨ n + 1 = len
        · have HN := (show Hid _ from HR.out.close hu hcl)
          have ht : (bits .and .u8 (zs[n]?.getD 0) 7 == 0) = true ∨ ((bits .and .u8 (zs[n]?.getD 0) 7 == 0) = false ∧ m = 31) ∨ ((bits .and .u8 (zs[n]?.getD 0) 7 == 0) = false ∧ m < 31 ∧ len ≤ n + 1) := by
            rw [show tz zs n = (bits .and .u8 (zs[n]?.getD 0) 7 == 0) from rfl] at hcl
            cases hbt : (bits .and .u8 (zs[n]?.getD 0) 7 == 0)
            · rw [hbt] at hcl
              rcases hcl with h | h | h
              · cases h
              · exact .inr (.inl ⟨rfl, by omega⟩)
              · by_cases h31 : m = 31
                · exact .inr (.inl ⟨rfl, h31⟩)
                · exact .inr (.inr ⟨rfl, by omega, by omega⟩)
            · exact .inl rfl
          clear hcl HR HCe
          rcases ht with h1 | ⟨h1, rfl⟩ | ⟨h1, h2, h3⟩
          · go_wp2
            go_round
            case rel => exact ⟨n + 1, 0, u - 1, by omega, by go_num, rfl, rfl, by omega, by omega, HN⟩
            case measure => simp [intOf]; omega
          · go_wp2
            go_round
            case rel => exact ⟨n + 1, 0, u - 1, by omega, by go_num, rfl, rfl, by omega, by omega, HN⟩
            case measure => simp [intOf]; omega
          · have e2 : (((m : Int) + 1) == 32) = false := by simp; omega
            have e3 : (((n : Int) + 1) == (len : Int)) = true := by simp; omega
            go_wp2
            go_round
            case rel => exact ⟨n + 1, 0, u - 1, by omega, by go_num, rfl, rfl, by omega, by omega, HN⟩
            case measure => simp [intOf]; omega
        · have HN := (show Hid _ from HR.out.step hu hcl)
          have h1 : (bits .and .u8 (zs[n]?.getD 0) 7 == 0) = false := by
            cases hbt : (bits .and .u8 (zs[n]?.getD 0) 7 == 0)
            · rfl
            · exact absurd (Or.inl hbt) hcl
          have e2 : (((m : Int) + 1) == 32) = false := by
            have : ¬ m + 1 = 32 := fun h => hcl (.inr (.inl h))
            simp; omega
          have e3 : (((n : Int) + 1) == (len : Int)) = false := by
            have : ¬ n + 1 = len := fun h => hcl (.inr (.inr h))
            simp; omega
          clear hcl HR HCe
          go_wp2
          go_round
          case rel => exact ⟨n + 1, m + 1, u, by omega, by go_num, by go_num, rfl, by omega, by omega, HN⟩
          case measure => simp [intOf]; omega
      · obtain rfl : n = len := by omega
        have HO := (show Hid _ from HR.out.over hu)
        go_wp2
        go_ret
        exact ⟨ret_int HO.out.symm, rfl⟩
    · obtain rfl : u = 0 := by omega
      have HO := (show Hid _ from HR.out.done hn)
      go_wp2
      go_ret
      exact ⟨ret_int HO.out.symm, rfl⟩

end Go.Proofs.Qxb6000442aMods
