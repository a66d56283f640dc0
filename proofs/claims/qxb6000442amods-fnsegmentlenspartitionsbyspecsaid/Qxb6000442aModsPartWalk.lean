/- FnSegmentLensPartitionsBySpec (function 3): the walk. -/
import Derived.Test.Qxb6000442aModsLens
import Derived.OpenShut
namespace Go.Proofs.Qxb6000442aMods
open Go.RowKit

/-- More tags than the law speaks of. -/
theorem part_many (a : Option Addr) (len cap : Nat) (w : World) (h : 1048576 < len) (hm : len ≤ 9223372036854775807) :
    Calls Trym.prog 3 #[.slice a len cap] w fun e w' => e = .returned (.bool true) ∧ w' = w := by
  go_enter Trym.func3, Trym.ntmps3
  go_wp2
  go_ret
  exact ⟨rfl, rfl⟩

/-- No slice. -/
theorem part_nil (w : World) : Calls Trym.prog 3 #[.slice none 0 0] w fun e w' => e = .returned (.bool true) ∧ w' = w := by
  go_enter Trym.func3, Trym.ntmps3
  go_wp2_with (first | (go_at_call 10; refine (copy_nil _).mono ?_; rintro e w' ⟨rfl, rfl⟩) | (go_at_call 11; refine (zseg_none _ _ _).mono ?_; rintro e w' ⟨rfl, rfl⟩) | go_in)
  refine wp_loop_rounds 1 ?_
  rw [rounds_succ]
  go_wp2
  go_ret
  exact ⟨rfl, rfl⟩

/-- No tags. -/
theorem part_empty (x : Addr) (cap : Nat) (w : World) : Calls Trym.prog 3 #[.slice (some x) 0 cap] w fun e w' => e = .returned (.bool true) ∧ Below w.heap.size w w' := by
  go_enter Trym.func3, Trym.ntmps3
  go_wp2_with (first | (go_at_call 10; refine (copy_empty _ _ _).mono ?_; rintro e w1 ⟨rfl, _, hbel⟩) | (go_at_call 11; refine (zseg_none _ _ _).mono ?_; rintro e w' ⟨rfl, rfl⟩) | go_in)
  refine wp_loop_rounds 1 ?_
  rw [rounds_succ]
  go_wp2
  go_ret
  exact ⟨rfl, hbel⟩

/-- What the loops of the law are told of the lengths. -/
structure Told (zs : List Int) (len : Nat) (ls : List Nat) : Prop where
  lo : ∀ i, i < ls.length → 1 ≤ ls.getD i 0
  hi : ∀ i, i < ls.length → ls.getD i 0 ≤ 32
  fits : ∀ i, i < ls.length → Seg.off ls i + ls.getD i 0 ≤ len
  inner : ∀ i, i < ls.length → ∀ j, Seg.off ls i ≤ j → j + 1 < Seg.off ls i + ls.getD i 0 → tz zs j = false
  ends : ∀ i, i + 1 < ls.length → tz zs (Seg.off ls i + ls.getD i 0 - 1) = true ∨ ls.getD i 0 = 32
  total : Seg.off ls ls.length = len
  short : ls.length ≤ len

theorem told (zs : List Int) (len : Nat) : Told zs len (Seg.lens (tz zs) len) :=
  ⟨fun i h => (Seg.lens_fine _ _ i h).1, fun i h => (Seg.lens_fine _ _ i h).2.1, fun i h => Seg.off_lens_le _ _ i h, fun i h => (Seg.lens_fine _ _ i h).2.2.1,
    fun i h => Seg.lens_mid _ _ i h, by rw [Seg.off_all, Seg.lens_sum], Seg.lens_len _ _⟩

set_option maxHeartbeats 1600000 in
theorem part_some (b off len cap : Nat) (zs : List Int) (w : World) (hlen : len ≤ 1048576) (hp : 0 < len)
    (hc : ∀ j, j < len → w.cell? ⟨b, off + j, none⟩ = some (.int .u8 (zs.getD j 0))) :
    Calls Trym.prog 3 #[.slice (some ⟨b, off, none⟩) len cap] w fun e w' => e = .returned (.bool true) ∧ Below w.heap.size w w' := by
  have HC := (show Hid _ from copy_some b off len cap zs w hlen hp hc)
  clear hc
  go_enter Trym.func3, Trym.ntmps3
  go_wp2_with (first | (go_at_call 9; go_in) | fail)
  refine Calls.mono HC.out ?_
  rintro e w1 ⟨rfl, hrow, hb1⟩
  have HS := (show Hid _ from zseg_told w.heap.size 0 len len zs w1 hlen hp (fun j hj => by rw [Nat.zero_add]; exact hrow.cell hj))
  have hlt1 := hrow.lt
  have HR := (show Hid _ from hrow)
  have HB1 := (show Hid _ from hb1)
  clear HC hrow hb1
  go_wp2_with fail
  refine Calls.mono HS.out ?_
  rintro e w2 ⟨g, c, rfl, hcell, hb2⟩
  have hrow2 : w2.rowIs w.heap.size 5 len (fun i => .int .u8 (zs.getD i 0)) := World.rowIs.of_block HR.out (hb2.block _ hlt1)
  have HB := (show Hid _ from HB1.out.trans (hb2.mono (Nat.le_of_lt hlt1)))
  have hT := told zs len
  generalize Seg.lens (tz zs) len = ls at hcell hT ⊢
  have HT := (show Hid _ from hT)
  have hsh := hT.short
  have HCe := (show Hid _ from hcell)
  have HRow := (show Hid _ from hrow2)
  clear HS HR HB1 hb2 hcell hrow2 hT
  go_wp2_with fail
  go_loop [4, 5] (fun p i => ∃ k : Nat, k ≤ ls.length ∧ i = .int .i64 k ∧ p = .int .i64 (Seg.off ls k : Nat)) (fun _ i => ls.length - (intOf i).toNat)
  case atStart => exact ⟨0, Nat.zero_le _, rfl, rfl⟩
  case round =>
    obtain ⟨k, hk, rfl, rfl⟩ := hrel
    by_cases hlt : k < ls.length
    · have hlo := HT.out.lo k hlt
      have hhi := HT.out.hi k hlt
      have hfit := HT.out.fits k hlt
      have HI := (show Hid _ from HT.out.inner k hlt)
      have HE := (show Hid _ from HT.out.ends k)
      have HO := (show Hid _ from Seg.off_succ ls k hlt)
      have hcl : w2.cell? ⟨g, k, none⟩ = some (.int .i64 ((ls.getD k 0 : Nat) : Int)) := HCe.out k hlt
      generalize ls.getD k 0 = l at hlo hhi hfit HI HE HO hcl
      generalize Seg.off ls k = p at hfit HI HE HO ⊢
      clear HCe
      go_wp2
      go_loop [7] (fun j => ∃ q : Nat, p ≤ q ∧ q + 1 ≤ p + l ∧ j = .int .i64 q) (fun j => p + l - (intOf j).toNat)
      case atStart => exact ⟨p, Nat.le_refl _, by omega, rfl⟩
      case round =>
        obtain ⟨q, hq1, hq2, rfl⟩ := hrel
        by_cases hql : q + 1 < p + l
        · have hct : w2.cell? ⟨w.heap.size, q, none⟩ = some (.int .u8 (zs.getD q 0)) := World.rowIs.cell HRow.out (by omega)
          have hbt : (bits .and .u8 (zs[q]?.getD 0) 7 == 0) = false := HI.out q hq1 hql
          go_wp2
          go_round
          case rel => exact ⟨q + 1, by omega, by omega, by go_num⟩
          case measure => simp [intOf]; omega
        · have HQ : Hid (q = p + l - 1) := (by omega : q = p + l - 1)
          by_cases hk1 : k + 1 < ls.length
          · have hqe : (p : Int) + (l : Int) - 1 = (q : Int) := by omega
            have hct : w2.cell? ⟨w.heap.size, q, none⟩ = some (.int .u8 (zs.getD q 0)) := World.rowIs.cell HRow.out (by omega)
            have hg1 : (decide ((k : Int) < (ls.length : Int) - 1)) = true := by simp; omega
            cases hbt : (bits .and .u8 (zs[q]?.getD 0) 7 == 0)
            · have h32 : l = 32 := by
                rcases HE.out hk1 with h | h
                · rw [← HQ.out] at h
                  exact absurd (h.symm.trans hbt) (by simp)
                · exact h
              have hbn : (bits .and .u8 (zs[q]?.getD 0) 7 != 0) = true := by simp only [bne, hbt]; rfl
              have hln : ((l : Int) != 32) = false := by rw [h32]; rfl
              clear h32
              go_wp2
              go_round
              case rel => exact ⟨k + 1, by omega, by go_num, by rw [HO.out]; go_num⟩
              case measure => simp [intOf]; omega
            · have hbn : (bits .and .u8 (zs[q]?.getD 0) 7 != 0) = false := by simp only [bne, hbt]; rfl
              go_wp2
              go_round
              case rel => exact ⟨k + 1, by omega, by go_num, by rw [HO.out]; go_num⟩
              case measure => simp [intOf]; omega
          · have hg1 : (decide ((k : Int) < (ls.length : Int) - 1)) = false := by simp; omega
            go_wp2
            go_round
            case rel => exact ⟨k + 1, by omega, by go_num, by rw [HO.out]; go_num⟩
            case measure => simp [intOf]; omega
    · have : k = ls.length := by omega
      subst this
      have htot := HT.out.total
      rw [htot]
      go_wp2
      go_ret
      exact ⟨rfl, HB.out⟩

end Go.Proofs.Qxb6000442aMods
