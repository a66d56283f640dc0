/- FnRunLenAgreesWithSegmentLens (function 5): the walk. -/
import Derived.Test.Qxb6000442aModsRunWalk
namespace Go.Proofs.Qxb6000442aMods
open Go.RowKit

theorem zrun_zero (a : Option Addr) (len cap : Nat) (c at' total : Int) (w : World) (hc : c ≤ 0) :
    Calls Trym.prog 14 #[.slice a len cap, .int .i64 c, .int .i64 at', .int .i64 total] w fun e w' => e = .returned (.int .i64 0) ∧ w' = w := by
  go_enter Trym.func14, Trym.ntmps14
  go_wp2_with fail
  refine (run_zero a len cap c at' total w hc).mono ?_
  rintro e w' ⟨rfl, rfl⟩
  go_wp2
  go_ret
  exact ⟨rfl, rfl⟩

theorem zrun_empty (a : Option Addr) (cap : Nat) (c : Int) (w : World) (hc : 0 < c) :
    Calls Trym.prog 14 #[.slice a 0 cap, .int .i64 c, .int .i64 0, .int .i64 0] w fun e w' => e = .returned (.int .i64 (-1)) ∧ w' = w := by
  go_enter Trym.func14, Trym.ntmps14
  go_wp2_with fail
  refine (run_empty a cap c w hc).mono ?_
  rintro e w' ⟨rfl, rfl⟩
  go_wp2
  go_ret
  exact ⟨rfl, rfl⟩

theorem zrun_some (b off len cap : Nat) (zs : List Int) (c : Int) (w : World) (hlen : len ≤ 1048576) (hp : 0 < len) (hc0 : 0 < c) (hc9 : c ≤ 9223372036854775807)
    (hc : ∀ j, j < len → w.cell? ⟨b, off + j, none⟩ = some (.int .u8 (zs.getD j 0))) :
    Calls Trym.prog 14 #[.slice (some ⟨b, off, none⟩) len cap, .int .i64 c, .int .i64 0, .int .i64 (len : Int)] w fun e w' => e = .returned (.int .i64 (runOut zs len c)) ∧ w' = w := by
  have H := (show Hid _ from run_some b off len cap zs c w hlen hp hc0 hc9 hc)
  clear hc
  go_enter Trym.func14, Trym.ntmps14
  go_wp2_with fail
  refine Calls.mono H.out ?_
  rintro e w' ⟨rfl, rfl⟩
  go_wp2
  go_ret
  exact ⟨rfl, rfl⟩

/-- More tags than the law speaks of. -/
theorem agree_many (a : Option Addr) (len cap : Nat) (c : Int) (w : World) (h : 1048576 < len) (hm : len ≤ 9223372036854775807) :
    Calls Trym.prog 5 #[.slice a len cap, .int .i64 c] w fun e w' => e = .returned (.bool true) ∧ w' = w := by
  go_enter Trym.func5, Trym.ntmps5
  go_wp2
  go_ret
  exact ⟨rfl, rfl⟩

/-- No slice. -/
theorem agree_nil (c : Int) (w : World) : Calls Trym.prog 5 #[.slice none 0 0, .int .i64 c] w fun e w' => e = .returned (.bool true) ∧ w' = w := by
  by_cases hc : 0 < c
  · go_enter Trym.func5, Trym.ntmps5
    go_wp2_with (first | (go_at_call 10; refine (copy_nil _).mono ?_; rintro e w' ⟨rfl, rfl⟩) | (go_at_call 11; refine (zseg_none _ _ _).mono ?_; rintro e w' ⟨rfl, rfl⟩) | (go_at_call 14; refine (zrun_empty _ _ _ _ hc).mono ?_; rintro e w' ⟨rfl, rfl⟩) | (go_at_call 13; go_in))
    go_ret
    exact ⟨rfl, rfl⟩
  · go_enter Trym.func5, Trym.ntmps5
    go_wp2_with (first | (go_at_call 10; refine (copy_nil _).mono ?_; rintro e w' ⟨rfl, rfl⟩) | (go_at_call 11; refine (zseg_none _ _ _).mono ?_; rintro e w' ⟨rfl, rfl⟩) | (go_at_call 13; go_in))
    refine wp_loop_rounds 1 ?_
    rw [rounds_succ]
    go_wp2_with (go_at_call 14; refine (zrun_zero _ _ _ _ _ _ _ (by omega)).mono ?_; rintro e w' ⟨rfl, rfl⟩)
    go_ret
    exact ⟨rfl, rfl⟩

/-- No tags. -/
theorem agree_empty (x : Addr) (cap : Nat) (c : Int) (w : World) : Calls Trym.prog 5 #[.slice (some x) 0 cap, .int .i64 c] w fun e w' => e = .returned (.bool true) ∧ Below w.heap.size w w' := by
  by_cases hc : 0 < c
  · go_enter Trym.func5, Trym.ntmps5
    go_wp2_with (first | (go_at_call 10; refine (copy_empty _ _ _).mono ?_; rintro e w1 ⟨rfl, _, hbel⟩) | (go_at_call 11; refine (zseg_none _ _ _).mono ?_; rintro e w' ⟨rfl, rfl⟩) | (go_at_call 14; refine (zrun_empty _ _ _ _ hc).mono ?_; rintro e w' ⟨rfl, rfl⟩) | (go_at_call 13; go_in))
    go_ret
    exact ⟨rfl, hbel⟩
  · go_enter Trym.func5, Trym.ntmps5
    go_wp2_with (first | (go_at_call 10; refine (copy_empty _ _ _).mono ?_; rintro e w1 ⟨rfl, _, hbel⟩) | (go_at_call 11; refine (zseg_none _ _ _).mono ?_; rintro e w' ⟨rfl, rfl⟩) | (go_at_call 13; go_in))
    refine wp_loop_rounds 1 ?_
    rw [rounds_succ]
    go_wp2_with (go_at_call 14; refine (zrun_zero _ _ _ _ _ _ _ (by omega)).mono ?_; rintro e w' ⟨rfl, rfl⟩)
    go_ret
    exact ⟨rfl, hbel⟩

theorem off_bound (zs : List Int) (len i : Nat) : Seg.off (Seg.lens (tz zs) len) i ≤ len := by
  have h := Seg.off_le (Seg.lens (tz zs) len) i
  rw [Seg.lens_sum] at h
  exact h

set_option maxHeartbeats 1600000 in
theorem agree_some (b off len cap : Nat) (zs : List Int) (c : Int) (w : World) (hlen : len ≤ 1048576) (hp : 0 < len) (hc9 : c ≤ 9223372036854775807)
    (hc : ∀ j, j < len → w.cell? ⟨b, off + j, none⟩ = some (.int .u8 (zs.getD j 0))) :
    Calls Trym.prog 5 #[.slice (some ⟨b, off, none⟩) len cap, .int .i64 c] w fun e w' => e = .returned (.bool true) ∧ Below w.heap.size w w' := by
  have HC := (show Hid _ from copy_some b off len cap zs w hlen hp hc)
  clear hc
  go_enter Trym.func5, Trym.ntmps5
  go_wp2_with (first | (go_at_call 13; go_in) | fail)
  refine Calls.mono HC.out ?_
  rintro e w1 ⟨rfl, hrow, hb1⟩
  have HS := (show Hid _ from zseg_told w.heap.size 0 len len zs w1 hlen hp (fun j hj => by rw [Nat.zero_add]; exact hrow.cell hj))
  have hlt1 := hrow.lt
  have HR := (show Hid _ from hrow)
  have HB1 := (show Hid _ from hb1)
  clear HC hrow hb1
  go_wp2_with fail
  refine Calls.mono HS.out ?_
  rintro e w2 ⟨g, cc, rfl, hcell, hb2⟩
  have hrow2 : w2.rowIs w.heap.size 5 len (fun i => .int .u8 (zs.getD i 0)) := World.rowIs.of_block HR.out (hb2.block _ hlt1)
  have HB := (show Hid _ from HB1.out.trans (hb2.mono (Nat.le_of_lt hlt1)))
  have HRun := (show Hid _ from fun h0 => zrun_some w.heap.size 0 len len zs c w2 hlen hp h0 hc9 (fun j hj => by rw [Nat.zero_add]; exact hrow2.cell hj))
  have hsh := Seg.lens_len (tz zs) len
  have HOff := (show Hid _ from off_bound zs len)
  have HSucc := (show Hid _ from Seg.off_succ (Seg.lens (tz zs) len))
  have HO : Hid (runOut zs len c = if ((Seg.lens (tz zs) len).length : Int) < c then (-1 : Int) else ((Seg.off (Seg.lens (tz zs) len) c.toNat : Nat) : Int)) := (rfl : runOut zs len c = _)
  generalize runOut zs len c = ro at HO HRun
  generalize Seg.lens (tz zs) len = ls at hcell hsh HOff HSucc HO ⊢
  have HCe := (show Hid _ from hcell)
  clear HS HR HB1 hb2 hcell hrow2
  by_cases hc0 : 0 < c
  · by_cases hbig : (ls.length : Int) < c
    · have HO2 : Hid (ro = -1) := HO.out.trans (if_pos hbig)
      go_wp2_with fail
      refine Calls.mono (HRun.out hc0) ?_
      rintro e w' ⟨rfl, rfl⟩
      obtain rfl : ro = -1 := HO2.out
      go_wp2
      go_ret
      exact ⟨rfl, HB.out⟩
    · have HO2 : Hid (ro = (Seg.off ls c.toNat : Nat)) := HO.out.trans (if_neg hbig)
      clear HO
      obtain ⟨cn, rfl⟩ : ∃ cn : Nat, c = cn := ⟨c.toNat, by omega⟩
      go_wp2_with fail
      go_loop [6, 7] (fun x i => ∃ k : Nat, k ≤ cn ∧ i = .int .i64 k ∧ x = .int .i64 (Seg.off ls k : Nat)) (fun _ i => cn - (intOf i).toNat)
      case atStart => exact ⟨0, Nat.zero_le _, rfl, rfl⟩
      case round =>
        obtain ⟨k, hk, rfl, rfl⟩ := hrel
        by_cases hlt : k < cn
        · have hcl : w2.cell? ⟨g, k, none⟩ = some (.int .i64 ((ls.getD k 0 : Nat) : Int)) := HCe.out k (by omega)
          have h1 := HOff.out (k + 1)
          have H2 := (show Hid _ from HSucc.out k (by omega))
          have h3 : Seg.off ls k + ls.getD k 0 ≤ len := by rw [← H2.out]; exact h1
          clear h1
          generalize ls.getD k 0 = l at hcl H2 h3
          generalize Seg.off ls k = p at H2 h3 ⊢
          go_wp2_with fail
          go_round
          case rel => exact ⟨k + 1, by omega, by go_num, by rw [H2.out]; go_num⟩
          case measure => simp [intOf]; omega
        · obtain rfl : k = cn := by omega
          go_wp2_with fail
          refine Calls.mono (HRun.out hc0) ?_
          rintro e w' ⟨rfl, rfl⟩
          have e1 : ro = (Seg.off ls k : Nat) := by rw [HO2.out, Int.toNat_natCast]
          subst e1
          go_wp2
          go_ret
          exact ⟨rfl, HB.out⟩
  · go_wp2_with fail
    refine wp_loop_rounds 1 ?_
    rw [rounds_succ]
    go_wp2_with (go_at_call 14; refine (zrun_zero _ _ _ _ _ _ _ (by omega)).mono ?_; rintro e w' ⟨rfl, rfl⟩)
    go_ret
    exact ⟨rfl, HB.out⟩

end Go.Proofs.Qxb6000442aMods
