/- copyBytes (function 10), by its contract. -/
import Derived.Test.Qxb6000442aModsProg
import Derived.WalkKit
import Derived.WalkSpells
import Derived.Lib.SliceRun
import Derived.Deep.OwnRows
namespace Go.Proofs.Qxb6000442aMods
open Go.RowKit

theorem info5 : (Trym.prog.info? 5).map (fun i => (i.zero, i.size, i.bytes)) = some (some (.int .u8 0), 1, 1) := by kernel_rfl
theorem info3 : (Trym.prog.info? 3).map (fun i => (i.zero, i.size, i.bytes)) = some (some (.int .i64 0), 1, 8) := by kernel_rfl

/-- What the laws' own copy of the tags is: nil (no tags), or a whole new row. -/
def Copied (w : World) (B : Nat) (a : Option Addr) (len : Nat) (zs : List Int) : Prop :=
  (a = none ∧ len = 0) ∨ (a = some ⟨B, 0, none⟩ ∧ w.rowIs B 5 len (fun i => .int .u8 (zs.getD i 0)))

theorem copy_nil (w : World) : Calls Trym.prog 10 #[.slice none 0 0] w fun e w' => e = .returned (.slice none 0 0) ∧ w' = w := by
  have hn := fun w a n c => Lib.run_eql_slice_nil (P := Trym.prog) w 22 5 a n c 0 0 Trym.underlying22
  go_enter Trym.func10, Trym.ntmps10
  go_wp2
  go_ret
  exact ⟨rfl, rfl⟩

theorem copy_empty (x : Addr) (cap : Nat) (w : World) : Calls Trym.prog 10 #[.slice (some x) 0 cap] w fun e w' => e = .returned (.slice (some ⟨w.heap.size, 0, none⟩) 0 0) ∧ w'.rowIs w.heap.size 5 0 (fun _ => .int .u8 0) ∧ Below w.heap.size w w' := by
  have hn := fun w a n c => Lib.run_eql_slice_nil (P := Trym.prog) w 22 5 a n c 0 0 Trym.underlying22
  have hmk : ∀ w, (Instr.makeSlice 22 (.int .i64 0) (.int .i64 0)).run Trym.prog w = .ok (.slice (some ⟨w.heap.size, 0, none⟩) 0 0) (w.alloc (.cells (madeCells #[.int .u8 0] 0) 5)) := run_make_row' (P := Trym.prog) 22 5 (.int .u8 0) 1 Trym.underlying22 info5 rfl .i64 .i64 0 (by omega) (by omega)
  go_enter Trym.func10, Trym.ntmps10
  go_wp2
  refine wp_loop_rounds 1 ?_
  rw [rounds_succ]
  go_wp2
  go_ret
  exact ⟨rfl, World.rowIs_made _ _ _ _, (Below.refl _ _).alloc (Nat.le_refl _) _⟩

set_option maxHeartbeats 800000 in
theorem copy_some (b off len cap : Nat) (zs : List Int) (w : World) (hlen : len ≤ 1048576) (hp : 0 < len)
    (hc : ∀ j, j < len → w.cell? ⟨b, off + j, none⟩ = some (.int .u8 (zs.getD j 0))) :
    Calls Trym.prog 10 #[.slice (some ⟨b, off, none⟩) len cap] w fun e w' => e = .returned (.slice (some ⟨w.heap.size, 0, none⟩) len len) ∧ w'.rowIs w.heap.size 5 len (fun i => .int .u8 (zs.getD i 0)) ∧ Below w.heap.size w w' := by
  have hn := fun w a n c => Lib.run_eql_slice_nil (P := Trym.prog) w 22 5 a n c 0 0 Trym.underlying22
  have hmk := run_make_row' (P := Trym.prog) 22 5 (.int .u8 0) 1 Trym.underlying22 info5 rfl .i64 .i64 len (by omega) (by omega)
  have hb : b < w.heap.size := block_lt_of_cell (hc 0 hp)
  go_enter Trym.func10, Trym.ntmps10
  go_wp2
  go_loopw [4] (fun i wr => ∃ k : Nat, k ≤ len ∧ i = .int .i64 k ∧ wr.rowIs w.heap.size 5 len (fun j => if j < k then .int .u8 (zs.getD j 0) else .int .u8 0) ∧ Below w.heap.size w wr)
    (fun i _ => len - (intOf i).toNat)
  case atStart => exact ⟨0, Nat.zero_le _, rfl, (World.rowIs_made _ _ _ _).congr (fun i _ => by simp), (Below.refl _ _).alloc (Nat.le_refl _) _⟩
  case round =>
    obtain ⟨k, hk, rfl, hrow, hbel⟩ := hrel
    by_cases hlt : k < len
    · have hcx : wr.cell? ⟨b, off + k, none⟩ = some (.int .u8 (zs.getD k 0)) := (hbel.cell (by exact hb)).trans (hc k hlt)
      have hcy : wr.cell? ⟨w.heap.size, k, none⟩ = some (.int .u8 0) := by have := hrow.cell hlt; simpa using this
      have hfy : wr.frozen? ⟨w.heap.size, k, none⟩ = false := hrow.frozen k
      have HR := (show Hid _ from hrow.set k (.int .u8 (zs.getD k 0)))
      have HB := (show Hid _ from hbel.setCell (p := ⟨w.heap.size, k, none⟩) (Nat.le_refl _) (.int .u8 (zs.getD k 0)))
      clear hrow hbel
      go_wp2
      go_roundw
      case rel =>
        refine ⟨k + 1, by omega, by go_num, World.rowIs.congr HR.out (fun j hj => ?_), HB.out⟩
        by_cases e : j = k
        · subst e; simp
        · simp only [if_neg e]
          by_cases e2 : j < k
          · rw [if_pos e2, if_pos (by omega)]
          · rw [if_neg e2, if_neg (by omega)]
      case measure => simp [intOf]; omega
    · have : k = len := by omega
      subst this
      go_wp2
      go_ret
      exact ⟨rfl, hrow.congr (fun i hi => by rw [if_pos hi]), hbel⟩

end Go.Proofs.Qxb6000442aMods
