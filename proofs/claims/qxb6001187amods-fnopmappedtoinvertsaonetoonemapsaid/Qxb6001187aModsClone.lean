/- zzCloneIntsTxnB1 (function 6), by its contract. -/
import Derived.Test.Qxb6001187aModsMapped
import Derived.Lib.SliceRun
namespace Go.Proofs.Qxb6001187aMods
open Go.RowKit

theorem info3 : (Trym.prog.info? 3).map (fun i => (i.zero, i.size, i.bytes)) = some (some (.int .i64 0), 1, 8) := by kernel_rfl

/-- What the walks are told of a slice of ints that came in: where it has elements, they lie there. -/
def Lies (w : World) (a : Option Addr) (len : Nat) (zs : List Int) : Prop :=
  0 < len → ∃ b off, a = some ⟨b, off, none⟩ ∧ b < w.heap.size ∧ ∀ j, j < len → w.cell? ⟨b, off + j, none⟩ = some (.int .i64 (zs.getD j 0))

theorem Lies.later {w w' : World} {a : Option Addr} {len : Nat} {zs : List Int} (h : Lies w a len zs) (hb : Below w.heap.size w w') : Lies w' a len zs := by
  intro hp
  obtain ⟨b, off, rfl, hlt, hc⟩ := h hp
  exact ⟨b, off, rfl, Nat.lt_of_lt_of_le hlt hb.size, fun j hj => (hb.cell (p := ⟨b, off + j, none⟩) hlt).trans (hc j hj)⟩

theorem clone_nil (w : World) : Calls Trym.prog 6 #[.slice none 0 0] w fun e w' => e = .returned (.slice none 0 0) ∧ w' = w := by
  have hn := fun w a n c => Lib.run_eql_slice_nil (P := Trym.prog) w 22 3 a n c 0 0 Trym.underlying22
  go_enter Trym.func6, Trym.ntmps6
  go_wp2
  go_ret
  exact ⟨rfl, rfl⟩

theorem clone_empty (x : Addr) (cap : Nat) (w : World) : Calls Trym.prog 6 #[.slice (some x) 0 cap] w fun e w' => e = .returned (.slice (some ⟨w.heap.size, 0, none⟩) 0 0) ∧ Below w.heap.size w w' := by
  have hn := fun w a n c => Lib.run_eql_slice_nil (P := Trym.prog) w 22 3 a n c 0 0 Trym.underlying22
  have hmk : ∀ w, (Instr.makeSlice 22 (.int .i64 0) (.int .i64 0)).run Trym.prog w = .ok (.slice (some ⟨w.heap.size, 0, none⟩) 0 0) (w.alloc (.cells (madeCells #[.int .i64 0] 0) 3)) := run_make_row' (P := Trym.prog) 22 3 (.int .i64 0) 8 Trym.underlying22 info3 rfl .i64 .i64 0 (by omega) (by omega)
  go_enter Trym.func6, Trym.ntmps6
  go_wp2
  refine wp_loop_rounds 1 ?_
  rw [rounds_succ]
  go_wp2
  go_ret
  exact ⟨rfl, (Below.refl _ _).alloc (Nat.le_refl _) _⟩

set_option maxHeartbeats 800000 in
theorem clone_some (b off len cap : Nat) (zs : List Int) (w : World) (hlen : len ≤ 65536) (hb : b < w.heap.size)
    (hc : ∀ j, j < len → w.cell? ⟨b, off + j, none⟩ = some (.int .i64 (zs.getD j 0))) :
    Calls Trym.prog 6 #[.slice (some ⟨b, off, none⟩) len cap] w fun e w' => e = .returned (.slice (some ⟨w.heap.size, 0, none⟩) len len) ∧ w'.rowIs w.heap.size 3 len (fun i => .int .i64 (zs.getD i 0)) ∧ Below w.heap.size w w' := by
  have hn := fun w a n c => Lib.run_eql_slice_nil (P := Trym.prog) w 22 3 a n c 0 0 Trym.underlying22
  have hmk := run_make_row' (P := Trym.prog) 22 3 (.int .i64 0) 8 Trym.underlying22 info3 rfl .i64 .i64 len (by omega) (by omega)
  go_enter Trym.func6, Trym.ntmps6
  go_wp2
  go_loopw [4] (fun i wr => ∃ k : Nat, k ≤ len ∧ i = .int .i64 k ∧ wr.rowIs w.heap.size 3 len (fun j => if j < k then .int .i64 (zs.getD j 0) else .int .i64 0) ∧ Below w.heap.size w wr)
    (fun i _ => len - (intOf i).toNat)
  case atStart => exact ⟨0, Nat.zero_le _, rfl, (World.rowIs_made _ _ _ _).congr (fun i _ => by simp), (Below.refl _ _).alloc (Nat.le_refl _) _⟩
  case round =>
    obtain ⟨k, hk, rfl, hrow, hbel⟩ := hrel
    by_cases hlt : k < len
    · have hcx : wr.cell? ⟨b, off + k, none⟩ = some (.int .i64 (zs.getD k 0)) := (hbel.cell (by exact hb)).trans (hc k hlt)
      have hcy : wr.cell? ⟨w.heap.size, k, none⟩ = some (.int .i64 0) := by have := hrow.cell hlt; simpa using this
      have hfy : wr.frozen? ⟨w.heap.size, k, none⟩ = false := hrow.frozen k
      have HR := (show Hid _ from hrow.set k (.int .i64 (zs.getD k 0)))
      have HB := (show Hid _ from hbel.setCell (p := ⟨w.heap.size, k, none⟩) (Nat.le_refl _) (.int .i64 (zs.getD k 0)))
      clear hrow hbel
      go_wp2
      go_roundw
      case rel =>
        refine ⟨k + 1, by omega, by go_num, World.rowIs.congr HR.out (fun j hj => ?_), HB.out⟩
        by_cases e : j = k
        · subst e; simp
        · simp only [if_neg e]
          by_cases e2 : j < k
          · rw [if_pos e2, if_pos (by omega)]
          · rw [if_neg e2, if_neg (by omega)]
      case measure => simp [intOf]; omega
    · have : k = len := by omega
      subst this
      go_wp2
      go_ret
      exact ⟨rfl, hrow.congr (fun i hi => by rw [if_pos hi]), hbel⟩

/-- The clone of any slice: of the same length; where it has elements they are the same. -/
theorem clone_any (a : Option Addr) (len cap : Nat) (zs : List Int) (w : World) (hlen : len ≤ 65536) (hnil : a = none → len = 0 ∧ cap = 0) (h : Lies w a len zs) :
    Calls Trym.prog 6 #[.slice a len cap] w fun e w' => ∃ a' c', e = .returned (.slice a' len c') ∧ Lies w' a' len zs ∧ Below w.heap.size w w' := by
  by_cases hp : 0 < len
  · obtain ⟨b, off, rfl, hb, hc⟩ := h hp
    refine (clone_some b off len cap zs w hlen hb hc).mono ?_
    rintro e w' ⟨rfl, hrow, hbel⟩
    exact ⟨_, _, rfl, fun _ => ⟨_, 0, rfl, hrow.lt, fun j hj => by rw [Nat.zero_add]; exact hrow.cell hj⟩, hbel⟩
  · obtain rfl : len = 0 := by omega
    cases a with
    | none =>
      obtain ⟨_, rfl⟩ := hnil rfl
      refine (clone_nil w).mono ?_
      rintro e w' ⟨rfl, rfl⟩
      exact ⟨_, _, rfl, fun h => absurd h (by omega), Below.refl _ _⟩
    | some x =>
      refine (clone_empty x cap w).mono ?_
      rintro e w' ⟨rfl, hbel⟩
      exact ⟨_, _, rfl, fun h => absurd h (by omega), hbel⟩

/-- What the proofs' frame tells of a slice that came in, as the walks take it. -/
theorem row_parts {w : World} {a : Option Addr} {len cap : Nat} {zs : List Int} (h : (a = none ∧ len = 0 ∧ cap = 0 ∧ zs = []) ∨
    ∃ x, a = some x ∧ len ≤ cap ∧ cap ≤ maxLen ∧ zs.length = cap ∧ (∀ i, i < zs.length → w.cell? (x.add i) = some (.int .i64 (zs.getD i 0))) ∧ ∀ n ∈ zs, (Lit.int .i64 n).wf = true) :
    (a = none → len = 0 ∧ cap = 0) ∧ Lies w a len zs ∧ len ≤ 9223372036854775807 ∧ ∀ j, (Lit.int .i64 (zs.getD j 0)).wf = true := by
  rcases h with ⟨rfl, rfl, rfl, rfl⟩ | ⟨x, rfl, hl, hm, hz, hcell, hw⟩
  · exact ⟨fun _ => ⟨rfl, rfl⟩, fun h => absurd h (by omega), by omega, fun j => by simp; decide⟩
  · unfold maxLen at hm
    refine ⟨fun h => (by cases h), fun hp => ?_, by omega, fun j => ?_⟩
    · obtain ⟨b, off, rfl, hc⟩ := ints_at hcell (by omega)
      exact ⟨b, off, rfl, block_lt_of_cell (hc 0 (by omega)), fun j hj => hc j (by omega)⟩
    · by_cases hj : j < zs.length
      · have e : zs.getD j 0 = zs[j] := by simp [List.getD_eq_getElem?_getD, List.getElem?_eq_getElem hj]
        rw [e]
        exact hw _ (List.getElem_mem hj)
      · have e : zs.getD j 0 = 0 := by simp [List.getD_eq_getElem?_getD, List.getElem?_eq_none (Nat.le_of_not_lt hj)]
        rw [e]
        decide

end Go.Proofs.Qxb6001187aMods
