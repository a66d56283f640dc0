/- segmentLens (function 20), by its contract. -/
import Derived.Test.Qxb6000442aModsSeg
import Derived.Test.Qxb6000442aModsCopy
namespace Go.Proofs.Qxb6000442aMods
open Go.RowKit

/-- Has the tag k its low three bits zero? -/
def tz (zs : List Int) (k : Nat) : Bool := (bits .and .u8 (zs[k]?.getD 0) 7 == 0)

/-- The lengths as cells. -/
def cellsOf (l : List Nat) : List Value := l.map fun (n : Nat) => Value.int .i64 (n : Int)

theorem cellsOf_snoc (l : List Nat) (n : Nat) : cellsOf (l ++ [n + 1]) = cellsOf l ++ [Value.int .i64 ((n : Int) + 1)] := by
  simp [cellsOf]

theorem own_close {zs : List Int} {len k : Nat} {w1 : World} {B : Nat} {v : Value} (h : tz zs k = true ∨ (Seg.st (tz zs) len k).2 + 1 = 32 ∨ k + 1 = len)
    (ho : w1.ownsRow B 3 1 v ((Seg.st (tz zs) len k).1.length + 1) (cellsOf (Seg.st (tz zs) len k).1 ++ [Value.int .i64 (((Seg.st (tz zs) len k).2 : Int) + 1)])) :
    (Value.int .i64 0 = Value.int .i64 ((Seg.st (tz zs) len (k + 1)).2 : Nat)) ∧ w1.ownsRow B 3 1 v (Seg.st (tz zs) len (k + 1)).1.length (cellsOf (Seg.st (tz zs) len (k + 1)).1) := by
  rw [Seg.st_close h]
  refine ⟨rfl, ?_⟩
  simp only [cellsOf_snoc, List.length_append, List.length_singleton]
  exact ho

theorem own_at {w : World} {B e size n : Nat} {v : Value} {xs : List Value} (h : w.ownsRow B e size v n xs) : ∀ k, v.ownBlock = some k → B ≤ k := by
  intro k hk
  rcases h.2 with ⟨rfl, _⟩ | ⟨g, cap, cur, rfl, hg, _⟩
  · cases hk
  · cases hk; exact hg

set_option maxHeartbeats 800000 in
theorem seg_some (b off len cap : Nat) (zs : List Int) (w : World) (hlen : len ≤ 1048576) (hp : 0 < len)
    (hc : ∀ j, j < len → w.cell? ⟨b, off + j, none⟩ = some (.int .u8 (zs.getD j 0))) :
    Calls Trym.prog 20 #[.slice (some ⟨b, off, none⟩) len cap] w fun e w' => ∃ v, e = .returned v ∧ w'.ownsRow w.heap.size 3 1 v (Seg.lens (tz zs) len).length (cellsOf (Seg.lens (tz zs) len)) ∧ Below w.heap.size w w' := by
  obtain ⟨i0, hi, hz0, hz1, hz2⟩ := info_parts info3
  have hb : b < w.heap.size := block_lt_of_cell (hc 0 hp)
  go_enter Trym.func20, Trym.ntmps20
  go_wp2
  go_loopw [3, 4, 9] (fun v n i wr => ∃ k : Nat, k ≤ len ∧ i = .int .i64 k ∧ n = .int .i64 ((Seg.st (tz zs) len k).2 : Nat) ∧ wr.ownsRow w.heap.size 3 1 v (Seg.st (tz zs) len k).1.length (cellsOf (Seg.st (tz zs) len k).1) ∧ Below w.heap.size w wr)
    (fun _ _ i _ => len - (intOf i).toNat)
  case atStart => exact ⟨0, Nat.zero_le _, rfl, rfl, World.ownsRow_nil _ _ _ _, Below.refl _ _⟩
  case round =>
    obtain ⟨k, hk, rfl, rfl, hown, hbel⟩ := hrel
    by_cases hlt : k < len
    · have hcx : wr.cell? ⟨b, off + k, none⟩ = some (.int .u8 (zs.getD k 0)) := (hbel.cell (by exact hb)).trans (hc k hlt)
      have hl := Seg.st_lt (tz zs) len k
      have hll := Seg.st_len (tz zs) len k
      have hsz := hbel.size
      have HB := (show Hid _ from hbel)
      clear hbel
      by_cases hcl : tz zs k = true ∨ (Seg.st (tz zs) len k).2 + 1 = 32 ∨ k + 1 = len
      · have HW := fun (v : Value) (w1 : World) => own_close (w1 := w1) (B := w.heap.size) (v := v) hcl
        have ht : (bits .and .u8 (zs[k]?.getD 0) 7 == 0) = true ∨ ((bits .and .u8 (zs[k]?.getD 0) 7 == 0) = false ∧ (Seg.st (tz zs) len k).2 = 31) ∨ ((bits .and .u8 (zs[k]?.getD 0) 7 == 0) = false ∧ (Seg.st (tz zs) len k).2 < 31 ∧ len ≤ k + 1) := by
          rw [show tz zs k = (bits .and .u8 (zs[k]?.getD 0) 7 == 0) from rfl] at hcl
          cases hbt : (bits .and .u8 (zs[k]?.getD 0) 7 == 0)
          · rw [hbt] at hcl
            rcases hcl with h | h | h
            · cases h
            · exact .inr (.inl ⟨rfl, by omega⟩)
            · by_cases h31 : (Seg.st (tz zs) len k).2 = 31
              · exact .inr (.inl ⟨rfl, h31⟩)
              · exact .inr (.inr ⟨rfl, by omega, by omega⟩)
          · exact .inl rfl
        clear hcl
        generalize (Seg.st (tz zs) len k).2 = n at ht hl HW ⊢
        have HW2 := (show Hid _ from HW)
        clear HW
        rcases ht with h1 | ⟨h1, rfl⟩ | ⟨h1, h2, h3⟩
        · go_wp2_with (at_builtin; refine wpList_append_own _ rfl _ _ 25 rfl w.heap.size 3 i0 (.int .i64 0) 1 8 Trym.underlying25 hi hz0 hz1 hz2 rfl (by decide) _ _ _ rfl (hown.alloc _) ⟨wr.heap.size, 0, none⟩ 1 1 [.int .i64 ((n : Int) + 1)] rfl rfl (cell_one_new _ _ _) (ints_oneCell .i64 [_]) (by unfold maxLen; omega) (by omega) (by simp; omega) ?_; intro v' w1 hown' hgrow _)
          go_roundw
          case rel => exact ⟨k + 1, by omega, by go_num, (HW2.out _ _ hown').1, (HW2.out _ _ hown').2, (HB.out.alloc hsz _).grown hgrow (by simp; omega) (own_at hown)⟩
          case measure => simp [intOf]; omega
        · go_wp2_with (at_builtin; refine wpList_append_own _ rfl _ _ 25 rfl w.heap.size 3 i0 (.int .i64 0) 1 8 Trym.underlying25 hi hz0 hz1 hz2 rfl (by decide) _ _ _ rfl (hown.alloc _) ⟨wr.heap.size, 0, none⟩ 1 1 [.int .i64 32] rfl rfl (cell_one_new _ _ _) (ints_oneCell .i64 [_]) (by unfold maxLen; omega) (by omega) (by simp; omega) ?_; intro v' w1 hown' hgrow _)
          go_roundw
          case rel => exact ⟨k + 1, by omega, by go_num, (HW2.out _ _ hown').1, (HW2.out _ _ hown').2, (HB.out.alloc hsz _).grown hgrow (by simp; omega) (own_at hown)⟩
          case measure => simp [intOf]; omega
        · have e2 : (((n : Int) + 1) == 32) = false := by simp; omega
          have e3 : ((k : Int) == (len : Int) - 1) = true := by simp; omega
          go_wp2_with (at_builtin; refine wpList_append_own _ rfl _ _ 25 rfl w.heap.size 3 i0 (.int .i64 0) 1 8 Trym.underlying25 hi hz0 hz1 hz2 rfl (by decide) _ _ _ rfl (hown.alloc _) ⟨wr.heap.size, 0, none⟩ 1 1 [.int .i64 ((n : Int) + 1)] rfl rfl (cell_one_new _ _ _) (ints_oneCell .i64 [_]) (by unfold maxLen; omega) (by omega) (by simp; omega) ?_; intro v' w1 hown' hgrow _)
          go_roundw
          case rel => exact ⟨k + 1, by omega, by go_num, (HW2.out _ _ hown').1, (HW2.out _ _ hown').2, (HB.out.alloc hsz _).grown hgrow (by simp; omega) (own_at hown)⟩
          case measure => simp [intOf]; omega
      · have HC := (show Hid _ from hcl)
        have h1 : (bits .and .u8 (zs[k]?.getD 0) 7 == 0) = false := by
          cases hbt : (bits .and .u8 (zs[k]?.getD 0) 7 == 0)
          · rfl
          · exact absurd (Or.inl hbt) hcl
        have h2 : (Seg.st (tz zs) len k).2 < 31 := by
          rcases Nat.lt_or_ge (Seg.st (tz zs) len k).2 31 with h | h
          · exact h
          · exact absurd (Or.inr (Or.inl (by omega))) hcl
        have h3 : k + 1 < len := by
          rcases Nat.lt_or_ge (k + 1) len with h | h
          · exact h
          · exact absurd (Or.inr (Or.inr (by omega))) hcl
        clear hcl
        have e2 : (((Seg.st (tz zs) len k).2 : Int) + 1 == 32) = false := by simp; omega
        have e3 : ((k : Int) == (len : Int) - 1) = false := by simp; omega
        go_wp2
        go_roundw
        case rel =>
          refine ⟨k + 1, by omega, by go_num, ?_, ?_, HB.out⟩
          · rw [Seg.st_open HC.out]; go_num
          · rw [Seg.st_open HC.out]; exact hown
        case measure => simp [intOf]; omega
    · have : k = len := by omega
      subst this
      go_wp2
      go_ret
      exact ⟨_, rfl, hown, hbel⟩

/-- A slice without elements: no round. -/
theorem seg_none (a : Option Addr) (cap : Nat) (w : World) : Calls Trym.prog 20 #[.slice a 0 cap] w fun e w' => e = .returned (.slice none 0 0) ∧ w' = w := by
  go_enter Trym.func20, Trym.ntmps20
  go_wp2
  refine wp_loop_rounds 1 ?_
  rw [rounds_succ]
  go_wp2
  go_ret
  exact ⟨rfl, rfl⟩

theorem lens_pos (zs : List Int) {len : Nat} (hp : 0 < len) : 0 < (Seg.lens (tz zs) len).length := by
  have h := Seg.lens_sum (tz zs) len
  cases hl : Seg.lens (tz zs) len with
  | nil => rw [hl] at h; simp at h; omega
  | cons x l => simp

/-- What the laws are told of the lengths. -/
theorem seg_told (b off len cap : Nat) (zs : List Int) (w : World) (hlen : len ≤ 1048576) (hp : 0 < len)
    (hc : ∀ j, j < len → w.cell? ⟨b, off + j, none⟩ = some (.int .u8 (zs.getD j 0))) :
    Calls Trym.prog 20 #[.slice (some ⟨b, off, none⟩) len cap] w fun e w' => ∃ g c, e = .returned (.slice (some ⟨g, 0, none⟩) (Seg.lens (tz zs) len).length c) ∧
      (∀ j, j < (Seg.lens (tz zs) len).length → w'.cell? ⟨g, j, none⟩ = some (.int .i64 (((Seg.lens (tz zs) len).getD j 0 : Nat) : Int))) ∧ Below w.heap.size w w' := by
  refine (seg_some b off len cap zs w hlen hp hc).mono ?_
  rintro e w' ⟨v, rfl, hown, hbel⟩
  have hpos := lens_pos zs hp
  rcases hown.2 with ⟨_, h0⟩ | ⟨g, c, cur, rfl, _⟩
  · omega
  · refine ⟨g, c, rfl, fun j hj => ?_, hbel⟩
    rw [hown.cellAt j (by omega)]
    simp [cellsOf, List.getElem?_eq_getElem hj]

/-- .. through the shim. -/
theorem zseg_told (b off len cap : Nat) (zs : List Int) (w : World) (hlen : len ≤ 1048576) (hp : 0 < len)
    (hc : ∀ j, j < len → w.cell? ⟨b, off + j, none⟩ = some (.int .u8 (zs.getD j 0))) :
    Calls Trym.prog 11 #[.slice (some ⟨b, off, none⟩) len cap] w fun e w' => ∃ g c, e = .returned (.slice (some ⟨g, 0, none⟩) (Seg.lens (tz zs) len).length c) ∧
      (∀ j, j < (Seg.lens (tz zs) len).length → w'.cell? ⟨g, j, none⟩ = some (.int .i64 (((Seg.lens (tz zs) len).getD j 0 : Nat) : Int))) ∧ Below w.heap.size w w' := by
  have H := (show Hid _ from seg_told b off len cap zs w hlen hp hc)
  clear hc
  go_enter Trym.func11, Trym.ntmps11
  go_wp2_with fail
  refine Calls.mono H.out ?_
  rintro e w' ⟨g, c, rfl, h1, h2⟩
  go_wp2
  go_ret
  exact ⟨g, c, rfl, h1, h2⟩

theorem zseg_none (a : Option Addr) (cap : Nat) (w : World) : Calls Trym.prog 11 #[.slice a 0 cap] w fun e w' => e = .returned (.slice none 0 0) ∧ w' = w := by
  go_enter Trym.func11, Trym.ntmps11
  go_wp2_with fail
  refine (seg_none a cap w).mono ?_
  rintro e w' ⟨rfl, rfl⟩
  go_wp2
  go_ret
  exact ⟨rfl, rfl⟩

end Go.Proofs.Qxb6000442aMods
