/- opMappedTo (function 11) and its shim (8), by their contracts. -/
import Derived.Test.Qxb6001187aModsProg
import Derived.Test.Qxb6001187aModsView
import Derived.WalkKit
import Derived.WalkSpells
import Derived.Deep.OwnRows
import Derived.OpenShut
namespace Go.Proofs.Qxb6001187aMods
open Go.RowKit Go.Maps

theorem law27 : Keyed Trym.prog 27 := int_keyed Trym.underlying27
theorem zero27 (w : World) : (zeroValue 27).run Trym.prog w = .ok (.int .i64 0) w := by kernel_rfl

theorem ownsMap_block {H : Type} {w w' : World} {k : TypeId} {R : Value → Option (DataW H × List MemPlace)} {b n : Nat} {D : DataW H} (h : w.ownsMap Trym.prog k R b n D) (e : w'.heap[b]? = w.heap[b]?) : w'.ownsMap Trym.prog k R b n D := by
  obtain ⟨es, clock, hb, r⟩ := h
  exact ⟨es, clock, e.trans hb, r⟩

/-- 'm[x]', x a key of the map. -/
theorem look_at {b n : Nat} {D : DataW Unit} {f : Int → Option Int} {w : World} (hown : w.ownsMap Trym.prog 27 (plainElem Trym.prog 27) b n D) (hM : MapIs D f) {x v : Int} (hx : f x = some v) (wx : (Lit.int .i64 x).wf = true) :
    (Instr.lookup 26 (.map (some b)) (.int .i64 x) false).run Trym.prog w = .ok (.int .i64 v) w := by
  obtain ⟨c, hrun, hat, _⟩ := hown.lookup_int law27 Trym.underlying26 Trym.underlying27 (zero27 w) (keyOf_int_mk Trym.underlying27 wx)
  rw [hM.yes x v hx] at hat
  cases hat
  exact hrun

/-- 'v, ok := m[x]', x a key of the map. -/
theorem look_ok_at {b n : Nat} {D : DataW Unit} {f : Int → Option Int} {w : World} (hown : w.ownsMap Trym.prog 27 (plainElem Trym.prog 27) b n D) (hM : MapIs D f) {x v : Int} (hx : f x = some v) (wx : (Lit.int .i64 x).wf = true) :
    (Instr.lookup 26 (.map (some b)) (.int .i64 x) true).run Trym.prog w = .ok (.tuple #[.int .i64 v, .bool true]) w := by
  obtain ⟨c, ps, hrun, hv⟩ := hown.look_ok law27 Trym.underlying26 (zero27 w) (plainElem_int Trym.underlying27 (by decide)) (keyOf_int_mk Trym.underlying27 wx)
  obtain ⟨a, rfl, hc, _⟩ := plainElem_int_inv Trym.underlying27 hv
  rw [hM.yes x v hx] at hc
  rw [hM.has hx] at hrun
  cases hc
  exact hrun

set_option maxRecDepth 100000 in
set_option maxHeartbeats 800000 in
theorem mapped_any (b n : Nat) (D : DataW Unit) (f : Int → Option Int) (op : Int) (w : World) (hown : w.ownsMap Trym.prog 27 (plainElem Trym.prog 27) b n D) (hM : MapIs D f) :
    Calls Trym.prog 11 #[.map (some b), .int .i64 op] w fun e w' => ∃ x ok, e = .returned (.tuple #[.int .i64 x, .bool ok]) ∧ Answers f op x ok ∧ (ok = true → (Lit.int .i64 x).wf = true) ∧ Below w.heap.size w w' := by
  have hbl := hown.lt
  have HM := (show Hid _ from hM)
  clear hM
  go_enter Trym.func11, Trym.ntmps11
  go_wp2_with (first
    | (at_range; refine wpList_range_own _ rfl _ 26 rfl 27 27 law27 Trym.underlying26 _ b n _ rfl hown ?_; intro w0 hrg0 hg0 hs0)
    | go_in)
  go_frame
  go_loopw [6] (fun _ wr => ∃ (left : Lit → Bool) (cnt : Nat), wr.ranges Trym.prog 27 (plainElem Trym.prog 27) b w.heap.size n D left cnt ∧ Hid (∀ y, f y = some op → left (.int .i64 y) = true) ∧ Below w.heap.size w wr)
    (fun _ wr => wr.rangeLeft b w.heap.size)
  case atStart => exact ⟨_, _, hrg0, fun y hy => HM.out.has hy, (Below.refl _ _).grown hg0 (Nat.le_refl _) (fun j hj => by cases hj)⟩
  case round =>
    obtain ⟨left, cnt, hrg, HL, hnx⟩ := hrel
    have HN := (show Hid _ from hnx)
    clear hnx
    go_wp2_with (first
      | (at_next; refine wpList_next_ranges_ii _ rfl _ rfl 27 27 .i64 .i64 law27 Trym.underlying27 Trym.underlying27 b w.heap.size n _ _ _ rfl hrg ?_ ?_)
      | go_in)
    · intro hc0 hl0
      go_wp2
      go_ret2
      exact ⟨0, false, rfl, .inr ⟨rfl, rfl, fun y hy => by have := HL.out y hy; rw [hl0] at this; cases this⟩, (fun h => by cases h), HN.out⟩
    · intro x c w1 cnt1 hwx hwc hlx hat hrg1 hlt hg1 hs1 hen
      have hfx := HM.out.met hat
      by_cases hc : c = op
      · subst hc
        have HF := (show Hid _ from hfx)
        clear hfx hat
        go_wp2
        go_ret2
        exact ⟨x, true, rfl, .inl ⟨rfl, HF.out⟩, fun _ => hwx, HN.out.grown hg1 HN.out.size (fun j hj => by cases hj; exact Nat.le_refl _)⟩
      · have hce : (c == op) = false := by simpa using hc
        have HL1 : Hid (∀ y, f y = some op → (left (.int .i64 y) && !(Lit.int .i64 y).sameKey (.int .i64 x)) = true) := fun y hy => by
          have e : y ≠ x := fun e => by subst e; rw [hfx] at hy; cases hy; exact hc rfl
          rw [HL.out y hy, Maps.sameKey_ne (lit_ne e)]
          rfl
        clear hfx hat hc
        go_wp2
        go_roundw
        case rel => exact ⟨_, cnt1, hrg1, HL1, HN.out.grown hg1 HN.out.size (fun j hj => by cases hj; exact Nat.le_refl _)⟩
        case measure => rw [hrg1.left_eq, hrg.left_eq]; exact hlt

theorem zmapped_any (b n : Nat) (D : DataW Unit) (f : Int → Option Int) (op : Int) (w : World) (hown : w.ownsMap Trym.prog 27 (plainElem Trym.prog 27) b n D) (hM : MapIs D f) :
    Calls Trym.prog 8 #[.map (some b), .int .i64 op] w fun e w' => ∃ x ok, e = .returned (.tuple #[.int .i64 x, .bool ok]) ∧ Answers f op x ok ∧ (ok = true → (Lit.int .i64 x).wf = true) ∧ Below w.heap.size w w' := by
  have H := (show Hid _ from mapped_any b n D f op w hown hM)
  clear hown hM
  go_enter Trym.func8, Trym.ntmps8
  go_wp2_with fail
  refine Calls.mono H.out ?_
  rintro e w' ⟨x, ok, rfl, h1, h2, h3⟩
  go_wp2
  go_ret2
  exact ⟨x, ok, rfl, h1, h2, h3⟩

end Go.Proofs.Qxb6001187aMods
