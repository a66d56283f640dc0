/- FnOpMappedToFindsAPreimageExactlyWhenOneExists (function 3): the walk. -/
import Derived.Test.Qxb6001187aModsClone
namespace Go.Proofs.Qxb6001187aMods
open Go.RowKit Go.Maps

theorem run_makeMap26 (n : Int) (w : World) : (Instr.makeMap 26 (some (.int .i64 n))).run Trym.prog w = .ok (.map (some w.heap.size)) (w.alloc (.map #[] 0)) := by
  simp [Instr.makeMap, run_underlying Trym.underlying26, asInt, asIntOf, Result.andThen]

theorem min_any (a b : Nat) (w : World) : Calls Trym.prog 7 #[.int .i64 (a : Int), .int .i64 (b : Int)] w fun e w' => e = .returned (.int .i64 ((min a b : Nat) : Int)) ∧ w' = w := by
  by_cases h : a < b
  · rw [Nat.min_eq_left (by omega)]
    go_enter Trym.func7, Trym.ntmps7
    go_wp2
    go_ret
    exact ⟨rfl, rfl⟩
  · rw [Nat.min_eq_right (by omega)]
    go_enter Trym.func7, Trym.ntmps7
    go_wp2
    go_ret
    exact ⟨rfl, rfl⟩

/-- More pairs than the law speaks of. -/
theorem finds_many (a0 a1 : Option Addr) (len0 cap0 len1 cap1 : Nat) (op : Int) (w : World) (h0 : len0 ≤ 9223372036854775807) (h1 : len1 ≤ 9223372036854775807) (h : 65536 < len0 ∨ 65536 < len1) :
    Calls Trym.prog 3 #[.slice a0 len0 cap0, .slice a1 len1 cap1, .int .i64 op] w fun e w' => e = .returned (.bool true) ∧ w' = w := by
  by_cases b0 : 1048576 < len0
  · go_enter Trym.func3, Trym.ntmps3
    go_wp2
    go_ret
    exact ⟨rfl, rfl⟩
  · by_cases b1 : 1048576 < len1
    · go_enter Trym.func3, Trym.ntmps3
      go_wp2
      go_ret
      exact ⟨rfl, rfl⟩
    · by_cases b2 : 1048576 < len0 + len1
      · go_enter Trym.func3, Trym.ntmps3
        go_wp2
        go_ret
        exact ⟨rfl, rfl⟩
      · rcases h with h | h
        · go_enter Trym.func3, Trym.ntmps3
          go_wp2
          go_ret
          exact ⟨rfl, rfl⟩
        · by_cases b3 : 65536 < len0
          · go_enter Trym.func3, Trym.ntmps3
            go_wp2
            go_ret
            exact ⟨rfl, rfl⟩
          · go_enter Trym.func3, Trym.ntmps3
            go_wp2
            go_ret
            exact ⟨rfl, rfl⟩

set_option maxRecDepth 100000 in
set_option maxHeartbeats 1600000 in
theorem finds_some (a0 a1 : Option Addr) (len0 cap0 len1 cap1 : Nat) (z0 z1 : List Int) (op : Int) (w : World) (h0 : len0 ≤ 65536) (h1 : len1 ≤ 65536)
    (n0 : a0 = none → len0 = 0 ∧ cap0 = 0) (n1 : a1 = none → len1 = 0 ∧ cap1 = 0) (l0 : Lies w a0 len0 z0) (l1 : Lies w a1 len1 z1)
    (w0 : ∀ j, (Lit.int .i64 (z0.getD j 0)).wf = true) (w1 : ∀ j, (Lit.int .i64 (z1.getD j 0)).wf = true) :
    Calls Trym.prog 3 #[.slice a0 len0 cap0, .slice a1 len1 cap1, .int .i64 op] w fun e w' => e = .returned (.bool true) ∧ Below w.heap.size w w' := by
  have HC0 := (show Hid _ from clone_any a0 len0 cap0 z0 w h0 n0 l0)
  have HC1 := (show Hid _ from fun w' hb => clone_any a1 len1 cap1 z1 w' h1 n1 (l1.later hb))
  have HW0 := (show Hid _ from w0)
  have HW1 := (show Hid _ from w1)
  clear n0 n1 l0 l1 w0 w1
  go_enter Trym.func3, Trym.ntmps3
  go_wp2_with (first | (go_at_call 5; go_in) | fail)
  refine Calls.mono HC0.out ?_
  rintro e w2 ⟨a2, c2, rfl, l2, b2⟩
  have HL2 := (show Hid _ from l2)
  have HB2 := (show Hid _ from b2)
  clear HC0 l2 b2
  go_wp2_with fail
  refine Calls.mono (HC1.out w2 HB2.out) ?_
  rintro e w3 ⟨a3, c3, rfl, l3, b3⟩
  have HL3 := (show Hid _ from l3)
  have HL2' := (show Hid _ from Lies.later HL2.out b3)
  have HB3 := (show Hid _ from HB2.out.trans (b3.mono HB2.out.size))
  clear HC1 l3 b3 HL2 HB2
  go_wp2_with fail
  refine Calls.mono (min_any len0 len1 _) ?_
  rintro e w4 ⟨rfl, rfl⟩
  have hn0 : min len0 len1 ≤ len0 := Nat.min_le_left _ _
  have hn1 : min len0 len1 ≤ len1 := Nat.min_le_right _ _
  generalize min len0 len1 = n at hn0 hn1 ⊢
  have hmm := run_makeMap26
  go_wp2_with fail
  go_loopw [9] (fun i wr => ∃ (k : Nat) (D : DataW Unit), k ≤ n ∧ i = .int .i64 k ∧ wr.ownsMap Trym.prog 27 (plainElem Trym.prog 27) w4.heap.size k D ∧ Hid (MapIs D (fill (fun j => z0.getD j 0) (fun j => z1.getD j 0) k)) ∧ Below w4.heap.size w4 wr)
    (fun i _ => n - (intOf i).toNat)
  case atStart => exact ⟨0, .map [], Nat.zero_le _, rfl, World.ownsMap_made _ _ _ _, mapIs_empty, (Below.refl _ _).alloc (Nat.le_refl _) _⟩
  case round =>
    obtain ⟨k, D, hk, rfl, hown, HM, hnx⟩ := hrel
    by_cases hlt : k < n
    · obtain ⟨p0, o0, rfl, hp0, hc0⟩ := HL2'.out (by omega)
      obtain ⟨p1, o1, rfl, hp1, hc1⟩ := HL3.out (by omega)
      have hx : wr.cell? ⟨p0, o0 + k, none⟩ = some (.int .i64 (z0.getD k 0)) := (hnx.cell (p := ⟨p0, o0 + k, none⟩) hp0).trans (hc0 k (by omega))
      have hy : wr.cell? ⟨p1, o1 + k, none⟩ = some (.int .i64 (z1.getD k 0)) := (hnx.cell (p := ⟨p1, o1 + k, none⟩) hp1).trans (hc1 k (by omega))
      obtain ⟨w5, hrun, hown5, hg5⟩ := hown.drew.update law27 Trym.underlying26 (by unfold maxLen; omega) (keyOf_int_mk Trym.underlying27 (HW0.out k)) (plainElem_int Trym.underlying27 (HW1.out k))
      have HM5 := (show Hid _ from mapIs_put HM.out (z0.getD k 0) (z1.getD k 0))
      have HO5 := (show Hid _ from hown5)
      have HB5 := (show Hid _ from hnx.drew.grown hg5 hnx.size (fun j hj => by cases hj; exact Nat.le_refl _))
      have HE : Hid (fill (fun j => z0.getD j 0) (fun j => z1.getD j 0) (k + 1) = fun x => if x = z0.getD k 0 then some (z1.getD k 0) else fill (fun j => z0.getD j 0) (fun j => z1.getD j 0) k x) := (rfl : fill (fun j => z0.getD j 0) (fun j => z1.getD j 0) (k + 1) = _)
      generalize z0.getD k 0 = x at hx hrun HM5 HO5 HE
      generalize z1.getD k 0 = y at hy hrun HM5 HO5 HE
      clear hc0 hc1 hown5 hg5 hown hnx HM
      go_wp2
      go_region
      go_wp2
      go_roundw
      case rel => exact ⟨k + 1, _, by omega, by go_num, HO5.out, by rw [HE.out]; exact HM5, HB5.out⟩
      case measure => simp [intOf]; omega
    · obtain rfl : k = n := by omega
      have HO := (show Hid _ from hown)
      have HN := (show Hid _ from hnx)
      have HF := (show Hid _ from fun i (hi : i < k) => fill_has (ks := fun j => z0.getD j 0) (vs := fun j => z1.getD j 0) (n := k) (i := i) hi)
      have HG := (show Hid _ from fun (x v : Int) => fill_from (ks := fun j => z0.getD j 0) (vs := fun j => z1.getD j 0) (n := k) (x := x) (v := v))
      clear hown hnx HW1
      generalize fill (fun j => z0.getD j 0) (fun j => z1.getD j 0) k = f at HM HF HG
      go_wp2_with fail
      go_loop [10, 11] (fun e i => ∃ (j : Nat) (bb : Bool), j ≤ k ∧ i = .int .i64 j ∧ e = .bool bb ∧ Hid (bb = true ↔ ∃ i, i < j ∧ f (z0.getD i 0) = some op)) (fun _ i => k - (intOf i).toNat)
      case atStart => exact ⟨0, false, Nat.zero_le _, rfl, rfl, ⟨fun h => (by cases h), fun ⟨i, hi, _⟩ => absurd hi (Nat.not_lt_zero i)⟩⟩
      case round =>
        obtain ⟨j, bb, hj, rfl, rfl, HI⟩ := hrel
        by_cases hlt2 : j < k
        · obtain ⟨p0, o0, rfl, hp0, hc0⟩ := HL2'.out (by omega)
          have hx : wr.cell? ⟨p0, o0 + j, none⟩ = some (.int .i64 (z0.getD j 0)) := (HN.out.cell (p := ⟨p0, o0 + j, none⟩) hp0).trans (hc0 j (by omega))
          obtain ⟨v, hv⟩ := HF.out j hlt2
          have hl := look_at HO.out HM.out hv (HW0.out j)
          have HV : Hid (f (z0.getD j 0) = some v) := hv
          clear hc0 hv
          by_cases hvo : v = op
          · subst hvo
            have HI1 : Hid (true = true ↔ ∃ i, i < j + 1 ∧ f (z0.getD i 0) = some v) := ⟨fun _ => ⟨j, by omega, HV.out⟩, fun _ => rfl⟩
            generalize z0.getD j 0 = x at hx hl HV
            go_wp2
            go_round
            case rel => exact ⟨j + 1, true, by omega, by go_num, rfl, HI1⟩
            case measure => simp [intOf]; omega
          · have hvb : (v == op) = false := by simpa using hvo
            have HI1 : Hid (bb = true ↔ ∃ i, i < j + 1 ∧ f (z0.getD i 0) = some op) := by
              refine HI.out.trans ⟨fun ⟨i, hi, h⟩ => ⟨i, by omega, h⟩, fun ⟨i, hi, h⟩ => ?_⟩
              by_cases e : i = j
              · subst e
                rw [HV.out] at h
                cases h
                exact absurd rfl hvo
              · exact ⟨i, by omega, h⟩
            generalize z0.getD j 0 = x at hx hl HV
            clear hvo
            go_wp2
            go_round
            case rel => exact ⟨j + 1, bb, by omega, by go_num, rfl, HI1⟩
            case measure => simp [intOf]; omega
        · obtain rfl : j = k := by omega
          go_wp2_with fail
          refine Calls.mono (zmapped_any _ _ _ f op _ HO.out HM.out) ?_
          rintro e w6 ⟨x, ok, rfl, hans, hwx, hb6⟩
          have HB6 := (show Hid _ from hb6)
          have HO6 := (show Hid _ from ownsMap_block HO.out (hb6.block _ (World.ownsMap.lt HO.out)))
          have HBel : Hid (Below w.heap.size w w6) := (HB3.out.trans (HN.out.mono HB3.out.size)).trans (hb6.mono (Nat.le_trans HB3.out.size HN.out.size))
          rcases hans with ⟨rfl, hf⟩ | ⟨rfl, rfl, hno⟩
          · obtain ⟨i, hi, hi1, hi2⟩ := HG.out x op hf
            have hbb : bb = true := HI.out.2 ⟨i, hi, by rw [hi1]; exact hf⟩
            subst hbb
            have hl := look_ok_at HO6.out HM.out hf (hwx rfl)
            clear hf hi1 hi2 hb6 hwx
            go_wp2
            go_ret
            exact ⟨rfl, HBel.out⟩
          · have hbb : bb = false := by
              cases bb with
              | false => rfl
              | true =>
                obtain ⟨i, _, h⟩ := HI.out.1 rfl
                exact absurd h (hno _)
            subst hbb
            clear hno hb6 hwx
            go_wp2
            go_ret
            exact ⟨rfl, HBel.out⟩

end Go.Proofs.Qxb6001187aMods
