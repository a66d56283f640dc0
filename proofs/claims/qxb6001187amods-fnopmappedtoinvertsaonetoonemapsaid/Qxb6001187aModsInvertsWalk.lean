/- FnOpMappedToInvertsAOneToOneMap (function 4): the walk. -/
import Derived.Test.Qxb6001187aModsFindsWalk
import Derived.Test.Qxb6001187aModsDistinct
namespace Go.Proofs.Qxb6001187aMods
open Go.RowKit Go.Maps

/-- More pairs than the law speaks of. -/
theorem inverts_many (a0 a1 : Option Addr) (len0 cap0 len1 cap1 : Nat) (i : Int) (w : World) (h0 : len0 ≤ 9223372036854775807) (h1 : len1 ≤ 9223372036854775807) (h : 65536 < len0 ∨ 65536 < len1) :
    Calls Trym.prog 4 #[.slice a0 len0 cap0, .slice a1 len1 cap1, .int .i64 i] w fun e w' => e = .returned (.bool true) ∧ w' = w := by
  by_cases b0 : 1048576 < len0
  · go_enter Trym.func4, Trym.ntmps4
    go_wp2
    go_ret
    exact ⟨rfl, rfl⟩
  · by_cases b1 : 1048576 < len1
    · go_enter Trym.func4, Trym.ntmps4
      go_wp2
      go_ret
      exact ⟨rfl, rfl⟩
    · by_cases b2 : 1048576 < len0 + len1
      · go_enter Trym.func4, Trym.ntmps4
        go_wp2
        go_ret
        exact ⟨rfl, rfl⟩
      · rcases h with h | h
        · go_enter Trym.func4, Trym.ntmps4
          go_wp2
          go_ret
          exact ⟨rfl, rfl⟩
        · by_cases b3 : 65536 < len0
          · go_enter Trym.func4, Trym.ntmps4
            go_wp2
            go_ret
            exact ⟨rfl, rfl⟩
          · go_enter Trym.func4, Trym.ntmps4
            go_wp2
            go_ret
            exact ⟨rfl, rfl⟩

/-- The index out of range. -/
theorem inverts_out (a0 a1 : Option Addr) (len0 cap0 len1 cap1 : Nat) (i : Int) (w : World) (h0 : len0 ≤ 65536) (h1 : len1 ≤ 65536) (h : i < 0 ∨ (min len0 len1 : Nat) ≤ i) :
    Calls Trym.prog 4 #[.slice a0 len0 cap0, .slice a1 len1 cap1, .int .i64 i] w fun e w' => e = .returned (.bool true) ∧ w' = w := by
  by_cases hi : i < 0
  · go_enter Trym.func4, Trym.ntmps4
    go_wp2_with (first | (go_at_call 9; go_in) | (go_at_call 7; refine (min_any len0 len1 _).mono ?_; rintro e w' ⟨rfl, rfl⟩))
    go_ret
    exact ⟨rfl, rfl⟩
  · have hle : (min len0 len1 : Nat) ≤ i := by omega
    clear h
    generalize hm : min len0 len1 = n at hle
    have HM := (show Hid _ from hm)
    clear hm
    go_enter Trym.func4, Trym.ntmps4
    go_wp2_with (first | (go_at_call 9; go_in) | (go_at_call 7; refine (min_any len0 len1 _).mono ?_; rintro e w' ⟨rfl, rfl⟩; rw [HM.out]))
    go_ret
    exact ⟨rfl, rfl⟩

set_option maxRecDepth 100000 in
set_option maxHeartbeats 1600000 in
theorem inverts_some (a0 a1 : Option Addr) (len0 cap0 len1 cap1 : Nat) (z0 z1 : List Int) (i : Nat) (w : World) (h0 : len0 ≤ 65536) (h1 : len1 ≤ 65536) (hi : i < min len0 len1)
    (n0 : a0 = none → len0 = 0 ∧ cap0 = 0) (n1 : a1 = none → len1 = 0 ∧ cap1 = 0) (l0 : Lies w a0 len0 z0) (l1 : Lies w a1 len1 z1)
    (w0 : ∀ j, (Lit.int .i64 (z0.getD j 0)).wf = true) (w1 : ∀ j, (Lit.int .i64 (z1.getD j 0)).wf = true) :
    Calls Trym.prog 4 #[.slice a0 len0 cap0, .slice a1 len1 cap1, .int .i64 (i : Int)] w fun e w' => e = .returned (.bool true) ∧ Below w.heap.size w w' := by
  have hn0 : min len0 len1 ≤ len0 := Nat.min_le_left _ _
  have hn1 : min len0 len1 ≤ len1 := Nat.min_le_right _ _
  have HD := (show Hid _ from distinct_any a0 a1 len0 cap0 len1 cap1 (min len0 len1) z0 z1 w (by omega) hn0 hn1 l0 l1 (by omega) (by omega) w0 w1)
  have HC0 := (show Hid _ from fun w' hb => clone_any a0 len0 cap0 z0 w' h0 n0 (l0.later hb))
  have HC1 := (show Hid _ from fun w' hb => clone_any a1 len1 cap1 z1 w' h1 n1 (l1.later hb))
  have HW0 := (show Hid _ from w0)
  have HW1 := (show Hid _ from w1)
  clear n0 n1 l0 l1 w0 w1
  go_enter Trym.func4, Trym.ntmps4
  go_wp2_with (first | (go_at_call 9; go_in) | fail)
  refine Calls.mono (min_any len0 len1 _) ?_
  rintro e wm ⟨rfl, rfl⟩
  generalize min len0 len1 = n at hi hn0 hn1 HD ⊢
  have e1 : (decide ((n : Int) ≤ (i : Int))) = false := by simp; omega
  go_wp2_with fail
  refine Calls.mono HD.out ?_
  rintro e w2 ⟨bb, rfl, hd, b2⟩
  have HB2 := (show Hid _ from b2)
  have HDist := (show Hid _ from hd)
  clear HD hd b2
  cases bb with
  | false =>
    go_wp2
    go_ret
    exact ⟨rfl, HB2.out⟩
  | true =>
    have HDD := (show Hid _ from HDist.out rfl)
    clear HDist
    go_wp2_with fail
    refine Calls.mono (HC0.out w2 HB2.out) ?_
    rintro e w3 ⟨a2, c2, rfl, l2, b3⟩
    have HL2 := (show Hid _ from l2)
    have HB3 := (show Hid _ from HB2.out.trans (b3.mono HB2.out.size))
    clear HC0 l2 b3 HB2
    go_wp2_with fail
    refine Calls.mono (HC1.out w3 HB3.out) ?_
    rintro e w4 ⟨a3, c3, rfl, l3, b4⟩
    have HL3 := (show Hid _ from l3)
    have HL2' := (show Hid _ from Lies.later HL2.out b4)
    have HB4 := (show Hid _ from HB3.out.trans (b4.mono HB3.out.size))
    clear HC1 l3 b4 HL2 HB3
    have hmm := run_makeMap26
    go_wp2_with fail
    go_loopw [9] (fun i wr => ∃ (k : Nat) (D : DataW Unit), k ≤ n ∧ i = .int .i64 k ∧ wr.ownsMap Trym.prog 27 (plainElem Trym.prog 27) w4.heap.size k D ∧ Hid (MapIs D (fill (fun j => z0.getD j 0) (fun j => z1.getD j 0) k)) ∧ Below w4.heap.size w4 wr)
      (fun i _ => n - (intOf i).toNat)
    case atStart => exact ⟨0, .map [], Nat.zero_le _, rfl, World.ownsMap_made _ _ _ _, mapIs_empty, (Below.refl _ _).alloc (Nat.le_refl _) _⟩
    case round =>
      obtain ⟨k, D, hk, rfl, hown, HM, hnx⟩ := hrel
      obtain ⟨p0, o0, rfl, hp0, hc0⟩ := HL2'.out (by omega)
      obtain ⟨p1, o1, rfl, hp1, hc1⟩ := HL3.out (by omega)
      by_cases hlt : k < n
      · have hx : wr.cell? ⟨p0, o0 + k, none⟩ = some (.int .i64 (z0.getD k 0)) := (hnx.cell (p := ⟨p0, o0 + k, none⟩) hp0).trans (hc0 k (by omega))
        have hy : wr.cell? ⟨p1, o1 + k, none⟩ = some (.int .i64 (z1.getD k 0)) := (hnx.cell (p := ⟨p1, o1 + k, none⟩) hp1).trans (hc1 k (by omega))
        obtain ⟨w5, hrun, hown5, hg5⟩ := hown.drew.update law27 Trym.underlying26 (by unfold maxLen; omega) (keyOf_int_mk Trym.underlying27 (HW0.out k)) (plainElem_int Trym.underlying27 (HW1.out k))
        have HM5 := (show Hid _ from mapIs_put HM.out (z0.getD k 0) (z1.getD k 0))
        have HO5 := (show Hid _ from hown5)
        have HB5 := (show Hid _ from hnx.drew.grown hg5 hnx.size (fun j hj => by cases hj; exact Nat.le_refl _))
        have HE : Hid (fill (fun j => z0.getD j 0) (fun j => z1.getD j 0) (k + 1) = fun x => if x = z0.getD k 0 then some (z1.getD k 0) else fill (fun j => z0.getD j 0) (fun j => z1.getD j 0) k x) := (rfl : fill (fun j => z0.getD j 0) (fun j => z1.getD j 0) (k + 1) = _)
        generalize z0.getD k 0 = x at hx hrun HM5 HO5 HE
        generalize z1.getD k 0 = y at hy hrun HM5 HO5 HE
        clear hc0 hc1 hown5 hg5 hown hnx HM
        go_wp2
        go_region
        go_wp2
        go_roundw
        case rel => exact ⟨k + 1, _, by omega, by go_num, HO5.out, by rw [HE.out]; exact HM5, HB5.out⟩
        case measure => simp [intOf]; omega
      · obtain rfl : k = n := by omega
        have hx : wr.cell? ⟨p0, o0 + i, none⟩ = some (.int .i64 (z0.getD i 0)) := (hnx.cell (p := ⟨p0, o0 + i, none⟩) hp0).trans (hc0 i (by omega))
        have hy : wr.cell? ⟨p1, o1 + i, none⟩ = some (.int .i64 (z1.getD i 0)) := (hnx.cell (p := ⟨p1, o1 + i, none⟩) hp1).trans (hc1 i (by omega))
        have HO := (show Hid _ from hown)
        have HN := (show Hid _ from hnx)
        have HF : Hid (fill (fun j => z0.getD j 0) (fun j => z1.getD j 0) k (z0.getD i 0) = some (z1.getD i 0)) := fill_distinct (ks := fun j => z0.getD j 0) (vs := fun j => z1.getD j 0) hi HDD.out.1
        have HG : Hid (∀ x, fill (fun j => z0.getD j 0) (fun j => z1.getD j 0) k x = some (z1.getD i 0) → x = z0.getD i 0) := fun x hx => by
          obtain ⟨j, hj, h1, h2⟩ := fill_from hx
          have e : j = i := HDD.out.2 j i hj hi h2
          subst e
          exact h1.symm
        clear hc0 hc1 hown hnx HW0 HW1 HDD
        generalize fill (fun j => z0.getD j 0) (fun j => z1.getD j 0) k = f at HM HF HG
        generalize z0.getD i 0 = x at hx HF HG
        generalize z1.getD i 0 = y at hy HF HG
        go_wp2_with fail
        refine Calls.mono (zmapped_any _ _ _ f y _ HO.out HM.out) ?_
        rintro e w6 ⟨x', ok, rfl, hans, _, hb6⟩
        have HBel : Hid (Below wm.heap.size wm w6) := (HB4.out.trans (HN.out.mono HB4.out.size)).trans (hb6.mono (Nat.le_trans HB4.out.size HN.out.size))
        rcases hans with ⟨rfl, hf⟩ | ⟨rfl, rfl, hno⟩
        · obtain rfl : x' = x := HG.out x' hf
          have hx6 : w6.cell? ⟨p0, o0 + i, none⟩ = some (.int .i64 x') := (hb6.cell (p := ⟨p0, o0 + i, none⟩) (Nat.lt_of_lt_of_le hp0 HN.out.size)).trans hx
          clear hf hb6
          go_wp2
          go_ret
          exact ⟨rfl, HBel.out⟩
        · exact absurd HF.out (hno _)

end Go.Proofs.Qxb6001187aMods
