/- zzDistinctPairsTxnB1 (function 10), by its contract: the two sets 'map[int]bool' are ghosts of the proof. -/
import Derived.Test.Qxb6001187aModsClone
namespace Go.Proofs.Qxb6001187aMods
open Go.RowKit Go.Maps

/-- The datum D, a map[int]bool, says of each key whether p holds. -/
structure SetIs (D : DataW Unit) (p : Int → Bool) : Prop where
  isMap : Maps.IsMap D
  at' : ∀ x, D.atKey (.int .i64 x) (.lit (.bool false)) = .lit (.bool (p x))

theorem setIs_empty : SetIs (.map []) (fun _ => false) := ⟨Maps.isMap_empty, fun _ => rfl⟩

theorem setIs_put {D : DataW Unit} {p : Int → Bool} (h : SetIs D p) (a : Int) : SetIs (D.put (.int .i64 a) (.lit (.bool true))) (fun x => if x = a then true else p x) := by
  refine ⟨h.isMap.put _ _, fun x => ?_⟩
  by_cases e : x = a
  · subst e
    rw [Maps.atKey_put_same h.isMap (show WideAt.IsKeyLit (.int .i64 x) from trivial), if_pos rfl]
  · rw [Maps.atKey_put_other (lit_ne e), h.at', if_neg e]

/-- Is x among the first k of ks? -/
def seen (ks : Nat → Int) : Nat → Int → Bool
  | 0 => fun _ => false
  | k + 1 => fun x => if x = ks k then true else seen ks k x

theorem seen_of {ks : Nat → Int} : ∀ {k i : Nat}, i < k → seen ks k (ks i) = true
  | 0, i, h => by omega
  | k + 1, i, h => by
    unfold seen
    by_cases e : ks i = ks k
    · rw [if_pos e]
    · rw [if_neg e]
      exact seen_of (Nat.lt_of_le_of_ne (by omega) (fun e' => e (by rw [e'])))

/-- The first n are pairwise distinct. -/
def Distinct (ks : Nat → Int) (n : Nat) : Prop := ∀ a b, a < n → b < n → ks a = ks b → a = b

theorem distinct_zero (ks : Nat → Int) : Distinct ks 0 := fun a _ ha => absurd ha (Nat.not_lt_zero a)

theorem distinct_succ {ks : Nat → Int} {k : Nat} (h : Distinct ks k) (hs : seen ks k (ks k) = false) : Distinct ks (k + 1) := by
  have hne : ∀ i, i < k → ks i ≠ ks k := fun i hi e => by
    have := seen_of (ks := ks) hi
    rw [e, hs] at this
    cases this
  intro a b ha hb e
  by_cases ea : a = k
  · by_cases eb : b = k
    · omega
    · subst ea
      exact absurd e.symm (hne b (by omega))
  · by_cases eb : b = k
    · subst eb
      exact absurd e (hne a (by omega))
    · exact h a b (by omega) (by omega) e

theorem law3 : Keyed Trym.prog 3 := int_keyed Trym.underlying3
theorem zero4 (w : World) : (zeroValue 4).run Trym.prog w = .ok (.bool false) w := by kernel_rfl

theorem run_makeMap30 (n : Int) (w : World) : (Instr.makeMap 30 (some (.int .i64 n))).run Trym.prog w = .ok (.map (some w.heap.size)) (w.alloc (.map #[] 0)) := by
  simp [Instr.makeMap, run_underlying Trym.underlying30, asInt, asIntOf, Result.andThen]

/-- An element that reads as a bool's datum IS that bool. -/
theorem elem_bool_inv {v : Value} {z : DataW Unit × List MemPlace} (h : plainElem Trym.prog 4 v = some z) : ∃ c, v = .bool c ∧ z = (.lit (.bool c), []) := by
  unfold plainElem at h
  rw [Trym.underlying4] at h
  cases v <;> simp at h
  exact ⟨_, rfl, h.symm⟩

/-- 'm[x]' at elements that are bools: the law that the kit lacks. -/
theorem look_set {b n : Nat} {D : DataW Unit} {p : Int → Bool} {w : World} (hown : w.ownsMap Trym.prog 3 (plainElem Trym.prog 4) b n D) (hS : SetIs D p) {x : Int} (wx : (Lit.int .i64 x).wf = true) :
    (Instr.lookup 30 (.map (some b)) (.int .i64 x) false).run Trym.prog w = .ok (.bool (p x)) w := by
  obtain ⟨v, ps, hrun, hv⟩ := hown.lookup law3 Trym.underlying30 (zero4 w) (plainElem_bool Trym.underlying4 false) (keyOf_int_mk Trym.underlying3 wx)
  obtain ⟨c, rfl, hc⟩ := elem_bool_inv hv
  rw [hS.at'] at hc
  cases hc
  exact hrun

set_option maxRecDepth 100000 in
set_option maxHeartbeats 1600000 in
theorem distinct_any (a0 a1 : Option Addr) (len0 cap0 len1 cap1 n : Nat) (z0 z1 : List Int) (w : World) (hn : n ≤ 65536) (hn0 : n ≤ len0) (hn1 : n ≤ len1) (l0 : Lies w a0 len0 z0) (l1 : Lies w a1 len1 z1)
    (h0 : len0 ≤ 9223372036854775807) (h1 : len1 ≤ 9223372036854775807)
    (w0 : ∀ j, (Lit.int .i64 (z0.getD j 0)).wf = true) (w1 : ∀ j, (Lit.int .i64 (z1.getD j 0)).wf = true) :
    Calls Trym.prog 10 #[.slice a0 len0 cap0, .slice a1 len1 cap1, .int .i64 (n : Int)] w fun e w' => ∃ bb, e = .returned (.bool bb) ∧ (bb = true → Distinct (fun j => z0.getD j 0) n ∧ Distinct (fun j => z1.getD j 0) n) ∧ Below w.heap.size w w' := by
  have HL0 := (show Hid _ from l0)
  have HL1 := (show Hid _ from l1)
  have HW0 := (show Hid _ from w0)
  have HW1 := (show Hid _ from w1)
  clear l0 l1 w0 w1
  have hmm := run_makeMap30
  go_enter Trym.func10, Trym.ntmps10
  go_wp2_with fail
  go_loopw [9] (fun i wr => ∃ (k : Nat) (D1 D2 : DataW Unit), k ≤ n ∧ i = .int .i64 k ∧ wr.ownsMap Trym.prog 3 (plainElem Trym.prog 4) w.heap.size k D1 ∧ wr.ownsMap Trym.prog 3 (plainElem Trym.prog 4) (w.heap.size + 1) k D2 ∧
      Hid (SetIs D1 (seen (fun j => z0.getD j 0) k) ∧ SetIs D2 (seen (fun j => z1.getD j 0) k) ∧ Distinct (fun j => z0.getD j 0) k ∧ Distinct (fun j => z1.getD j 0) k) ∧ Below w.heap.size w wr)
    (fun i _ => n - (intOf i).toNat)
  case atStart =>
    have e1 : (w.alloc (.map #[] 0)).heap.size = w.heap.size + 1 := by simp
    have h2 := World.ownsMap_made (w.alloc (.map #[] 0)) Trym.prog 3 (plainElem (H := Unit) Trym.prog 4)
    rw [e1] at h2
    exact ⟨0, .map [], .map [], Nat.zero_le _, rfl, (World.ownsMap_made _ _ _ _).alloc _, h2, ⟨setIs_empty, setIs_empty, distinct_zero _, distinct_zero _⟩, ((Below.refl _ _).alloc (Nat.le_refl _) _).alloc (by simp) _⟩
  case round =>
    obtain ⟨k, D1, D2, hk, rfl, hown1, hown2, HS, hnx⟩ := hrel
    by_cases hlt : k < n
    · obtain ⟨p0, o0, rfl, hp0, hc0⟩ := HL0.out (by omega)
      obtain ⟨p1, o1, rfl, hp1, hc1⟩ := HL1.out (by omega)
      have hx : wr.cell? ⟨p0, o0 + k, none⟩ = some (.int .i64 (z0.getD k 0)) := (hnx.cell (p := ⟨p0, o0 + k, none⟩) hp0).trans (hc0 k (by omega))
      have hy : wr.cell? ⟨p1, o1 + k, none⟩ = some (.int .i64 (z1.getD k 0)) := (hnx.cell (p := ⟨p1, o1 + k, none⟩) hp1).trans (hc1 k (by omega))
      have hlx := look_set hown1 HS.out.1 (HW0.out k)
      have hly := look_set hown2 HS.out.2.1 (HW1.out k)
      have HN := (show Hid _ from hnx)
      cases hsx : seen (fun j => z0.getD j 0) k (z0.getD k 0) with
      | true =>
        rw [hsx] at hlx
        clear hsx hc0 hc1 hown1 hown2 hnx
        generalize z0.getD k 0 = x at hx hlx
        go_wp2
        go_ret
        exact ⟨false, rfl, (fun h => by cases h), HN.out⟩
      | false =>
        rw [hsx] at hlx
        cases hsy : seen (fun j => z1.getD j 0) k (z1.getD k 0) with
        | true =>
          rw [hsy] at hly
          clear hsx hsy hc0 hc1 hown1 hown2 hnx
          generalize z0.getD k 0 = x at hx hlx
          generalize z1.getD k 0 = y at hy hly
          go_wp2
          go_ret
          exact ⟨false, rfl, (fun h => by cases h), HN.out⟩
        | false =>
          rw [hsy] at hly
          obtain ⟨w5, hrun5, hown5, hg5⟩ := hown1.update law3 Trym.underlying30 (by unfold maxLen; omega) (keyOf_int_mk Trym.underlying3 (HW0.out k)) (plainElem_bool Trym.underlying4 true)
          have hown25 := hown2.kept hg5 (fun e => by have := Option.some.inj e; omega)
          have hnx5 := hnx.grown hg5 hnx.size (fun j hj => by cases hj; exact Nat.le_refl _)
          have hy5 : w5.cell? ⟨p1, o1 + k, none⟩ = some (.int .i64 (z1.getD k 0)) := (hnx5.cell (p := ⟨p1, o1 + k, none⟩) hp1).trans (hc1 k (by omega))
          obtain ⟨w6, hrun6, hown6, hg6⟩ := hown25.update law3 Trym.underlying30 (by unfold maxLen; omega) (keyOf_int_mk Trym.underlying3 (HW1.out k)) (plainElem_bool Trym.underlying4 true)
          have HO1 := (show Hid _ from hown5.kept hg6 (fun e => by have := Option.some.inj e; omega))
          have HO2 := (show Hid _ from hown6)
          have HB6 := (show Hid _ from hnx5.grown hg6 hnx5.size (fun j hj => by cases hj; exact Nat.le_succ _))
          have HS6 : Hid (SetIs (D1.put (.int .i64 (z0.getD k 0)) (.lit (.bool true))) (seen (fun j => z0.getD j 0) (k + 1)) ∧ SetIs (D2.put (.int .i64 (z1.getD k 0)) (.lit (.bool true))) (seen (fun j => z1.getD j 0) (k + 1)) ∧ Distinct (fun j => z0.getD j 0) (k + 1) ∧ Distinct (fun j => z1.getD j 0) (k + 1)) :=
            ⟨setIs_put HS.out.1 _, setIs_put HS.out.2.1 _, distinct_succ HS.out.2.2.1 hsx, distinct_succ HS.out.2.2.2 hsy⟩
          clear hsx hsy hc0 hc1 hown1 hown2 hnx hown5 hown25 hg5 hg6 hown6 hnx5 HS
          generalize z0.getD k 0 = x at hx hlx hrun5 HO1 HS6
          generalize z1.getD k 0 = y at hy hly hy5 hrun6 HO2 HS6
          go_wp2
          go_roundw
          case rel => exact ⟨k + 1, _, _, by omega, by go_num, HO1.out, HO2.out, HS6, HB6.out⟩
          case measure => simp [intOf]; omega
    · obtain rfl : k = n := by omega
      have HN := (show Hid _ from hnx)
      clear hown1 hown2 hnx
      go_wp2
      go_ret
      exact ⟨true, rfl, fun _ => HS.out.2.2, HN.out⟩

end Go.Proofs.Qxb6001187aMods
