/- What a map of integers holds, key by key: no Go text in sight. -/
import Derived.Maps.RangeWalk
import Derived.Maps.OwnSet
namespace Go.Proofs.Qxb6001187aMods
open Go.Maps

/-- The datum D, a map keyed by int, holds just the entries of f. -/
structure MapIs (D : DataW Unit) (f : Int → Option Int) : Prop where
  isMap : Maps.IsMap D
  yes : ∀ x v, f x = some v → ∀ z, D.atKey (.int .i64 x) z = .lit (.int .i64 v)
  no : ∀ x, f x = none → Maps.has D (.int .i64 x) = false

theorem mapIs_empty : MapIs (.map []) (fun _ => none) := ⟨Maps.isMap_empty, (fun _ _ h => by cases h), fun _ _ => rfl⟩

theorem lit_ne {a b : Int} (h : a ≠ b) : (Lit.int .i64 a) ≠ .int .i64 b := fun e => h (by cases e; rfl)

theorem mapIs_put {D : DataW Unit} {f : Int → Option Int} (h : MapIs D f) (a b : Int) : MapIs (D.put (.int .i64 a) (.lit (.int .i64 b))) (fun x => if x = a then some b else f x) := by
  refine ⟨h.isMap.put _ _, fun x v hx z => ?_, fun x hx => ?_⟩
  · by_cases e : x = a
    · subst e
      rw [if_pos rfl] at hx
      cases hx
      exact Maps.atKey_put_same h.isMap (show WideAt.IsKeyLit (.int .i64 x) from trivial) _ _
    · rw [if_neg e] at hx
      rw [Maps.atKey_put_other (lit_ne e)]
      exact h.yes x v hx z
  · by_cases e : x = a
    · rw [if_pos e] at hx; cases hx
    · rw [if_neg e] at hx
      rw [Maps.has_put_other (lit_ne e)]
      exact h.no x hx

theorem MapIs.has {D : DataW Unit} {f : Int → Option Int} (h : MapIs D f) {x v : Int} (hx : f x = some v) : Maps.has D (.int .i64 x) = true := Maps.has_true_of_atKey (h.yes x v hx)

/-- An entry that the range meets is one of f's. -/
theorem MapIs.met {D : DataW Unit} {f : Int → Option Int} (h : MapIs D f) {x c : Int} (hat : ∀ z, D.atKey (.int .i64 x) z = .lit (.int .i64 c)) : f x = some c := by
  cases hf : f x with
  | none =>
    have h1 := h.no x hf
    rw [Maps.has_true_of_atKey hat] at h1
    cases h1
  | some v =>
    have h1 := h.yes x v hf (.lit (.int .i64 0))
    rw [hat] at h1
    cases h1
    rfl

/-- The map after k stores 'm[ks[i]] = vs[i]'. -/
def fill (ks vs : Nat → Int) : Nat → Int → Option Int
  | 0 => fun _ => none
  | k + 1 => fun x => if x = ks k then some (vs k) else fill ks vs k x

/-- Every entry was stored. -/
theorem fill_from {ks vs : Nat → Int} : ∀ {n : Nat} {x v : Int}, fill ks vs n x = some v → ∃ i, i < n ∧ ks i = x ∧ vs i = v
  | 0, x, v, h => by cases h
  | n + 1, x, v, h => by
    unfold fill at h
    by_cases e : x = ks n
    · rw [if_pos e] at h
      cases h
      exact ⟨n, by omega, e.symm, rfl⟩
    · rw [if_neg e] at h
      obtain ⟨i, hi, h1, h2⟩ := fill_from h
      exact ⟨i, by omega, h1, h2⟩

/-- Every stored key is there. -/
theorem fill_has {ks vs : Nat → Int} : ∀ {n i : Nat}, i < n → ∃ v, fill ks vs n (ks i) = some v
  | 0, i, h => by omega
  | n + 1, i, h => by
    unfold fill
    by_cases e : ks i = ks n
    · exact ⟨vs n, by rw [if_pos e]⟩
    · rw [if_neg e]
      exact fill_has (Nat.lt_of_le_of_ne (by omega) (fun e' => e (by rw [e'])))

/-- Where the keys are distinct each key keeps its value. -/
theorem fill_distinct {ks vs : Nat → Int} : ∀ {n i : Nat}, i < n → (∀ a b, a < n → b < n → ks a = ks b → a = b) → fill ks vs n (ks i) = some (vs i)
  | 0, i, h, _ => by omega
  | n + 1, i, h, hd => by
    unfold fill
    by_cases e : ks i = ks n
    · have := hd i n h (by omega) e
      subst this
      rw [if_pos rfl]
    · rw [if_neg e]
      exact fill_distinct (Nat.lt_of_le_of_ne (by omega) (fun e' => e (by rw [e']))) (fun a b ha hb => hd a b (by omega) (by omega))

/-- What opMappedTo answers over the map f. -/
def Answers (f : Int → Option Int) (op x : Int) (ok : Bool) : Prop :=
  (ok = true ∧ f x = some op) ∨ (ok = false ∧ x = 0 ∧ ∀ y, f y ≠ some op)

end Go.Proofs.Qxb6001187aMods
