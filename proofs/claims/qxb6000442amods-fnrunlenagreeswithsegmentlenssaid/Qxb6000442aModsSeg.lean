/- Plain mathematics of segments: no Go in sight. -/
namespace Go.Proofs.Qxb6000442aMods.Seg

/-- What the loop of segmentLens has gathered after k tags of L: the closed segments' lengths, and how many tags the open one holds. -/
def st (tz : Nat → Bool) (L : Nat) : Nat → List Nat × Nat
  | 0 => ([], 0)
  | k + 1 => if tz k = true ∨ (st tz L k).2 + 1 = 32 ∨ k + 1 = L then ((st tz L k).1 ++ [(st tz L k).2 + 1], 0) else ((st tz L k).1, (st tz L k).2 + 1)

def lens (tz : Nat → Bool) (L : Nat) : List Nat := (st tz L L).1

/-- The place where segment i begins. -/
def off (ls : List Nat) (i : Nat) : Nat := (ls.take i).sum

theorem st_close {tz : Nat → Bool} {L k : Nat} (h : tz k = true ∨ (st tz L k).2 + 1 = 32 ∨ k + 1 = L) : st tz L (k + 1) = ((st tz L k).1 ++ [(st tz L k).2 + 1], 0) := by
  rw [st]; exact if_pos h

theorem st_open {tz : Nat → Bool} {L k : Nat} (h : ¬ (tz k = true ∨ (st tz L k).2 + 1 = 32 ∨ k + 1 = L)) : st tz L (k + 1) = ((st tz L k).1, (st tz L k).2 + 1) := by
  rw [st]; exact if_neg h

theorem st_sum (tz : Nat → Bool) (L k : Nat) : (st tz L k).1.sum + (st tz L k).2 = k := by
  induction k with
  | zero => rfl
  | succ k ih =>
    by_cases h : tz k = true ∨ (st tz L k).2 + 1 = 32 ∨ k + 1 = L
    · rw [st_close h]; simp; omega
    · rw [st_open h]; simp; omega

theorem st_lt (tz : Nat → Bool) (L k : Nat) : (st tz L k).2 < 32 := by
  induction k with
  | zero => simp [st]
  | succ k ih =>
    by_cases h : tz k = true ∨ (st tz L k).2 + 1 = 32 ∨ k + 1 = L
    · rw [st_close h]; simp
    · rw [st_open h]; simp; omega

theorem st_len (tz : Nat → Bool) (L k : Nat) : (st tz L k).1.length ≤ k := by
  induction k with
  | zero => simp [st]
  | succ k ih =>
    by_cases h : tz k = true ∨ (st tz L k).2 + 1 = 32 ∨ k + 1 = L
    · rw [st_close h]; simp; omega
    · rw [st_open h]; simp; omega

/-- Of the open segment no tag is masked. -/
theorem st_none (tz : Nat → Bool) (L k : Nat) : ∀ j, (st tz L k).1.sum ≤ j → j < k → tz j = false := by
  induction k with
  | zero => intro j _ h; omega
  | succ k ih =>
    intro j h1 h2
    have hs := st_sum tz L k
    by_cases h : tz k = true ∨ (st tz L k).2 + 1 = 32 ∨ k + 1 = L
    · rw [st_close h] at h1; simp at h1; omega
    · rw [st_open h] at h1
      by_cases e : j = k
      · subst e
        cases ht : tz j
        · rfl
        · exact absurd (Or.inl ht) h
      · exact ih j h1 (by omega)

theorem st_end (tz : Nat → Bool) (L : Nat) : (st tz L L).2 = 0 := by
  cases L with
  | zero => rfl
  | succ k => rw [st_close (Or.inr (Or.inr rfl))]

theorem st_mono (tz : Nat → Bool) (L : Nat) {j k : Nat} (h : j ≤ k) : (st tz L j).1 <+: (st tz L k).1 := by
  induction k with
  | zero => rw [show j = 0 by omega]; exact List.prefix_refl _
  | succ k ih =>
    by_cases e : j = k + 1
    · rw [e]; exact List.prefix_refl _
    · refine (ih (by omega)).trans ?_
      by_cases h : tz k = true ∨ (st tz L k).2 + 1 = 32 ∨ k + 1 = L
      · rw [st_close h]; exact List.prefix_append _ _
      · rw [st_open h]; exact List.prefix_refl _

theorem lens_sum (tz : Nat → Bool) (L : Nat) : (lens tz L).sum = L := by
  have h := st_sum tz L L
  rw [st_end] at h
  exact h

theorem lens_len (tz : Nat → Bool) (L : Nat) : (lens tz L).length ≤ L := st_len tz L L

theorem off_succ (ls : List Nat) (i : Nat) (h : i < ls.length) : off ls (i + 1) = off ls i + ls.getD i 0 := by
  unfold off
  rw [List.take_succ_eq_append_getElem h, List.sum_append, List.getD_eq_getElem?_getD, List.getElem?_eq_getElem h]
  simp

theorem off_all (ls : List Nat) : off ls ls.length = ls.sum := by unfold off; rw [List.take_length]

theorem off_le (ls : List Nat) (i : Nat) : off ls i ≤ ls.sum := by
  unfold off
  have h : (ls.take i ++ ls.drop i).sum = ls.sum := by rw [List.take_append_drop]
  rw [List.sum_append] at h
  omega

/-- What a closed segment is, at the place i of the list ls, in the first k tags of L. -/
def Fine (tz : Nat → Bool) (L : Nat) (ls : List Nat) (i : Nat) : Prop :=
  1 ≤ ls.getD i 0 ∧ ls.getD i 0 ≤ 32 ∧ (∀ j, off ls i ≤ j → j + 1 < off ls i + ls.getD i 0 → tz j = false) ∧ (tz (off ls i + ls.getD i 0 - 1) = true ∨ ls.getD i 0 = 32 ∨ off ls i + ls.getD i 0 = L)

theorem fine_append {tz : Nat → Bool} {L : Nat} {ls : List Nat} {i n : Nat} (hi : i < ls.length) (h : Fine tz L ls i) : Fine tz L (ls ++ [n]) i := by
  have e1 : off (ls ++ [n]) i = off ls i := by unfold off; rw [List.take_append_of_le_length (by omega)]
  have e2 : (ls ++ [n]).getD i 0 = ls.getD i 0 := by simp [List.getD_eq_getElem?_getD, List.getElem?_append_left hi]
  unfold Fine
  rw [e1, e2]; exact h

theorem st_fine (tz : Nat → Bool) (L k : Nat) : ∀ i, i < (st tz L k).1.length → Fine tz L (st tz L k).1 i := by
  induction k with
  | zero => intro i h; exact absurd h (by simp [st])
  | succ k ih =>
    intro i hi
    have hs := st_sum tz L k
    have hl := st_lt tz L k
    have hn := st_none tz L k
    by_cases h : tz k = true ∨ (st tz L k).2 + 1 = 32 ∨ k + 1 = L
    · rw [st_close h] at hi ⊢
      simp only [List.length_append, List.length_singleton] at hi
      by_cases e : i < (st tz L k).1.length
      · exact fine_append e (ih i e)
      · have e' : i = (st tz L k).1.length := by omega
        subst e'
        have e1 : off ((st tz L k).1 ++ [(st tz L k).2 + 1]) (st tz L k).1.length = (st tz L k).1.sum := by unfold off; simp
        have e2 : ((st tz L k).1 ++ [(st tz L k).2 + 1]).getD (st tz L k).1.length 0 = (st tz L k).2 + 1 := by simp [List.getD_eq_getElem?_getD]
        unfold Fine
        simp only [e1, e2]
        refine ⟨by omega, by omega, fun j h1 h2 => hn j h1 (by omega), ?_⟩
        rw [show (st tz L k).1.sum + ((st tz L k).2 + 1) - 1 = k by omega]
        rcases h with h | h | h
        · exact .inl h
        · exact .inr (.inl h)
        · exact .inr (.inr (by omega))
    · rw [st_open h] at hi ⊢
      exact ih i hi

theorem lens_fine (tz : Nat → Bool) (L i : Nat) (h : i < (lens tz L).length) : Fine tz L (lens tz L) i := st_fine tz L L i h

theorem off_lens_le (tz : Nat → Bool) (L i : Nat) (h : i < (lens tz L).length) : off (lens tz L) i + (lens tz L).getD i 0 ≤ L := by
  rw [← off_succ _ _ h]
  have := off_le (lens tz L) (i + 1)
  rw [lens_sum] at this
  exact this

/-- Every segment but the last ends on a masked tag, or is full. -/
theorem lens_mid (tz : Nat → Bool) (L i : Nat) (h : i + 1 < (lens tz L).length) : tz (off (lens tz L) i + (lens tz L).getD i 0 - 1) = true ∨ (lens tz L).getD i 0 = 32 := by
  obtain ⟨_, _, _, h4⟩ := lens_fine tz L i (by omega)
  rcases h4 with h4 | h4 | h4
  · exact .inl h4
  · exact .inr h4
  · have a := off_lens_le tz L (i + 1) h
    rw [off_succ _ _ (by omega : i < (lens tz L).length)] at a
    have b := (lens_fine tz L (i + 1) h).1
    omega

/-- runLen stands at n with the first (st n).1 segments closed: where it has closed all that were asked, n is their sum. -/
theorem run_sum (tz : Nat → Bool) (L n : Nat) (hn : n ≤ L) (h0 : (st tz L n).2 = 0) : off (lens tz L) (st tz L n).1.length = n := by
  have hp : (st tz L n).1 <+: lens tz L := st_mono tz L hn
  have hs := st_sum tz L n
  unfold off
  rw [← List.prefix_iff_eq_take.1 hp]
  omega

theorem run_len (tz : Nat → Bool) (L n : Nat) (hn : n ≤ L) : (st tz L n).1.length ≤ (lens tz L).length := (st_mono tz L hn).length_le

end Go.Proofs.Qxb6000442aMods.Seg
