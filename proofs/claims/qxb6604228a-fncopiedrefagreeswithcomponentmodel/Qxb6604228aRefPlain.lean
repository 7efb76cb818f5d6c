/- The plain law of copiedRef: lists alone. -/
set_option linter.unusedVariables false
namespace Go.Proofs.Qxb6604228a.Ref

/-- the names' common head -/
def refs : List UInt8 := [114, 101, 102, 115, 47]

theorem pre_head (D W : List UInt8) (h : (refs ++ W ++ [47]).isPrefixOf D = true) : 5 ≤ D.length ∧ D.take 5 = refs := by
  obtain ⟨t, ht⟩ := List.isPrefixOf_iff_prefix.1 h
  subst ht
  refine ⟨by simp [refs], ?_⟩
  rw [List.append_assoc, List.append_assoc, List.take_append_of_le_length (by simp [refs])]
  rfl

theorem pre_rest (D W : List UInt8) (hD : D.take 5 = refs) : (refs ++ W ++ [47]).isPrefixOf D = true ↔ ∃ t, D.drop 5 = W ++ 47 :: t := by
  rw [List.isPrefixOf_iff_prefix]
  have hs : D = refs ++ D.drop 5 := by rw [← hD, List.take_append_drop]
  constructor
  · rintro ⟨t, ht⟩
    refine ⟨t, ?_⟩
    rw [← ht]
    simp [refs]
  · rintro ⟨t, ht⟩
    refine ⟨t, ?_⟩
    rw [hs, ht]
    simp

/-- j is the place of R's first slash -/
theorem word_iff (R W : List UInt8) (hW : ∀ x ∈ W, x ≠ 47) (j : Nat) (hj : R[j]? = some 47) (hno : ∀ t, t < j → R[t]? ≠ some 47) : (∃ t, R = W ++ 47 :: t) ↔ R.take j = W := by
  constructor
  · rintro ⟨t, rfl⟩
    have e : j = W.length := by
      rcases Nat.lt_trichotomy j W.length with h | h | h
      · rw [List.getElem?_append_left h, List.getElem?_eq_getElem h] at hj
        exact absurd (Option.some.inj hj) (hW _ (List.getElem_mem h))
      · exact h
      · exact absurd (by simp) (hno W.length h)
    rw [e]; simp
  · intro h
    have hl : j < R.length := by
      rcases Nat.lt_or_ge j R.length with h1 | h1
      · exact h1
      · rw [List.getElem?_eq_none h1] at hj; cases hj
    refine ⟨R.drop (j + 1), ?_⟩
    rw [← h]
    have e := List.drop_eq_getElem_cons hl
    rw [List.getElem?_eq_getElem hl] at hj
    rw [Option.some.inj hj] at e
    rw [← e, List.take_append_drop]

theorem no_word (R W : List UInt8) (hno : ∀ t : Nat, R[t]? ≠ some 47) : ¬ ∃ t, R = W ++ 47 :: t := by
  rintro ⟨t, rfl⟩
  exact hno W.length (by simp)

end Go.Proofs.Qxb6604228a.Ref
