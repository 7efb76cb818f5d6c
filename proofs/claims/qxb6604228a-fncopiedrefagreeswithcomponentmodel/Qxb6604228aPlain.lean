/- Signs of a string by their places; the plain law of matchSyntax. -/
import Derived.WalkKit
import Derived.WalkSpells
import Derived.Lib.Strings
import Derived.Lib.IndexBytes
set_option linter.unusedVariables false
namespace Go.Proofs.Qxb6604228a.Syn

/-- the sign at place k, as a number -/
def fb (s : ByteArray) (k : Nat) : Nat := if h : k < s.size then s[k].toNat else 0
theorem fb_at (s : ByteArray) (k : Nat) (h : k < s.size) : fb s k = s[k].toNat := dif_pos h
theorem fb_past (s : ByteArray) (k : Nat) (h : s.size ≤ k) : fb s k = 0 := dif_neg (by omega)
theorem fb_list (s : ByteArray) (k : Nat) : fb s k = (s.data.toList[k]?.getD 0).toNat := by
  by_cases h : k < s.size
  · rw [fb_at s k h, Lib.data_getElem? s k h]; rfl
  · unfold fb
    rw [dif_neg h, List.getElem?_eq_none (by rw [← Lib.size_eq]; omega)]; rfl

/-- two signs stand next to each other -/
def Pair (s : ByteArray) (a b : Nat) : Prop := ∃ i, i + 1 < s.size ∧ fb s i = a ∧ fb s (i + 1) = b

/-- the bytes as they stand in the buffer: as in s, but for a '!' behind a '[' that has become '^' -/
structure Turned (s : ByteArray) (L : List UInt8) : Prop where
  len : L.length = s.size
  at_ : ∀ j, j < s.size → (L.getD j 0).toNat = fb s j ∨ ((L.getD j 0).toNat = 94 ∧ fb s j = 33 ∧ 1 ≤ j ∧ fb s (j - 1) = 91)

theorem Turned.start (s : ByteArray) : Turned s s.data.toList := ⟨(Lib.size_eq s).symm, fun j hj => .inl (by rw [fb_list]; rfl)⟩

theorem Turned.is {s : ByteArray} {L : List UInt8} (h : Turned s L) {j n : Nat} (hj : j < s.size) (hn : (L.getD j 0).toNat = n) (h94 : n ≠ 94) : fb s j = n := by
  rcases h.at_ j hj with e | e
  · rw [← e]; exact hn
  · exact absurd (hn.symm.trans e.1) h94

theorem Turned.turn {s : ByteArray} {L : List UInt8} {i : Nat} (h : Turned s L) (hi : i + 1 < s.size) (h1 : (L.getD i 0).toNat = 91) (h2 : (L.getD (i + 1) 0).toNat = 33) : Turned s (L.set (i + 1) 94) := by
  refine ⟨by rw [List.length_set]; exact h.len, fun j hj => ?_⟩
  by_cases e : j = i + 1
  · subst e
    right
    refine ⟨?_, h.is hj h2 (by decide), by omega, ?_⟩
    · rw [List.getD_eq_getElem?_getD, List.getElem?_set_self (by rw [h.len]; exact hi)]; rfl
    · exact h.is (by omega) (by rw [show i + 1 - 1 = i by omega]; exact h1) (by decide)
  · rw [List.getD_eq_getElem?_getD, List.getElem?_set_ne (fun e2 => e e2.symm), ← List.getD_eq_getElem?_getD]
    exact h.at_ j hj

/-- where no '[' stands ahead of a '!' nothing has been turned -/
theorem Turned.same {s : ByteArray} {L : List UInt8} (h : Turned s L) (hno : ¬ Pair s 91 33) : L = s.data.toList := by
  apply List.ext_getElem?
  intro j
  have hl := h.len
  have hz := Lib.size_eq s
  by_cases hj : j < s.size
  · rw [List.getElem?_eq_getElem (by omega), List.getElem?_eq_getElem (by omega)]
    have e : (L.getD j 0).toNat = fb s j := by
      rcases h.at_ j hj with e | ⟨_, e1, e2, e3⟩
      · exact e
      · exact absurd ⟨j - 1, by omega, e3, by rw [show j - 1 + 1 = j by omega]; exact e1⟩ hno
    rw [fb_list, List.getD_eq_getElem?_getD, List.getElem?_eq_getElem (by omega), List.getElem?_eq_getElem (by omega)] at e
    exact congrArg some (UInt8.toNat_inj.1 e)
  · rw [List.getElem?_eq_none (by omega), List.getElem?_eq_none (by omega)]

/-- s opens with a class whose first member is a named class -/
def Opens (s : ByteArray) : Prop := fb s 0 = 91 ∧ fb s 1 = 91 ∧ fb s 2 = 58

/-- how far the loop can have come in such a pattern -/
def Early (s : ByteArray) (i : Nat) (c : Bool) : Prop := Opens s → (i = 0 ∧ c = false) ∨ (i = 1 ∧ c = true)

theorem Opens.size {s : ByteArray} (h : Opens s) : 3 ≤ s.size := by
  rcases Nat.lt_or_ge 2 s.size with e | e
  · exact e
  · have := h.2.2; rw [fb_past s 2 e] at this; cases this

end Go.Proofs.Qxb6604228a.Syn
