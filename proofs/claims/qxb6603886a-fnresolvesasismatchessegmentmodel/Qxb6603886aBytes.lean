/- Signs of a string by their places; pieces of one string compared. -/
import Derived.WalkKit
import Derived.WalkSpells
import Derived.Lib.Strings
import Derived.Lib.IndexBytes
set_option linter.unusedVariables false
namespace Go.Proofs.Qxb6603886a.Rep

/-- the sign at place k, as a number -/
def fb (s : ByteArray) (k : Nat) : Nat := if h : k < s.size then s[k].toNat else 0
theorem fb_at (s : ByteArray) (k : Nat) (h : k < s.size) : fb s k = s[k].toNat := dif_pos h

theorem fb_list (s : ByteArray) (k : Nat) : fb s k = (s.data.toList[k]?.getD 0).toNat := by
  by_cases h : k < s.size
  · rw [fb_at s k h, Lib.data_getElem? s k h]; rfl
  · unfold fb
    rw [dif_neg h, List.getElem?_eq_none (by rw [← Lib.size_eq]; omega)]; rfl

theorem piece_iff (s : ByteArray) (a b n : Nat) (ha : a + n ≤ s.size) (hb : b + n ≤ s.size) :
    ((s.extract a (a + n)).toList == (s.extract b (b + n)).toList) = true ↔ ∀ u, u < n → fb s (a + u) = fb s (b + u) := by
  have hz := Lib.size_eq s
  rw [Lib.extract_toList, Lib.extract_toList, beq_iff_eq]
  constructor
  · intro h u hu
    rw [fb_list, fb_list]
    have h2 := congrArg (fun l : List UInt8 => l[u]?) h
    simp only [List.getElem?_take, List.getElem?_drop] at h2
    rw [if_pos (by omega), if_pos (by omega)] at h2
    rw [h2]
  · intro h
    apply List.ext_getElem?
    intro u
    simp only [List.getElem?_take, List.getElem?_drop]
    by_cases hu : u < n
    · rw [if_pos (by omega), if_pos (by omega)]
      have h2 := h u hu
      rw [fb_list, fb_list] at h2
      rw [List.getElem?_eq_getElem (by omega), List.getElem?_eq_getElem (by omega)] at h2 ⊢
      exact congrArg some (UInt8.toNat_inj.1 h2)
    · rw [if_neg (by omega), if_neg (by omega)]

end Go.Proofs.Qxb6603886a.Rep
