/- bits of 64-bit words, in the walk's own spelling -/
import Derived.WalkKit
import Derived.Laws.Bits64
set_option linter.unusedVariables false
namespace Go.Proofs.Qxb6603886a.Kept

theorem ofInt_nat (a : Nat) (h : a < 18446744073709551616) : (BitVec.ofInt 64 (a : Int)).toNat = a := by
  rw [BitVec.ofInt_natCast, BitVec.toNat_ofNat]; exact Nat.mod_eq_of_lt (by omega)

theorem and_u64 (a b : Nat) (ha : a < 18446744073709551616) (hb : b < 18446744073709551616) : bits .and .u64 (a : Int) (b : Int) = ((a &&& b : Nat) : Int) := by
  have hx : a &&& b < 2 ^ 64 := Nat.and_lt_two_pow _ (by omega)
  show IntKind.u64.wrap ((BitVec.ofInt 64 (a : Int) &&& BitVec.ofInt 64 (b : Int)).toNat : Int) = _
  rw [BitVec.toNat_and, ofInt_nat a ha, ofInt_nat b hb, IntKind.wrap_u64]
  omega

theorem andNot_u64 (a b : Nat) (ha : a < 18446744073709551616) (hb : b < 18446744073709551616) (h : (bits .andNot .u64 (a : Int) (b : Int) != 0) = false) (t : Nat) (ht : a.testBit t = true) : b.testBit t = true := by
  have h2 : bits .andNot .u64 (a : Int) (b : Int) = 0 := by simpa using h
  have h3 : IntKind.u64.wrap ((BitVec.ofInt 64 (a : Int) &&& ~~~ BitVec.ofInt 64 (b : Int)).toNat : Int) = 0 := h2
  rw [IntKind.wrap_u64] at h3
  have lt := (BitVec.ofInt 64 (a : Int) &&& ~~~ BitVec.ofInt 64 (b : Int)).isLt
  have h4 : (BitVec.ofInt 64 (a : Int) &&& ~~~ BitVec.ofInt 64 (b : Int)).toNat = 0 := by omega
  have h5 : BitVec.ofInt 64 (a : Int) &&& ~~~ BitVec.ofInt 64 (b : Int) = 0#64 := BitVec.eq_of_toNat_eq (by rw [h4]; rfl)
  have h6 := congrArg (fun x : BitVec 64 => x.getLsbD t) h5
  have t64 : t < 64 := by
    rcases Nat.lt_or_ge t 64 with e | e
    · exact e
    · rw [Nat.testBit_lt_two_pow (Nat.lt_of_lt_of_le ha (by have := Nat.pow_le_pow_right (show 0 < 2 by decide) e; omega))] at ht; cases ht
  simp only [BitVec.getLsbD_and, BitVec.getLsbD_not, BitVec.getLsbD_zero, t64, decide_true, Bool.true_and] at h6
  have g : ∀ c : Nat, c < 18446744073709551616 → (BitVec.ofInt 64 (c : Int)).getLsbD t = c.testBit t := by
    intro c hc
    rw [← BitVec.testBit_toNat, ofInt_nat c hc]
  rw [g a ha, g b hb, ht] at h6
  simpa using h6

/-- '(m >> slot) & 1 != 0' -/
theorem shr_test (m k : Nat) (hm : m < 18446744073709551616) : (bits .and .u64 ((m : Int) / 2 ^ min k 64) 1 != 0) = m.testBit k := by
  have e : ((m : Int) / 2 ^ min k 64) = ((m / 2 ^ min k 64 : Nat) : Int) := by
    rw [Int.natCast_ediv, Int.natCast_pow]; rfl
  have lt : m / 2 ^ min k 64 < 18446744073709551616 := Nat.lt_of_le_of_lt (Nat.div_le_self _ _) hm
  rw [e, show (1 : Int) = ((1 : Nat) : Int) from rfl, and_u64 _ 1 lt (by decide), Nat.and_one_is_mod]
  by_cases hk : k < 64
  · rw [Nat.min_eq_left (by omega), Nat.testBit_eq_decide_div_mod_eq]
    have := Nat.mod_two_eq_zero_or_one (m / 2 ^ k)
    rcases this with h | h <;> rw [h] <;> rfl
  · rw [Nat.min_eq_right (by omega), Nat.div_eq_of_lt (by omega)]
    rw [Nat.testBit_lt_two_pow (Nat.lt_of_lt_of_le hm (by have := Nat.pow_le_pow_right (show 0 < 2 by decide) (show 64 ≤ k by omega); omega))]
    rfl

theorem and_pow (m k : Nat) : (m &&& 2 ^ k = 0) ↔ m.testBit k = false := by
  constructor
  · intro h
    have := congrArg (fun x => x.testBit k) h
    simpa [Nat.testBit_and, Nat.testBit_two_pow] using this
  · intro h
    apply Nat.eq_of_testBit_eq
    intro i
    rw [Nat.testBit_and, Nat.testBit_two_pow, Nat.zero_testBit]
    by_cases e : k = i
    · subst e; rw [h]; rfl
    · simp [e]

/-- 'm & (1 << slot) != 0' -/
theorem shl_ne (m k : Nat) (hm : m < 18446744073709551616) : (bits .and .u64 (m : Int) (IntKind.u64.wrap (2 ^ min k 64)) != 0) = m.testBit k := by
  by_cases hk : k < 64
  · have lt : 2 ^ k < 18446744073709551616 := by
      have := Nat.pow_lt_pow_right (show 1 < 2 by decide) hk
      omega
    have e : IntKind.u64.wrap (2 ^ min k 64) = ((2 ^ k : Nat) : Int) := by
      rw [Nat.min_eq_left (by omega), IntKind.wrap_u64, Int.natCast_pow]
      apply Int.emod_eq_of_lt
      · exact Int.pow_nonneg (by decide)
      · have : ((2 ^ k : Nat) : Int) < 18446744073709551616 := by omega
        rw [Int.natCast_pow] at this; exact this
    rw [e, and_u64 m _ hm lt]
    have key := and_pow m k
    cases ht : m.testBit k with
    | false => rw [key.2 ht]; rfl
    | true =>
      rw [bne_iff_ne]
      intro h0
      have : m &&& 2 ^ k = 0 := by omega
      rw [key.1 this] at ht; cases ht
  · have e : IntKind.u64.wrap (2 ^ min k 64) = ((0 : Nat) : Int) := by
      rw [Nat.min_eq_right (by omega)]; decide
    rw [e, and_u64 m 0 hm (by decide), Nat.testBit_lt_two_pow (Nat.lt_of_lt_of_le hm (by have := Nat.pow_le_pow_right (show 0 < 2 by decide) (show 64 ≤ k by omega); omega))]
    simp

theorem shl_eq (m k : Nat) (hm : m < 18446744073709551616) : (bits .and .u64 (m : Int) (IntKind.u64.wrap (2 ^ min k 64)) == 0) = !m.testBit k := by
  rw [← shl_ne m k hm]; simp [bne]

end Go.Proofs.Qxb6603886a.Kept
