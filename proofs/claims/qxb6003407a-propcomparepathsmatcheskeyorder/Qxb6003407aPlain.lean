/- The plain law of comparePaths: lists of numbers, no Go in sight. -/
set_option linter.unusedVariables false
namespace Go.Proofs.Qxb6003407a.Cmp

/-- the sign of a number -/
def sgn (x : Int) : Int := if x < 0 then -1 else if 0 < x then 1 else 0

theorem sgn_range (x : Int) : sgn x = -1 ∨ sgn x = 0 ∨ sgn x = 1 := by unfold sgn; split <;> (try split) <;> simp
theorem sgn_zero (x : Int) : sgn x = 0 ↔ x = 0 := by unfold sgn; split <;> (try split) <;> omega
theorem sgn_le (x : Int) : sgn x ≤ 0 ↔ x ≤ 0 := by unfold sgn; split <;> (try split) <;> omega
theorem sgn_of {x y : Int} (h : y = -1 ∨ y = 0 ∨ y = 1) (e : sgn x = y) : sgn y = y := by
  rcases h with rfl | rfl | rfl <;> rfl

/-- the order of lists: by the first number that differs; one that begins the other first -/
def cmpL : List Nat → List Nat → Int
  | [], [] => 0
  | [], _ :: _ => -1
  | _ :: _, [] => 1
  | a :: x, b :: y => if a < b then -1 else if b < a then 1 else cmpL x y

theorem cmpL_range : ∀ x y : List Nat, cmpL x y = -1 ∨ cmpL x y = 0 ∨ cmpL x y = 1
  | [], [] => by simp [cmpL]
  | [], _ :: _ => by simp [cmpL]
  | _ :: _, [] => by simp [cmpL]
  | a :: x, b :: y => by
    rw [cmpL]
    split
    · simp
    · split
      · simp
      · exact cmpL_range x y

theorem cmpL_neg : ∀ x y : List Nat, cmpL x y = - cmpL y x
  | [], [] => rfl
  | [], _ :: _ => rfl
  | _ :: _, [] => rfl
  | a :: x, b :: y => by
    rw [cmpL, cmpL]
    by_cases h1 : a < b
    · rw [if_pos h1, if_neg (by omega), if_pos h1]
    · by_cases h2 : b < a
      · rw [if_neg h1, if_pos h2, if_pos h2]; rfl
      · rw [if_neg h1, if_neg h2, if_neg h2, if_neg h1]; exact cmpL_neg x y

theorem cmpL_zero : ∀ x y : List Nat, cmpL x y = 0 ↔ x = y
  | [], [] => by simp [cmpL]
  | [], _ :: _ => by simp [cmpL]
  | _ :: _, [] => by simp [cmpL]
  | a :: x, b :: y => by
    rw [cmpL]
    by_cases h1 : a < b
    · rw [if_pos h1]; constructor
      · intro h; cases h
      · intro h; cases h; omega
    · by_cases h2 : b < a
      · rw [if_neg h1, if_pos h2]; constructor
        · intro h; cases h
        · intro h; cases h; omega
      · rw [if_neg h1, if_neg h2, cmpL_zero x y]
        have : a = b := by omega
        subst this
        simp

theorem cmpL_trans : ∀ x y z : List Nat, cmpL x y ≤ 0 → cmpL y z ≤ 0 → cmpL x z ≤ 0
  | [], _, [], _, _ => by simp [cmpL]
  | [], _, _ :: _, _, _ => by simp [cmpL]
  | _ :: _, [], _, h, _ => by simp [cmpL] at h
  | _ :: _, _ :: _, [], _, h => by simp [cmpL] at h
  | a :: x, b :: y, c :: z, h1, h2 => by
    rw [cmpL] at h1 h2 ⊢
    by_cases e1 : a < b
    · by_cases e2 : c < b
      · rw [if_neg (by omega), if_pos e2] at h2; omega
      · rw [if_pos (by omega)]; omega
    · rw [if_neg e1] at h1
      by_cases e3 : b < a
      · rw [if_pos e3] at h1; omega
      · rw [if_neg e3] at h1
        by_cases e4 : b < c
        · rw [if_pos (by omega)]; omega
        · rw [if_neg e4] at h2
          by_cases e5 : c < b
          · rw [if_pos e5] at h2; omega
          · rw [if_neg e5] at h2
            rw [if_neg (by omega), if_neg (by omega)]
            exact cmpL_trans x y z h1 h2

theorem cmpL_self (x : List Nat) : cmpL x x = 0 := (cmpL_zero x x).2 rfl

/-- numbers that agree at the head are passed over -/
theorem cmpL_drop : ∀ (c : Nat) (x y : List Nat), c ≤ x.length → c ≤ y.length → (∀ t, t < c → x.getD t 0 = y.getD t 0) → cmpL x y = cmpL (x.drop c) (y.drop c)
  | 0, x, y, _, _, _ => rfl
  | c + 1, [], y, h, _, _ => by simp at h
  | c + 1, a :: x, [], _, h, _ => by simp at h
  | c + 1, a :: x, b :: y, h1, h2, h => by
    have e : a = b := h 0 (by omega)
    subst e
    rw [cmpL, if_neg (by omega), if_neg (by omega)]
    exact cmpL_drop c x y (by simpa using h1) (by simpa using h2) fun t ht => h (t + 1) (by omega)

theorem drop_cons (x : List Nat) (c : Nat) (h : c < x.length) : x.drop c = x.getD c 0 :: x.drop (c + 1) := by
  rw [List.drop_eq_getElem_cons h]
  congr 1
  rw [List.getD_eq_getElem?_getD, List.getElem?_eq_getElem h]; rfl

/-- the first place where they differ decides -/
theorem cmpL_differ {x y : List Nat} {c : Nat} (h1 : c < x.length) (h2 : c < y.length) (h : ∀ t, t < c → x.getD t 0 = y.getD t 0) (hne : x.getD c 0 ≠ y.getD c 0) :
    cmpL x y = sgn ((x.getD c 0 : Nat) - (y.getD c 0 : Nat) : Int) := by
  rw [cmpL_drop c x y (by omega) (by omega) h, drop_cons x c h1, drop_cons y c h2, cmpL]
  unfold sgn
  by_cases e : x.getD c 0 < y.getD c 0
  · rw [if_pos e, if_pos (by omega)]
  · rw [if_neg e, if_pos (by omega), if_neg (by omega), if_pos (by omega)]

/-- where one begins the other the lengths decide -/
theorem cmpL_prefix {x y : List Nat} {c : Nat} (h1 : c ≤ x.length) (h2 : c ≤ y.length) (hc : c = x.length ∨ c = y.length) (h : ∀ t, t < c → x.getD t 0 = y.getD t 0) :
    cmpL x y = sgn ((x.length : Int) - (y.length : Int)) := by
  rw [cmpL_drop c x y h1 h2 h]
  unfold sgn
  rcases Nat.lt_trichotomy x.length y.length with e | e | e
  · rw [if_pos (by omega), List.drop_of_length_le (show x.length ≤ c by omega), drop_cons y c (by omega)]; rfl
  · rw [if_neg (by omega), if_neg (by omega), List.drop_of_length_le (show x.length ≤ c by omega), List.drop_of_length_le (show y.length ≤ c by omega)]; rfl
  · rw [if_neg (by omega), if_pos (by omega), List.drop_of_length_le (show y.length ≤ c by omega), drop_cons x c (by omega)]; rfl

/-- the token at place i of the bytes Z -/
def nib (Z : List Nat) (i : Nat) : Nat := if i % 2 = 0 then Z.getD (i / 2) 0 / 16 else Z.getD (i / 2) 0 % 16

/-- the first n tokens of Z -/
def nibs (Z : List Nat) (n : Nat) : List Nat := (List.range n).map (nib Z)

theorem nibs_len (Z : List Nat) (n : Nat) : (nibs Z n).length = n := by simp [nibs]
theorem nibs_at (Z : List Nat) (n i : Nat) (h : i < n) : (nibs Z n).getD i 0 = nib Z i := by
  unfold nibs
  rw [List.getD_eq_getElem?_getD, List.getElem?_map, List.getElem?_range h]; rfl

/-- how many tokens at the start are equal -/
def Lcp (A : List Nat) (na : Nat) (B : List Nat) (nb c : Nat) : Prop :=
  c ≤ na ∧ c ≤ nb ∧ (∀ t, t < c → nib A t = nib B t) ∧ ((c = na ∨ c = nb) ∨ nib A c ≠ nib B c)

theorem lcp_cmp {A B : List Nat} {na nb c : Nat} (h : Lcp A na B nb c) : cmpL (nibs A na) (nibs B nb) = if c < na ∧ c < nb then sgn ((nib A c : Int) - (nib B c : Int)) else sgn ((na : Int) - nb) := by
  obtain ⟨h1, h2, h3, h4⟩ := h
  have hh : ∀ t, t < c → (nibs A na).getD t 0 = (nibs B nb).getD t 0 := by
    intro t ht
    rw [nibs_at A na t (by omega), nibs_at B nb t (by omega)]; exact h3 t ht
  by_cases hc : c < na ∧ c < nb
  · rw [if_pos hc]
    have hne : nib A c ≠ nib B c := by
      rcases h4 with e | e
      · omega
      · exact e
    rw [cmpL_differ (c := c) (by rw [nibs_len]; exact hc.1) (by rw [nibs_len]; exact hc.2) hh (by rw [nibs_at A na c hc.1, nibs_at B nb c hc.2]; exact hne), nibs_at A na c hc.1, nibs_at B nb c hc.2]
  · rw [if_neg hc, cmpL_prefix (c := c) (by rw [nibs_len]; exact h1) (by rw [nibs_len]; exact h2) (by rw [nibs_len, nibs_len]; omega) hh, nibs_len, nibs_len]

/-- two bytes with the same tokens are the same -/
theorem byte_of {a b : Nat} (h1 : a / 16 = b / 16) (h2 : a % 16 = b % 16) : a = b := by omega

/-- the bytes below i agree: so do the tokens below 2i -/
theorem nib_below {A B : List Nat} {i : Nat} (h : ∀ t, t < i → A.getD t 0 = B.getD t 0) : ∀ t, t < 2 * i → nib A t = nib B t := by
  intro t ht
  unfold nib
  rw [h (t / 2) (by omega)]

theorem nib_even (Z : List Nat) (i : Nat) : nib Z (2 * i) = Z.getD i 0 / 16 := by
  unfold nib; rw [if_pos (by omega), show 2 * i / 2 = i by omega]
theorem nib_odd (Z : List Nat) (i : Nat) : nib Z (2 * i + 1) = Z.getD i 0 % 16 := by
  unfold nib; rw [if_neg (by omega), show (2 * i + 1) / 2 = i by omega]

/-- what commonPrefix comes to, when its loop stands at i: the token at 2i is equal, or not, or not there -/
theorem lcp_stop {A B : List Nat} {na nb i : Nat} (h : ∀ t, t < i → A.getD t 0 = B.getD t 0) (hi : i ≤ na / 2) (hi2 : i ≤ nb / 2) (hend : (i = na / 2 ∨ i = nb / 2) ∨ A.getD i 0 ≠ B.getD i 0) :
    (¬ (2 * i < na ∧ 2 * i < nb) → Lcp A na B nb (2 * i)) ∧
    (2 * i < na ∧ 2 * i < nb → nib A (2 * i) ≠ nib B (2 * i) → Lcp A na B nb (2 * i)) ∧
    (2 * i < na ∧ 2 * i < nb → nib A (2 * i) = nib B (2 * i) → Lcp A na B nb (2 * i + 1)) := by
  have hb := nib_below h
  refine ⟨fun hn => ⟨by omega, by omega, hb, .inl (by omega)⟩, fun hn he => ⟨by omega, by omega, hb, .inr he⟩, fun hn he => ⟨by omega, by omega, ?_, ?_⟩⟩
  · intro t ht
    by_cases e : t = 2 * i
    · rw [e]; exact he
    · exact hb t (by omega)
  · by_cases e : 2 * i + 1 = na ∨ 2 * i + 1 = nb
    · exact .inl e
    · right
      rw [nib_odd, nib_odd]
      rw [nib_even, nib_even] at he
      rcases hend with e2 | e2
      · omega
      · exact fun e3 => e2 (byte_of he e3)

/-- the tokens of a key, two to a byte -/
def keyN : List Nat → List Nat
  | [] => []
  | k :: t => k / 16 :: k % 16 :: keyN t

theorem keyN_len : ∀ K : List Nat, (keyN K).length = 2 * K.length
  | [] => rfl
  | k :: t => by simp only [keyN, List.length_cons, keyN_len t]; omega

theorem keyN_get : ∀ (K : List Nat) (i : Nat), i < 2 * K.length → (keyN K).getD i 0 = nib K i
  | [], i, h => by simp at h
  | k :: t, 0, _ => by simp [keyN, nib]
  | k :: t, 1, _ => by simp [keyN, nib]
  | k :: t, i + 2, h => by
    have e := keyN_get t i (by simp at h; omega)
    show (keyN t).getD i 0 = _
    rw [e]
    unfold nib
    have e1 : (i + 2) % 2 = i % 2 := by omega
    have e2 : (i + 2) / 2 = i / 2 + 1 := by omega
    rw [e1, e2]
    rfl

theorem nibs_key (K : List Nat) : nibs K (2 * K.length) = keyN K := by
  apply List.ext_getElem?
  intro i
  by_cases h : i < 2 * K.length
  · have e := keyN_get K i h
    rw [← nibs_at K (2 * K.length) i h, List.getD_eq_getElem?_getD, List.getD_eq_getElem?_getD] at e
    have h1 : i < (nibs K (2 * K.length)).length := by rw [nibs_len]; exact h
    have h2 : i < (keyN K).length := by rw [keyN_len]; exact h
    rw [List.getElem?_eq_getElem h1, List.getElem?_eq_getElem h2] at e ⊢
    exact congrArg some e.symm
  · rw [List.getElem?_eq_none (by rw [nibs_len]; omega), List.getElem?_eq_none (by rw [keyN_len]; omega)]

/-- the order of the tokens is the order of the bytes -/
theorem cmp_key : ∀ K L : List Nat, cmpL (keyN K) (keyN L) = cmpL K L
  | [], [] => rfl
  | [], _ :: _ => rfl
  | _ :: _, [] => rfl
  | a :: x, b :: y => by
    simp only [keyN, cmpL]
    rw [cmp_key x y]
    by_cases h1 : a < b
    · rw [if_pos h1]
      by_cases e : a / 16 < b / 16
      · rw [if_pos e]
      · rw [if_neg e, if_neg (by omega), if_pos (by omega)]
    · rw [if_neg h1]
      by_cases h2 : b < a
      · rw [if_pos h2]
        by_cases e : b / 16 < a / 16
        · rw [if_neg (by omega), if_pos e]
        · rw [if_neg (by omega), if_neg e, if_neg (by omega), if_pos (by omega)]
      · rw [if_neg h2, if_neg (by omega), if_neg (by omega), if_neg (by omega), if_neg (by omega)]

end Go.Proofs.Qxb6003407a.Cmp
