/- The plain law of resolvesAsIs: lists and numbers alone, no Go in sight. -/
set_option linter.unusedVariables false
namespace Go.Proofs.Qxb6603886a.Res

/-- each escape of a dot turned into the dot -/
def dec : List UInt8 → List UInt8
  | a :: b :: c :: t => if a = 37 ∧ b = 50 ∧ (c = 69 ∨ c = 101) then 46 :: dec t else a :: dec (b :: c :: t)
  | a :: t => a :: dec t
  | [] => []

/-- a dot, escaped or not, taken off the head -/
def strip : List UInt8 → Option (List UInt8)
  | a :: b :: c :: t => if a = 46 then some (b :: c :: t) else if a = 37 ∧ b = 50 ∧ (c = 69 ∨ c = 101) then some t else none
  | a :: t => if a = 46 then some t else none
  | [] => none

theorem dec_nil (l : List UInt8) : dec l = [] ↔ l = [] := by
  constructor
  · intro h
    match l with
    | [] => rfl
    | [a] => simp [dec] at h
    | [a, b] => simp [dec] at h
    | a :: b :: c :: t =>
      rw [dec] at h
      split at h <;> cases h
  · rintro rfl; rfl

theorem dec_dot (l r : List UInt8) : dec l = 46 :: r ↔ ∃ t, strip l = some t ∧ dec t = r := by
  match l with
  | [] => simp [dec, strip]
  | [a] =>
    simp only [dec, strip]
    by_cases h : a = 46
    · simp [h, dec, eq_comm]
    · simp [h]
  | [a, b] =>
    simp only [dec, strip]
    by_cases h : a = 46
    · simp [h, dec]
    · simp [h]
  | a :: b :: c :: t =>
    rw [dec, strip]
    by_cases h : a = 46
    · subst h
      rw [if_neg (fun e => absurd e.1 (by decide)), if_pos rfl]
      simp
    · rw [if_neg h]
      by_cases h2 : a = 37 ∧ b = 50 ∧ (c = 69 ∨ c = 101)
      · rw [if_pos h2, if_pos h2]; simp
      · rw [if_neg h2, if_neg h2]
        simp [h]

def isDot (l : List UInt8) : Prop := dec l = [46] ∨ dec l = [46, 46]

theorem isDot_iff (l : List UInt8) : isDot l ↔ ∃ t, strip l = some t ∧ (t = [] ∨ strip t = some []) := by
  unfold isDot
  rw [dec_dot, dec_dot]
  constructor
  · rintro (⟨t, h1, h2⟩ | ⟨t, h1, h2⟩)
    · exact ⟨t, h1, .inl ((dec_nil t).1 h2)⟩
    · obtain ⟨u, h3, h4⟩ := (dec_dot t []).1 h2
      rw [(dec_nil u).1 h4] at h3
      exact ⟨t, h1, .inr h3⟩
  · rintro ⟨t, h1, h2 | h2⟩
    · exact .inl ⟨t, h1, by rw [h2]; rfl⟩
    · exact .inr ⟨t, h1, (dec_dot t []).2 ⟨[], h2, rfl⟩⟩

/-- what is taken off is a dot or an escape: no slash in it; and what stands behind a slash is not looked at -/
theorem strip_app (l r : List UInt8) (hl : ∀ x ∈ l, x ≠ 47) (hr : r = [] ∨ ∃ u, r = 47 :: u) : strip (l ++ r) = (strip l).map (· ++ r) := by
  match l with
  | [] =>
    rcases hr with rfl | ⟨u, rfl⟩
    · rfl
    · match u with
      | [] => rfl
      | [a] => rfl
      | a :: b :: u => simp [strip]
  | [a] =>
    rcases hr with rfl | ⟨u, rfl⟩
    · simp [strip]
    · match u with
      | [] => simp only [strip, List.cons_append, List.nil_append]; split <;> simp
      | b :: u => simp only [strip, List.cons_append, List.nil_append]; by_cases h : a = 46 <;> simp [h]
  | [a, b] =>
    rcases hr with rfl | ⟨u, rfl⟩
    · simp [strip]
    · simp only [strip, List.cons_append, List.nil_append]; by_cases h : a = 46 <;> simp [h]
  | a :: b :: c :: t =>
    simp only [strip, List.cons_append]
    by_cases h : a = 46
    · simp [h]
    · rw [if_neg h, if_neg h]
      by_cases h2 : a = 37 ∧ b = 50 ∧ (c = 69 ∨ c = 101)
      · rw [if_pos h2, if_pos h2]; rfl
      · rw [if_neg h2, if_neg h2]; rfl

theorem strip_mem (l t : List UInt8) (h : strip l = some t) : ∀ x ∈ t, x ∈ l := by
  match l, h with
  | [], h => cases h
  | [a], h =>
    simp only [strip] at h
    split at h
    · cases h; simp
    · cases h
  | [a, b], h =>
    simp only [strip] at h
    split at h
    · cases h; intro x hx; exact List.mem_cons_of_mem _ hx
    · cases h
  | a :: b :: c :: u, h =>
    simp only [strip] at h
    split at h
    · cases h; intro x hx; exact List.mem_cons_of_mem _ hx
    · split at h
      · cases h; intro x hx; exact List.mem_cons_of_mem _ (List.mem_cons_of_mem _ (List.mem_cons_of_mem _ hx))
      · cases h

/-- the signs of D by their places -/
def pl (D : List UInt8) (k : Nat) : Nat := (D[k]?.getD 0).toNat

/-- how long the dot at place j is; 0 if there is none -/
def ds (f : Nat → Nat) (j : Nat) : Nat := if f j = 46 then 1 else if f j = 37 ∧ f (j + 1) = 50 ∧ (f (j + 2) = 69 ∨ f (j + 2) = 101) then 3 else 0

theorem toNat_is (a : UInt8) (n : Nat) (h : n < 256) : a.toNat = n ↔ a = UInt8.ofNat n := by
  constructor
  · intro e; apply UInt8.toNat_inj.1; rw [e]; simp; omega
  · rintro rfl; simp; omega

theorem pl_end (D : List UInt8) (k : Nat) (h : D.length ≤ k) : pl D k = 0 := by unfold pl; rw [List.getElem?_eq_none h]; rfl
theorem pl_cons (D : List UInt8) (k : Nat) (a : UInt8) (t : List UInt8) (h : D.drop k = a :: t) : pl D k = a.toNat := by
  have : (D.drop k)[0]? = some a := by rw [h]; rfl
  rw [List.getElem?_drop] at this
  unfold pl
  rw [show k = k + 0 from rfl, this]; rfl

theorem strip_drop (D : List UInt8) (j : Nat) : strip (D.drop j) = if ds (pl D) j = 0 then none else some (D.drop (j + ds (pl D) j)) := by
  have step : ∀ k a t, D.drop k = a :: t → D.drop (k + 1) = t := by
    intro k a t h
    rw [← List.drop_drop, h]; rfl
  rcases h : D.drop j with _ | ⟨a, t⟩
  · have e : pl D j = 0 := pl_end D j (by simpa using h)
    simp [strip, ds, e]
  · have ea := pl_cons D j a t h
    have ht := step j a t h
    by_cases h46 : a = 46
    · have d1 : ds (pl D) j = 1 := by unfold ds; rw [ea, h46]; rfl
      rw [d1, ht]
      rcases t with _ | ⟨b, _ | ⟨c, u⟩⟩ <;> simp [strip, h46]
    · have n46 : ¬ pl D j = 46 := by rw [ea, toNat_is a 46 (by decide)]; exact h46
      rcases t with _ | ⟨b, t⟩
      · have e1 : pl D (j + 1) = 0 := pl_end D _ (by simpa using ht)
        simp [strip, ds, n46, e1, h46]
      · have eb := pl_cons D (j + 1) b t ht
        have ht2 := step (j + 1) b t ht
        rcases t with _ | ⟨c, u⟩
        · have e2 : pl D (j + 2) = 0 := pl_end D _ (by simpa using ht2)
          simp [strip, ds, n46, e2, h46]
        · have ec := pl_cons D (j + 2) c u ht2
          have ht3 := step (j + 2) c u ht2
          have key : (pl D j = 37 ∧ pl D (j + 1) = 50 ∧ (pl D (j + 2) = 69 ∨ pl D (j + 2) = 101)) ↔ (a = 37 ∧ b = 50 ∧ (c = 69 ∨ c = 101)) := by
            rw [ea, eb, ec, toNat_is a 37 (by decide), toNat_is b 50 (by decide), toNat_is c 69 (by decide), toNat_is c 101 (by decide)]
            rfl
          unfold ds
          rw [if_neg n46, strip, if_neg h46]
          by_cases h2 : a = 37 ∧ b = 50 ∧ (c = 69 ∨ c = 101)
          · rw [if_pos h2, if_pos (key.2 h2)]
            simp [ht3]
          · rw [if_neg h2, if_neg (fun e => h2 (key.1 e))]
            simp

/-- the place behind n dots from i + 1 on -/
def St (f : Nat → Nat) (i : Nat) : Nat → Nat
  | 0 => i + 1
  | n + 1 => St f i n + ds f (St f i n)

/-- as many as two dots, and no more, stand behind the slash at i -/
def Stand (f : Nat → Nat) (i n : Nat) : Prop := n ≤ 2 ∧ (∀ m, m < n → ds f (St f i m) ≠ 0) ∧ (n = 2 ∨ ds f (St f i n) = 0)

def Bad (f : Nat → Nat) (N i : Nat) : Prop := ∃ n, Stand f i n ∧ (f (St f i n) = 47 ∨ (St f i n = N ∧ 0 < n))

theorem Stand.one {f : Nat → Nat} {i n m : Nat} (h : Stand f i n) (k : Stand f i m) : n = m := by
  obtain ⟨a1, a2, a3⟩ := h
  obtain ⟨b1, b2, b3⟩ := k
  rcases Nat.lt_trichotomy n m with hlt | he | hlt
  · have := b2 n hlt
    rcases a3 with e | e
    · omega
    · exact absurd e this
  · exact he
  · have := a2 m hlt
    rcases b3 with e | e
    · omega
    · exact absurd e this

theorem bad_iff {f : Nat → Nat} {N i n : Nat} (h : Stand f i n) : Bad f N i ↔ (f (St f i n) = 47 ∨ (St f i n = N ∧ 0 < n)) := by
  constructor
  · rintro ⟨m, hm, e⟩
    obtain rfl := h.one hm
    exact e
  · exact fun e => ⟨n, h, e⟩

/-- the model's reading of the segment behind the slash at i: k is its end -/
theorem bad_model {D : List UInt8} {i k : Nat} (h1 : i < k) (h2 : k ≤ D.length) (hno : ∀ t, i < t → t < k → pl D t ≠ 47) (hk : k = D.length ∨ pl D k = 47) :
    Bad (pl D) D.length i ↔ ((k = i + 1 ∧ k < D.length) ∨ (k ≠ i + 1 ∧ isDot ((D.drop (i + 1)).take (k - (i + 1))))) := by
  have hkN : pl D k = 47 → k < D.length := by
    intro e
    rcases Nat.lt_or_ge k D.length with h | h
    · exact h
    · rw [pl_end D k h] at e; cases e
  -- the segment, and what stands behind it
  obtain ⟨seg, hseg⟩ : ∃ seg, seg = (D.drop (i + 1)).take (k - (i + 1)) := ⟨_, rfl⟩
  obtain ⟨rest, hrest⟩ : ∃ rest, rest = D.drop k := ⟨_, rfl⟩
  have hL : D.drop (i + 1) = seg ++ rest := by
    rw [hseg, hrest]
    have := List.take_append_drop (k - (i + 1)) (D.drop (i + 1))
    rw [List.drop_drop, show i + 1 + (k - (i + 1)) = k by omega] at this
    exact this.symm
  have hslen : seg.length = k - (i + 1) := by rw [hseg]; simp; omega
  have hrlen : rest.length = D.length - k := by rw [hrest]; simp
  have hs47 : ∀ x ∈ seg, x ≠ 47 := by
    intro x hx e
    obtain ⟨u, hu, e2⟩ := List.getElem_of_mem hx
    have e3 : seg[u]? = some x := by rw [List.getElem?_eq_getElem hu, e2]
    rw [hseg, List.getElem?_take, if_pos (by omega), List.getElem?_drop] at e3
    apply hno (i + 1 + u) (by omega) (by omega)
    unfold pl; rw [e3, e]; rfl
  have hr47 : rest = [] ∨ ∃ u, rest = 47 :: u := by
    rcases hk with e | e
    · left; rw [hrest, e]; simp
    · right
      have := hkN e
      refine ⟨D.drop (k + 1), ?_⟩
      have e3 := List.drop_eq_getElem_cons this
      rw [hrest, e3]
      congr 1
      unfold pl at e
      rw [List.getElem?_eq_getElem this] at e
      exact (toNat_is _ 47 (by decide)).1 e
  have s1 := strip_app seg rest hs47 hr47
  rw [← hL, strip_drop] at s1
  rw [← hseg]
  -- where the dots end there ends the segment, or not
  have meet : ∀ j, j ≤ k → ((pl D j = 47 ∨ j = D.length) ↔ j = k) ∨ j ≤ i := by
    intro j hj
    rcases Nat.lt_or_ge i j with hi | hi
    · left
      constructor
      · intro e
        rcases Nat.lt_or_ge j k with hlt | hge
        · rcases e with e | e
          · exact absurd e (hno j hi hlt)
          · omega
        · omega
      · rintro rfl
        rcases hk with e | e
        · exact .inr e
        · exact .inl e
    · right; exact hi
  by_cases d0 : ds (pl D) (i + 1) = 0
  · have hst : Stand (pl D) i 0 := ⟨by omega, fun m hm => absurd hm (by omega), .inr d0⟩
    rw [bad_iff hst]
    rw [if_pos d0] at s1
    have sn : strip seg = none := by cases h : strip seg with | none => rfl | some t => rw [h] at s1; cases s1
    have nd : ¬ isDot seg := by rw [isDot_iff, sn]; rintro ⟨t, h, _⟩; cases h
    constructor
    · rintro (e | ⟨_, e⟩)
      · have e' : pl D (i + 1) = 47 := e
        left
        rcases Nat.lt_or_ge (i + 1) k with hlt | hge
        · exact absurd e' (hno (i + 1) (by omega) hlt)
        · have : k = i + 1 := by omega
          rw [this]; rw [← this] at e' ⊢; exact ⟨rfl, hkN e'⟩
      · omega
    · rintro (⟨e1, e2⟩ | ⟨_, e⟩)
      · left
        show pl D (i + 1) = 47
        rw [← e1]
        rcases hk with e | e
        · omega
        · exact e
      · exact absurd e nd
  · rw [if_neg d0] at s1
    obtain ⟨t, st, ht⟩ : ∃ t, strip seg = some t ∧ t ++ rest = D.drop (i + 1 + ds (pl D) (i + 1)) := by
      cases h : strip seg with
      | none => rw [h] at s1; cases s1
      | some t => rw [h] at s1; exact ⟨t, rfl, (Option.some.inj s1).symm⟩
    have segne : k ≠ i + 1 := by
      intro e
      have : seg = [] := List.eq_nil_of_length_eq_zero (by omega)
      rw [this] at st; cases st
    have t47 : ∀ x ∈ t, x ≠ 47 := fun x hx => hs47 x (strip_mem seg t st x hx)
    have tlen := congrArg List.length ht
    rw [List.length_append, List.length_drop, hrlen] at tlen
    have s2 := strip_app t rest t47 hr47
    rw [ht, strip_drop] at s2
    obtain ⟨j1, hj1⟩ : ∃ j1, j1 = i + 1 + ds (pl D) (i + 1) := ⟨_, rfl⟩
    rw [← hj1] at s2 tlen ht
    have hjk : j1 ≤ D.length → j1 ≤ k := by omega
    have j1N : j1 ≤ D.length := by
      -- the dot lies inside the text
      have h0 : ∀ m, pl D m ≠ 0 → m < D.length := by
        intro m hm
        rcases Nat.lt_or_ge m D.length with h | h
        · exact h
        · exact absurd (pl_end D m h) hm
      rw [hj1]
      unfold ds at d0 ⊢
      split at d0
      · rename_i e; rw [if_pos e]; have := h0 (i + 1) (by omega); omega
      · rename_i e
        split at d0
        · rename_i e2; rw [if_neg e, if_pos e2]; have := h0 (i + 1 + 2) (by omega); omega
        · exact absurd rfl d0
    by_cases d1 : ds (pl D) j1 = 0
    · have hst : Stand (pl D) i 1 := ⟨by omega, fun m hm => by obtain rfl : m = 0 := by omega
                                                               exact d0, .inr (by show ds (pl D) (i + 1 + ds (pl D) (i + 1)) = 0; rw [← hj1]; exact d1)⟩
      rw [bad_iff hst]
      have eS : St (pl D) i 1 = j1 := hj1.symm
      rw [eS]
      rw [if_pos d1] at s2
      have sn : strip t = none := by cases h : strip t with | none => rfl | some u => rw [h] at s2; cases s2
      have hd : isDot seg ↔ t = [] := by
        rw [isDot_iff]
        constructor
        · rintro ⟨u, hu, e⟩
          rw [st] at hu; cases hu
          rcases e with e | e
          · exact e
          · rw [sn] at e; cases e
        · intro e; exact ⟨t, st, .inl e⟩
      have ht0 : t = [] ↔ j1 = k := by
        rw [← List.length_eq_zero_iff]; omega
      have M := (meet j1 (hjk j1N)).resolve_right (by omega)
      rw [hd, ht0, ← M]
      constructor
      · rintro (e | ⟨e, _⟩)
        · exact .inr ⟨segne, .inl e⟩
        · exact .inr ⟨segne, .inr e⟩
      · rintro (⟨e, _⟩ | ⟨_, e⟩)
        · exact absurd e segne
        · rcases e with e | e
          · exact .inl e
          · exact .inr ⟨e, by omega⟩
    · rw [if_neg d1] at s2
      obtain ⟨u, su, hu⟩ : ∃ u, strip t = some u ∧ u ++ rest = D.drop (j1 + ds (pl D) j1) := by
        cases h : strip t with
        | none => rw [h] at s2; cases s2
        | some u => rw [h] at s2; exact ⟨u, rfl, (Option.some.inj s2).symm⟩
      have ulen := congrArg List.length hu
      rw [List.length_append, List.length_drop, hrlen] at ulen
      obtain ⟨j2, hj2⟩ : ∃ j2, j2 = j1 + ds (pl D) j1 := ⟨_, rfl⟩
      rw [← hj2] at ulen
      have j2N : j2 ≤ D.length := by
        have h0 : ∀ m, pl D m ≠ 0 → m < D.length := by
          intro m hm
          rcases Nat.lt_or_ge m D.length with h | h
          · exact h
          · exact absurd (pl_end D m h) hm
        rw [hj2]
        unfold ds at d1 ⊢
        split at d1
        · rename_i e; rw [if_pos e]; have := h0 j1 (by omega); omega
        · rename_i e
          split at d1
          · rename_i e2; rw [if_neg e, if_pos e2]; have := h0 (j1 + 2) (by omega); omega
          · exact absurd rfl d1
      have hst : Stand (pl D) i 2 := ⟨by omega, fun m hm => by
          rcases (show m = 0 ∨ m = 1 by omega) with rfl | rfl
          · exact d0
          · show ds (pl D) (i + 1 + ds (pl D) (i + 1)) ≠ 0; rw [← hj1]; exact d1, .inl rfl⟩
      rw [bad_iff hst]
      have eS : St (pl D) i 2 = j2 := by
        show i + 1 + ds (pl D) (i + 1) + ds (pl D) (i + 1 + ds (pl D) (i + 1)) = j2
        rw [← hj1, ← hj2]
      rw [eS]
      have tne : t ≠ [] := by rintro rfl; cases su
      have hd : isDot seg ↔ u = [] := by
        rw [isDot_iff]
        constructor
        · rintro ⟨x, hx, e⟩
          rw [st] at hx; cases hx
          rcases e with e | e
          · exact absurd e tne
          · rw [su] at e; cases e; rfl
        · intro e; exact ⟨t, st, .inr (by rw [su, e])⟩
      have hu0 : u = [] ↔ j2 = k := by
        rw [← List.length_eq_zero_iff]; omega
      have M := (meet j2 (by omega)).resolve_right (by omega)
      rw [hd, hu0, ← M]
      constructor
      · rintro (e | ⟨e, _⟩)
        · exact .inr ⟨segne, .inl e⟩
        · exact .inr ⟨segne, .inr e⟩
      · rintro (⟨e, _⟩ | ⟨_, e⟩)
        · exact absurd e segne
        · rcases e with e | e
          · exact .inl e
          · exact .inr ⟨e, by omega⟩

end Go.Proofs.Qxb6603886a.Res
