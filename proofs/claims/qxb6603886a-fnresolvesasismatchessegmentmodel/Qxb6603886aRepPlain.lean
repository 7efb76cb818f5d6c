/- The plain law of repeatEnd: numbers alone, no Go in sight. -/
set_option linter.unusedVariables false
namespace Go.Proofs.Qxb6603886a.Rep

/-- 'e' is where the whole copies of the token [i, j) that follow it end, in a text of N signs 'f'. -/
structure RE (f : Nat → Nat) (N i j e : Nat) : Prop where
  lo : j ≤ e
  hi : e ≤ N
  whole : ∃ q, e = j + q * (j - i)
  per : ∀ t, j ≤ t → t < e → f t = f (t - (j - i))
  stop : ¬ (e + (j - i) ≤ N ∧ ∀ t, e ≤ t → t < e + (j - i) → f t = f (t - (j - i)))

theorem back {f : Nat → Nat} {i j e : Nat} (hij : i < j) (per : ∀ t, j ≤ t → t < e → f t = f (t - (j - i))) :
    ∀ q u, u < j - i → i + u + q * (j - i) < e → f (i + u + q * (j - i)) = f (i + u) := by
  intro q
  induction q with
  | zero => intro u _ _; simp
  | succ q ih =>
    intro u hu h
    have e1 : (q + 1) * (j - i) = q * (j - i) + (j - i) := Nat.succ_mul _ _
    have h2 := per (i + u + (q + 1) * (j - i)) (by omega) h
    rw [h2, show i + u + (q + 1) * (j - i) - (j - i) = i + u + q * (j - i) by omega]
    exact ih u hu (by omega)

/-- the last copy is the token itself -/
theorem RE.copy {f : Nat → Nat} {N i j e : Nat} (h : RE f N i j e) (hij : i < j) (u : Nat) (hu : u < j - i) : f (e - (j - i) + u) = f (i + u) := by
  obtain ⟨q, hq⟩ := h.whole
  have := back hij h.per q u hu (by omega)
  rw [← this]
  congr 1; omega

/-- one more round of the loop that goes by whole copies -/
theorem step {f : Nat → Nat} {i j k q : Nat} (hij : i < j) (hk : k = j + q * (j - i)) (per : ∀ t, j ≤ t → t < k → f t = f (t - (j - i)))
    (hc : ∀ u, u < j - i → f (k + u) = f (i + u)) : ∀ t, j ≤ t → t < k + (j - i) → f t = f (t - (j - i)) := by
  intro t h1 h2
  by_cases h : t < k
  · exact per t h1 h
  · have a := hc (t - k) (by omega)
    have b := back hij per q (t - k) (by omega) (by omega)
    rw [show k + (t - k) = t by omega] at a
    rw [a, ← b]
    congr 1; omega

theorem stop_of {f : Nat → Nat} {N i j k q : Nat} (hij : i < j) (hk : k = j + q * (j - i)) (per : ∀ t, j ≤ t → t < k → f t = f (t - (j - i)))
    (hc : ¬ (k + (j - i) ≤ N ∧ ∀ u, u < j - i → f (k + u) = f (i + u))) : ¬ (k + (j - i) ≤ N ∧ ∀ t, k ≤ t → t < k + (j - i) → f t = f (t - (j - i))) := by
  rintro ⟨h1, h2⟩
  refine hc ⟨h1, fun u hu => ?_⟩
  rw [h2 (k + u) (by omega) (by omega)]
  have b := back hij per q u hu (by omega)
  rw [← b]
  congr 1; omega

/-- the law's first road: the run of signs with period j - i, rounded down to whole copies -/
theorem RE.run {f : Nat → Nat} {N i j e T : Nat} (h : RE f N i j e) (hij : i < j) (h1 : j ≤ T) (h2 : T ≤ N) (per : ∀ t, j ≤ t → t < T → f t = f (t - (j - i)))
    (hend : T = N ∨ f T ≠ f (T - (j - i))) : e = j + (T - j) / (j - i) * (j - i) := by
  have a : e ≤ T := by
    rcases Nat.lt_or_ge T e with hlt | hge
    · rcases hend with hE | hE
      · have := h.hi; omega
      · exact absurd (h.per T h1 hlt) hE
    · exact hge
  have b : T < e + (j - i) := by
    rcases Nat.lt_or_ge T (e + (j - i)) with hlt | hge
    · exact hlt
    · exact absurd ⟨by omega, fun t ht1 ht2 => per t (by have := h.lo; omega) (by omega)⟩ h.stop
  obtain ⟨q, hq⟩ := h.whole
  have : (T - j) / (j - i) = q := by
    apply Nat.div_eq_of_lt_le
    · omega
    · rw [Nat.succ_mul]; omega
  rw [this, hq]

/-- the law's second road: asked again from the last copy it finds no further one -/
theorem RE.again {f : Nat → Nat} {N i j e e2 : Nat} (h : RE f N i j e) (hij : i < j) (h2 : RE f N (e - (j - i)) e e2) : e2 = e := by
  have hlo := h.lo
  have en : e - (e - (j - i)) = j - i := by omega
  obtain ⟨q, hq⟩ := h2.whole
  have s2 := h2.per
  have hi2 := h2.hi
  rw [en] at hq s2
  cases q with
  | zero => omega
  | succ q =>
    rw [Nat.succ_mul] at hq
    exact absurd ⟨by omega, fun t ht1 ht2 => s2 t ht1 (by omega)⟩ h.stop

end Go.Proofs.Qxb6603886a.Rep
