/- The plain law of nextKept: lists of masks, no Go in sight. -/
set_option linter.unusedVariables false
namespace Go.Proofs.Qxb6603886a.Kept

/-- the mask of run k: the masks lie from the last run to the first -/
def rm (Z : List Nat) (k : Nat) : Nat := Z.getD (Z.length - 1 - k) 0

/-- run k keeps the slot -/
def keeps (Z : List Nat) (slot k : Nat) : Bool := (rm Z k).testBit slot

/-- the blocks hold every bit of their runs' masks -/
def Cover (Z B : List Nat) : Prop := ∀ k, k < Z.length → k / 64 < B.length ∧ ∀ t, (rm Z k).testBit t = true → (B.getD (k / 64) 0).testBit t = true

/-- r is the first run from i on that keeps the slot, or -1 -/
def First (Z : List Nat) (slot i : Nat) (r : Int) : Prop :=
  (r = -1 ∧ ∀ k, i ≤ k → k < Z.length → keeps Z slot k = false) ∨
  ∃ k : Nat, r = k ∧ i ≤ k ∧ k < Z.length ∧ keeps Z slot k = true ∧ ∀ t, i ≤ t → t < k → keeps Z slot t = false

theorem First.one {Z : List Nat} {slot i : Nat} {r s : Int} (h : First Z slot i r) (h2 : First Z slot i s) : r = s := by
  rcases h with ⟨rfl, h⟩ | ⟨k, rfl, a, b, c, d⟩
  · rcases h2 with ⟨rfl, _⟩ | ⟨k, rfl, a, b, c, d⟩
    · rfl
    · rw [h k a b] at c; cases c
  · rcases h2 with ⟨rfl, h⟩ | ⟨k2, rfl, a2, b2, c2, d2⟩
    · rw [h k a b] at c; cases c
    · rcases Nat.lt_trichotomy k k2 with e | e | e
      · rw [d2 k a e] at c; cases c
      · rw [e]
      · rw [d k2 a2 e] at c2; cases c2

/-- how many of the first m runs keep the slot -/
def cnt (Z : List Nat) (slot : Nat) : Nat → Nat
  | 0 => 0
  | m + 1 => cnt Z slot m + (if keeps Z slot m then 1 else 0)

theorem cnt_le (Z : List Nat) (slot m : Nat) : cnt Z slot m ≤ m := by
  induction m with
  | zero => exact Nat.le_refl _
  | succ m ih => simp only [cnt]; split <;> omega

theorem cnt_skip {Z : List Nat} {slot a : Nat} : ∀ {b : Nat}, a ≤ b → (∀ t, a ≤ t → t < b → keeps Z slot t = false) → cnt Z slot b = cnt Z slot a := by
  intro b
  induction b with
  | zero => intro h _; obtain rfl : a = 0 := by omega
            rfl
  | succ b ih =>
    intro h hs
    by_cases e : a = b + 1
    · rw [e]
    · simp only [cnt]
      rw [hs b (by omega) (by omega), ih (by omega) (fun t h1 h2 => hs t h1 (by omega))]
      simp

/-- a block whose summary lacks the slot is passed over at once -/
theorem skip_block {Z B : List Nat} {slot i : Nat} (hc : Cover Z B) (h64 : i % 64 = 0) (hb : (B.getD (i / 64) 0).testBit slot = false) :
    ∀ t, i ≤ t → t < i + 64 → t < Z.length → keeps Z slot t = false := by
  intro t h1 h2 h3
  obtain ⟨_, h5⟩ := hc t h3
  have e : t / 64 = i / 64 := by omega
  rw [e] at h5
  cases hk : keeps Z slot t with
  | false => rfl
  | true => rw [h5 slot hk] at hb; cases hb

end Go.Proofs.Qxb6603886a.Kept
