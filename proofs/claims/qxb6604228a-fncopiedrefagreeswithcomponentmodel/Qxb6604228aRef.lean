import Derived.Test.Qxb6604228aRows
import Derived.Test.Qxb6604228aPlain
import Derived.WalkKit
import Derived.WalkSpells
import Derived.ProofKit
set_option linter.unusedVariables false
namespace Go.Proofs.Qxb6604228a.Ref
open Go.ChangeShapes Go.WideShapes Go.ChangeAt Go.RowKit

/-- p opens s -/
def pre (s p : ByteArray) : Bool := Lib.hasPrefix s.data.toList p.data.toList

set_option maxHeartbeats 400000 in
theorem hasPrefix14 (s p : ByteArray) (w : World) (hs : s.size ≤ maxLen) (hp : p.size ≤ maxLen) :
    Calls Try.prog 14 #[.string s, .string p] w fun e w' => e = .returned (.bool (pre s p)) ∧ w = w' := by
  unfold maxLen at hs hp
  have H : Hid _ := Lib.hasPrefix_raw s p
  by_cases h : p.size ≤ s.size
  · have h1 : (p.size : Int) ≤ s.size := by omega
    go_enter Try.func14, Try.ntmps14
    go_wp2
    go_ret
    refine ⟨?_, rfl⟩
    unfold pre
    rw [← H.out]
    simp [h]
  · have h1 : decide ((p.size : Int) ≤ s.size) = false := by simp; omega
    go_enter Try.func14, Try.ntmps14
    go_wp2
    go_ret
    refine ⟨?_, rfl⟩
    unfold pre
    rw [← H.out]
    simp [h]

set_option maxHeartbeats 400000 in
theorem hasPrefix (s p : ByteArray) (w : World) (hs : s.size ≤ maxLen) (hp : p.size ≤ maxLen) :
    Calls Try.prog 13 #[.string s, .string p] w fun e w' => e = .returned (.bool (pre s p)) ∧ w = w' := by
  go_enter Try.func13, Try.ntmps13
  go_wp2_with fail
  refine (hasPrefix14 s p _ hs hp).mono ?_
  rintro e w' ⟨rfl, rfl⟩
  go_wp2
  go_ret
  exact ⟨rfl, rfl⟩

/-- the names that are not copied -/
def Refused (s : ByteArray) : Prop :=
  s.data.toList = [] ∨ s.data.toList = [114, 101, 102, 115, 47, 115, 116, 97, 115, 104] ∨ pre s ⟨#[114, 101, 102, 115, 47, 111, 102, 102, 115, 104, 111, 111, 116, 47]⟩ = true ∨ pre s ⟨#[114, 101, 102, 115, 47, 98, 105, 115, 101, 99, 116, 47]⟩ = true ∨ pre s ⟨#[114, 101, 102, 115, 47, 119, 111, 114, 107, 116, 114, 101, 101, 47]⟩ = true ∨ pre s ⟨#[114, 101, 102, 115, 47, 114, 101, 119, 114, 105, 116, 116, 101, 110, 47]⟩ = true

/-- what both functions answer -/
def Says (s : ByteArray) (e : Ending) : Prop := ∃ b : Bool, e = .returned (.bool b) ∧ (b = true ↔ ¬ Refused s)
theorem says_false {s : ByteArray} (h : Refused s) : Says s (.returned (.bool false)) := ⟨false, rfl, by simp; exact h⟩
theorem says_true {s : ByteArray} (h : ¬ Refused s) : Says s (.returned (.bool true)) := ⟨true, rfl, by simp; exact h⟩

set_option maxHeartbeats 1000000 in
theorem copiedRef_none (s : ByteArray) (w : World) (h0 : s.data.toList = []) : Calls Try.prog 12 #[.string s] w fun e w' => Says s e ∧ Below w.heap.size w w' := by
  have H : Hid (Refused s) := .inl h0
  have h1 : s.toList = [] := by rw [Lib.toList_data]; exact h0
  clear h0
  go_enter Try.func12, Try.ntmps12
  go_wp2
  go_ret
  exact ⟨says_false H.out, Below.refl _ _⟩

set_option maxHeartbeats 1000000 in
theorem copiedRef_stash (s : ByteArray) (w : World) (h0 : s.data.toList = [114, 101, 102, 115, 47, 115, 116, 97, 115, 104]) : Calls Try.prog 12 #[.string s] w fun e w' => Says s e ∧ Below w.heap.size w w' := by
  have H : Hid (Refused s) := .inr (.inl h0)
  have h1 : s.toList = [114, 101, 102, 115, 47, 115, 116, 97, 115, 104] := by rw [Lib.toList_data]; exact h0
  clear h0
  go_enter Try.func12, Try.ntmps12
  go_wp2
  go_ret
  exact ⟨says_false H.out, Below.refl _ _⟩

set_option maxHeartbeats 2000000 in
theorem copiedRef_more (s : ByteArray) (w : World) (hs : s.size ≤ 1048576) (h0 : ¬ s.data.toList = []) (h1 : ¬ s.data.toList = [114, 101, 102, 115, 47, 115, 116, 97, 115, 104]) :
    Calls Try.prog 12 #[.string s] w fun e w' => Says s e ∧ Below w.heap.size w w' := by
  have g0 : s.toList.isEmpty = false := by rw [Lib.toList_data]; simpa using h0
  have g1 : (s.toList == [114, 101, 102, 115, 47, 115, 116, 97, 115, 104]) = false := by rw [Lib.toList_data]; simpa using h1
  have H0 : Hid _ := h0
  have H1 : Hid _ := h1
  clear h0 h1
  go_enter Try.func12, Try.ntmps12
  go_wp2
  refine wp_loop_rounds 5 ?_
  rw [rounds_succ]
  go_wp2_with fail
  refine (hasPrefix s _ _ (by unfold maxLen; omega) (by unfold maxLen; decide)).mono ?_
  rintro e w' ⟨rfl, rfl⟩
  cases h2 : pre s ⟨#[114, 101, 102, 115, 47, 111, 102, 102, 115, 104, 111, 111, 116, 47]⟩
  rotate_left
  · have H : Hid (Refused s) := .inr (.inr (.inl h2))
    clear h2
    go_wp2
    go_ret
    exact ⟨says_false H.out, (Below.refl _ _).alloc (Nat.le_refl _) _⟩
  have H2 : Hid _ := h2
  clear h2
  go_wp2
  rw [rounds_succ]
  go_wp2_with fail
  refine (hasPrefix s _ _ (by unfold maxLen; omega) (by unfold maxLen; decide)).mono ?_
  rintro e w' ⟨rfl, rfl⟩
  cases h3 : pre s ⟨#[114, 101, 102, 115, 47, 98, 105, 115, 101, 99, 116, 47]⟩
  rotate_left
  · have H : Hid (Refused s) := .inr (.inr (.inr (.inl h3)))
    clear h3
    go_wp2
    go_ret
    exact ⟨says_false H.out, (Below.refl _ _).alloc (Nat.le_refl _) _⟩
  have H3 : Hid _ := h3
  clear h3
  go_wp2
  rw [rounds_succ]
  go_wp2_with fail
  refine (hasPrefix s _ _ (by unfold maxLen; omega) (by unfold maxLen; decide)).mono ?_
  rintro e w' ⟨rfl, rfl⟩
  cases h4 : pre s ⟨#[114, 101, 102, 115, 47, 119, 111, 114, 107, 116, 114, 101, 101, 47]⟩
  rotate_left
  · have H : Hid (Refused s) := .inr (.inr (.inr (.inr (.inl h4))))
    clear h4
    go_wp2
    go_ret
    exact ⟨says_false H.out, (Below.refl _ _).alloc (Nat.le_refl _) _⟩
  have H4 : Hid _ := h4
  clear h4
  go_wp2
  rw [rounds_succ]
  go_wp2_with fail
  refine (hasPrefix s _ _ (by unfold maxLen; omega) (by unfold maxLen; decide)).mono ?_
  rintro e w' ⟨rfl, rfl⟩
  cases h5 : pre s ⟨#[114, 101, 102, 115, 47, 114, 101, 119, 114, 105, 116, 116, 101, 110, 47]⟩
  rotate_left
  · have H : Hid (Refused s) := .inr (.inr (.inr (.inr (.inr (h5)))))
    clear h5
    go_wp2
    go_ret
    exact ⟨says_false H.out, (Below.refl _ _).alloc (Nat.le_refl _) _⟩
  have H5 : Hid _ := h5
  clear h5
  go_wp2
  rw [rounds_succ]
  go_wp2
  go_ret
  refine ⟨says_true ?_, (Below.refl _ _).alloc (Nat.le_refl _) _⟩
  rintro (e | e | e | e | e | e)
  · exact H0.out e
  · exact H1.out e
  · rw [H2.out] at e; cases e
  · rw [H3.out] at e; cases e
  · rw [H4.out] at e; cases e
  · rw [H5.out] at e; cases e
end Go.Proofs.Qxb6604228a.Ref
