import Derived.Test.Qxb6603886aRepLaw1
set_option linter.unusedVariables false
namespace Go.Proofs.Qxb6603886a.Rep
open Go.ChangeShapes Go.WideShapes Go.ChangeAt Go.RowKit

set_option maxHeartbeats 400000 in
theorem bytes10 (s : ByteArray) (i j : Int) (w : World) (hs : s.size ≤ maxLen) :
    Calls Try.prog 10 #[.string s, .int .i64 i, .int .i64 j] w fun e w' => e = .returned (.bool (decide (s.size ≤ 1048576))) ∧ w = w' := by
  unfold maxLen at hs
  by_cases h : s.size ≤ 1048576
  · have h1 : ¬ (1048576 : Int) < s.size := by omega
    go_enter Try.func10, Try.ntmps10
    go_wp2
    go_ret
    exact ⟨by simp, rfl⟩
  · have h1 : (1048576 : Int) < s.size := by omega
    go_enter Try.func10, Try.ntmps10
    go_wp2
    go_ret
    exact ⟨by simp [h], rfl⟩

set_option maxHeartbeats 400000 in
theorem law2_long (s : ByteArray) (i j : Int) (w : World) (hs : s.size ≤ maxLen) (h : ¬ s.size ≤ 1048576) :
    Calls Try.prog 4 #[.string s, .int .i64 i, .int .i64 j] w fun e w' => e = .returned (.bool true) ∧ Grown w w' := by
  have hd : decide (s.size ≤ 1048576) = false := by simp; omega
  go_enter Try.func4, Try.ntmps4
  go_wp2_with fail
  refine (bytes10 s i j _ hs).mono ?_
  rintro e w' ⟨rfl, rfl⟩
  go_wp2
  go_ret
  exact ⟨rfl, Grown.refl _⟩

set_option maxHeartbeats 400000 in
theorem law2_out (s : ByteArray) (i j : Int) (w : World) (hs : s.size ≤ 1048576) (h : i < 0 ∨ j ≤ i ∨ (s.size : Int) < j) :
    Calls Try.prog 4 #[.string s, .int .i64 i, .int .i64 j] w fun e w' => e = .returned (.bool true) ∧ Grown w w' := by
  have hd : decide (s.size ≤ 1048576) = true := by simp; omega
  have h2 : ¬ (1048576 : Int) < s.size := by omega
  by_cases h3 : i < 0
  · go_enter Try.func4, Try.ntmps4
    go_wp2_with fail
    refine (bytes10 s i j _ (by unfold maxLen; omega)).mono ?_
    rintro e w' ⟨rfl, rfl⟩
    go_wp2
    go_ret
    exact ⟨rfl, Grown.refl _⟩
  · by_cases h4 : j ≤ i
    · go_enter Try.func4, Try.ntmps4
      go_wp2_with fail
      refine (bytes10 s i j _ (by unfold maxLen; omega)).mono ?_
      rintro e w' ⟨rfl, rfl⟩
      go_wp2
      go_ret
      exact ⟨rfl, Grown.refl _⟩
    · have h5 : (s.size : Int) < j := by omega
      clear h
      go_enter Try.func4, Try.ntmps4
      go_wp2_with fail
      refine (bytes10 s i j _ (by unfold maxLen; omega)).mono ?_
      rintro e w' ⟨rfl, rfl⟩
      go_wp2
      go_ret
      exact ⟨rfl, Grown.refl _⟩

set_option maxHeartbeats 400000 in
theorem law2_in (s : ByteArray) (i j : Nat) (w : World) (hs : s.size ≤ 1048576) (h3 : i < j) (h4 : j ≤ s.size) :
    Calls Try.prog 4 #[.string s, .int .i64 i, .int .i64 j] w fun e w' => e = .returned (.bool true) ∧ Grown w w' := by
  have hd : decide (s.size ≤ 1048576) = true := by simp; omega
  have h2 : ¬ (1048576 : Int) < s.size := by omega
  have g1 : ¬ (j : Int) ≤ i := by omega
  have g2 : ¬ (s.size : Int) < j := by omega
  go_enter Try.func4, Try.ntmps4
  go_wp2_with fail
  refine (bytes10 s i j _ (by unfold maxLen; omega)).mono ?_
  rintro e w' ⟨rfl, rfl⟩
  go_wp2_with fail
  refine (zzRepeatEnd s i j _ hs (by omega) (by omega) (by omega)).mono ?_
  rintro e w' ⟨q, rfl, hq, n, rfl⟩
  rw [Int.toNat_natCast, Int.toNat_natCast] at hq
  have q1 := hq.lo
  have q2 := hq.hi
  have q3 : (((q : Int) - j) % ((j : Int) - i) != 0) = false := by
    obtain ⟨m, hm⟩ := hq.whole
    have e1 : ((q : Int) - j) = ((q - j : Nat) : Int) := by omega
    have e2 : ((j : Int) - i) = ((j - i : Nat) : Int) := by omega
    have e3 : q - j = m * (j - i) := by omega
    rw [e1, e2, e3, ← Int.natCast_emod, Nat.mul_mod_left]; rfl
  have q4 : ((s.extract (q - (j - i)) q).toList == (s.extract i j).toList) = true := by
    have e1 : q - (j - i) + (j - i) = q := by omega
    have e2 : i + (j - i) = j := by omega
    have := (piece_iff s (q - (j - i)) i (j - i) (by omega) (by omega)).2 (fun u hu => hq.copy h3 u hu)
    rw [e1, e2] at this
    exact this
  have Hq : Hid _ := hq
  clear hq
  go_wp2
  go_quiet (fail)
  go_wp2_with fail
  refine (zzRepeatEnd s _ _ _ hs (by omega) (by omega) (by omega)).mono ?_
  rintro e w' ⟨r, rfl, hr, n2, rfl⟩
  have hrq : r = q := by
    rw [show ((q : Int) - ((j : Int) - i)).toNat = q - (j - i) by omega, Int.toNat_natCast] at hr
    exact Hq.out.again h3 hr
  subst hrq
  clear hr
  go_wp2
  go_ret
  exact ⟨by simp, by first | exact grown_drewN _ _ | (rw [World.drewN_drewN]; exact grown_drewN _ _)⟩

theorem law2 (s : ByteArray) (i j : Int) (w : World) (hs : s.size ≤ maxLen) :
    Calls Try.prog 4 #[.string s, .int .i64 i, .int .i64 j] w fun e w' => e = .returned (.bool true) ∧ Grown w w' := by
  by_cases h : s.size ≤ 1048576
  · by_cases h2 : i < 0 ∨ j ≤ i ∨ (s.size : Int) < j
    · exact law2_out s i j w h h2
    · obtain ⟨a, rfl⟩ := Int.eq_ofNat_of_zero_le (show 0 ≤ i by omega)
      obtain ⟨b, rfl⟩ := Int.eq_ofNat_of_zero_le (show 0 ≤ j by omega)
      exact law2_in s a b w h (by omega) (by omega)
  · exact law2_long s i j w hs h

end Go.Proofs.Qxb6603886a.Rep
