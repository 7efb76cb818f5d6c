import Derived.Test.Qxb6603886aRep
set_option linter.unusedVariables false
namespace Go.Proofs.Qxb6603886a.Rep
open Go.ChangeShapes Go.WideShapes Go.ChangeAt Go.RowKit

theorem grown_drewN (w : World) (n : Nat) : Grown w (w.drewN n) := by
  induction n with
  | zero => exact Grown.refl _
  | succ n ih => exact Grown.drew ih

set_option maxHeartbeats 400000 in
theorem bytes8 (s : ByteArray) (i j : Int) (w : World) (hs : s.size ≤ maxLen) :
    Calls Try.prog 8 #[.string s, .int .i64 i, .int .i64 j] w fun e w' => e = .returned (.bool (decide (s.size ≤ 1048576))) ∧ w = w' := by
  unfold maxLen at hs
  by_cases h : s.size ≤ 1048576
  · have h1 : ¬ (1048576 : Int) < s.size := by omega
    go_enter Try.func8, Try.ntmps8
    go_wp2
    go_ret
    exact ⟨by simp, rfl⟩
  · have h1 : (1048576 : Int) < s.size := by omega
    go_enter Try.func8, Try.ntmps8
    go_wp2
    go_ret
    exact ⟨by simp [h], rfl⟩

set_option maxHeartbeats 400000 in
theorem law1_long (s : ByteArray) (i j : Int) (w : World) (hs : s.size ≤ maxLen) (h : ¬ s.size ≤ 1048576) :
    Calls Try.prog 3 #[.string s, .int .i64 i, .int .i64 j] w fun e w' => e = .returned (.bool true) ∧ Grown w w' := by
  have hd : decide (s.size ≤ 1048576) = false := by simp; omega
  go_enter Try.func3, Try.ntmps3
  go_wp2_with fail
  refine (bytes8 s i j _ hs).mono ?_
  rintro e w' ⟨rfl, rfl⟩
  go_wp2
  go_ret
  exact ⟨rfl, Grown.refl _⟩

set_option maxHeartbeats 400000 in
theorem law1_out (s : ByteArray) (i j : Int) (w : World) (hs : s.size ≤ 1048576) (h : i < 0 ∨ j ≤ i ∨ (s.size : Int) < j) :
    Calls Try.prog 3 #[.string s, .int .i64 i, .int .i64 j] w fun e w' => e = .returned (.bool true) ∧ Grown w w' := by
  have hd : decide (s.size ≤ 1048576) = true := by simp; omega
  have h2 : ¬ (1048576 : Int) < s.size := by omega
  by_cases h3 : i < 0
  · go_enter Try.func3, Try.ntmps3
    go_wp2_with fail
    refine (bytes8 s i j _ (by unfold maxLen; omega)).mono ?_
    rintro e w' ⟨rfl, rfl⟩
    go_wp2
    go_ret
    exact ⟨rfl, Grown.refl _⟩
  · by_cases h4 : j ≤ i
    · go_enter Try.func3, Try.ntmps3
      go_wp2_with fail
      refine (bytes8 s i j _ (by unfold maxLen; omega)).mono ?_
      rintro e w' ⟨rfl, rfl⟩
      go_wp2
      go_ret
      exact ⟨rfl, Grown.refl _⟩
    · have h5 : (s.size : Int) < j := by omega
      clear h
      go_enter Try.func3, Try.ntmps3
      go_wp2_with fail
      refine (bytes8 s i j _ (by unfold maxLen; omega)).mono ?_
      rintro e w' ⟨rfl, rfl⟩
      go_wp2
      go_ret
      exact ⟨rfl, Grown.refl _⟩

theorem index_back (s : ByteArray) (i j k : Nat) (h : i < j) (h1 : j ≤ k) (h2 : k < s.size) (wx : World) :
    (Instr.index 9 (.string s) (.int .i64 ((k : Int) - ((j : Int) - i)))).run Try.prog wx = .ok (.int .u8 (fb s (k - (j - i)) : Nat)) wx := by
  have e : ((k : Int) - ((j : Int) - i)) = ((k - (j - i) : Nat) : Int) := by omega
  have hk : k - (j - i) < s.size := by omega
  rw [e, run_index_string wx 9 s .i64 _ Try.underlying9, dif_pos ⟨by omega, by omega⟩, fb_at s _ hk]
  rfl

theorem ret_bool {b : Bool} (h : b = true) : Ending.returned (.bool b) = .returned (.bool true) := by rw [h]

theorem fin1 {f : Nat → Nat} {N i j q k : Nat} (hq : RE f N i j q) (hN : N ≤ 1048576) (hij : i < j) (h1 : j ≤ k) (h2 : k ≤ N) (per : ∀ t, j ≤ t → t < k → f t = f (t - (j - i)))
    (hend : k = N ∨ f k ≠ f (k - (j - i))) : ((q : Int) == wrap64 ((j : Int) + wrap64 (((k : Int) - j) / ((j : Int) - i) * ((j : Int) - i)))) = true := by
  have h := hq.run hij h1 h2 per hend
  have e1 : ((k : Int) - j) = ((k - j : Nat) : Int) := by omega
  have e2 : ((j : Int) - i) = ((j - i : Nat) : Int) := by omega
  have e3 : ((k - j : Nat) : Int) / ((j - i : Nat) : Int) * ((j - i : Nat) : Int) = (((k - j) / (j - i) * (j - i) : Nat) : Int) := by rw [Int.natCast_mul, Int.natCast_ediv]
  have hb := hq.hi
  rw [e1, e2, e3]
  generalize (k - j) / (j - i) * (j - i) = m at h
  rw [IntWalk.wrap64_in (m : Int) (by omega), IntWalk.wrap64_in _ (by omega), beq_iff_eq]
  omega

set_option maxHeartbeats 400000 in
theorem law1_in (s : ByteArray) (i j : Nat) (w : World) (hs : s.size ≤ 1048576) (h3 : i < j) (h4 : j ≤ s.size) :
    Calls Try.prog 3 #[.string s, .int .i64 i, .int .i64 j] w fun e w' => e = .returned (.bool true) ∧ Grown w w' := by
  have hd : decide (s.size ≤ 1048576) = true := by simp; omega
  have h2 : ¬ (1048576 : Int) < s.size := by omega
  have g1 : ¬ (j : Int) ≤ i := by omega
  have g2 : ¬ (s.size : Int) < j := by omega
  go_enter Try.func3, Try.ntmps3
  go_wp2_with fail
  refine (bytes8 s i j _ (by unfold maxLen; omega)).mono ?_
  rintro e w' ⟨rfl, rfl⟩
  go_wp2_with fail
  refine (zzRepeatEnd s i j _ hs (by omega) (by omega) (by omega)).mono ?_
  rintro e w' ⟨q, rfl, hq, n, rfl⟩
  rw [Int.toNat_natCast, Int.toNat_natCast] at hq
  have Hq : Hid _ := hq
  clear hq
  go_wp2
  go_loopw [9] (fun tv w' => ∃ k : Nat, j ≤ k ∧ k ≤ s.size ∧ tv = .int .i64 k ∧ Hid (∀ t, j ≤ t → t < k → fb s t = fb s (t - (j - i))) ∧ ∃ n, w' = w.drewN n) (fun tv _ => s.size - (intOf tv).toNat)
  case atStart => exact ⟨j, Nat.le_refl _, h4, rfl, fun t a b => absurd a (by omega), n, rfl⟩
  case round =>
    obtain ⟨k, hk1, hk2, rfl, Hp, n, rfl⟩ := hrel
    by_cases hlt : k < s.size
    · have hix := index_back s i j k h3 hk1 hlt
      go_wp2
      go_quiet (fail)
      go_wp2
      · have heq := ‹((s[k].toNat : Int) == (fb s (k - (j - i)) : Nat)) = true›
        go_roundw
        case rel =>
          refine ⟨k + 1, by omega, by omega, by go_num, fun t a b => ?_, _, rfl⟩
          by_cases ht : t < k
          · exact Hp.out t a ht
          · obtain rfl : t = k := by omega
            rw [fb_at s t hlt]
            simp at heq
            omega
        case measure => simp [intOf]; omega
      · have hne := ‹((s[k].toNat : Int) == (fb s (k - (j - i)) : Nat)) = false›
        go_ret
        refine ⟨ret_bool (fin1 Hq.out hs h3 hk1 hk2 Hp.out (.inr ?_)), grown_drewN _ _⟩
        rw [fb_at s k hlt]
        simp at hne
        omega
    · have hdd : decide ((k : Int) < s.size) = false := by simp; omega
      go_wp2
      go_quiet (fail)
      go_wp2
      go_ret
      exact ⟨ret_bool (fin1 Hq.out hs h3 hk1 hk2 Hp.out (.inl (by omega))), grown_drewN _ _⟩

theorem law1 (s : ByteArray) (i j : Int) (w : World) (hs : s.size ≤ maxLen) :
    Calls Try.prog 3 #[.string s, .int .i64 i, .int .i64 j] w fun e w' => e = .returned (.bool true) ∧ Grown w w' := by
  by_cases h : s.size ≤ 1048576
  · by_cases h2 : i < 0 ∨ j ≤ i ∨ (s.size : Int) < j
    · exact law1_out s i j w h h2
    · obtain ⟨a, rfl⟩ := Int.eq_ofNat_of_zero_le (show 0 ≤ i by omega)
      obtain ⟨b, rfl⟩ := Int.eq_ofNat_of_zero_le (show 0 ≤ j by omega)
      exact law1_in s a b w h (by omega) (by omega)
  · exact law1_long s i j w hs h

end Go.Proofs.Qxb6603886a.Rep
