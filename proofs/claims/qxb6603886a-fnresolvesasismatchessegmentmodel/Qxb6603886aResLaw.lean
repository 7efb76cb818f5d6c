import Derived.Test.Qxb6603886aMod
set_option linter.unusedVariables false
namespace Go.Proofs.Qxb6603886a.Res
open Go.ChangeShapes Go.WideShapes Go.ChangeAt Go.RowKit
open Go.Proofs.Qxb6603886a.Rep (fb fb_at fb_list)

set_option maxHeartbeats 400000 in
theorem bytes11 (s : ByteArray) (w : World) (hs : s.size ≤ maxLen) :
    Calls Try.prog 11 #[.string s] w fun e w' => e = .returned (.bool (decide (s.size ≤ 1048576))) ∧ w = w' := by
  unfold maxLen at hs
  by_cases h : s.size ≤ 1048576
  · have h1 : ¬ (1048576 : Int) < s.size := by omega
    go_enter Try.func11, Try.ntmps11
    go_wp2
    go_ret
    exact ⟨by simp, rfl⟩
  · have h1 : (1048576 : Int) < s.size := by omega
    go_enter Try.func11, Try.ntmps11
    go_wp2
    go_ret
    exact ⟨by simp [h], rfl⟩

set_option maxHeartbeats 400000 in
theorem zzResolves (s : ByteArray) (w : World) (hs : s.size ≤ 1048576) :
    Calls Try.prog 12 #[.string s] w fun e w' => Says s e ∧ w = w' := by
  go_enter Try.func12, Try.ntmps12
  go_wp2_with fail
  refine (resolvesAsIs s _ hs).mono ?_
  rintro e w' ⟨⟨b, rfl, hb⟩, rfl⟩
  have Hb : Hid _ := hb
  clear hb
  go_wp2
  go_ret
  exact ⟨⟨b, rfl, Hb.out⟩, rfl⟩

set_option maxHeartbeats 400000 in
theorem law3 (s : ByteArray) (w : World) (hs : s.size ≤ maxLen) :
    Calls Try.prog 5 #[.string s] w fun e w' => e = .returned (.bool true) ∧ Below w.heap.size w w' := by
  by_cases h : s.size ≤ 1048576
  · have hd : decide (s.size ≤ 1048576) = true := by simp; omega
    have h2 : ¬ (1048576 : Int) < s.size := by omega
    go_enter Try.func5, Try.ntmps5
    go_wp2_with fail
    refine (bytes11 s _ hs).mono ?_
    rintro e w' ⟨rfl, rfl⟩
    go_wp2_with fail
    refine (zzResolves s _ h).mono ?_
    rintro e w' ⟨⟨b, rfl, hb⟩, rfl⟩
    have Hb : Hid _ := hb
    clear hb
    go_wp2_with fail
    refine (resolvesModel s _ h).mono ?_
    rintro e w1 ⟨⟨c, rfl, hc⟩, hbel⟩
    have e1 : b = c := Bool.eq_iff_iff.2 (Hb.out.trans hc.symm)
    subst e1
    clear hc
    go_wp2
    go_ret
    exact ⟨by simp, hbel⟩
  · have hd : decide (s.size ≤ 1048576) = false := by simp; omega
    go_enter Try.func5, Try.ntmps5
    go_wp2_with fail
    refine (bytes11 s _ hs).mono ?_
    rintro e w' ⟨rfl, rfl⟩
    go_wp2
    go_ret
    exact ⟨rfl, Below.refl _ _⟩
end Go.Proofs.Qxb6603886a.Res
