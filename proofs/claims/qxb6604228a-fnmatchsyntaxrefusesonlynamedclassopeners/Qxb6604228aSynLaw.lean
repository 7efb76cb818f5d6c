import Derived.Test.Qxb6604228aSyn
set_option linter.unusedVariables false
namespace Go.Proofs.Qxb6604228a.Syn
open Go.ChangeShapes Go.WideShapes Go.ChangeAt Go.RowKit

/-- what zzHasPair answers -/
def PairSays (s : ByteArray) (a b : Nat) (e : Ending) : Prop := ∃ c : Bool, e = .returned (.bool c) ∧ (c = true ↔ Pair s a b)

set_option maxHeartbeats 1000000 in
theorem hasPair (s : ByteArray) (a b : Nat) (w : World) (hs : s.size ≤ 1048576) :
    Calls Try.prog 7 #[.string s, .int .u8 (a : Int), .int .u8 (b : Int)] w fun e w' => PairSays s a b e ∧ w = w' := by
  go_enter Try.func7, Try.ntmps7
  go_wp2
  go_loop [7] (fun iv => ∃ i : Nat, i ≤ s.size ∧ iv = .int .i64 i ∧ Hid (∀ t, t < i → ¬ (fb s t = a ∧ fb s (t + 1) = b))) (fun iv => s.size - (intOf iv).toNat)
  case atStart => exact ⟨0, Nat.zero_le _, rfl, fun t ht => absurd ht (by omega)⟩
  case round =>
    obtain ⟨i, hi, rfl, Hn⟩ := hrel
    by_cases hlt : i + 1 < s.size
    · have h0 : i < s.size := by omega
      have hx : (0 : Int) ≤ (i : Int) + 1 ∧ (i : Int) + 1 < s.size := by omega
      by_cases ea : (s[i].toNat : Int) = a
      · by_cases eb : (s[i + 1].toNat : Int) = b
        · have HP : Hid (Pair s a b) := ⟨i, hlt, by rw [fb_at s i h0]; omega, by rw [fb_at s _ hlt]; omega⟩
          go_wp2
          go_ret
          exact ⟨⟨true, rfl, by simp; exact HP.out⟩, rfl⟩
        · have b1 : ((s[i].toNat : Int) == a) = true := by simp; omega
          have b2 : ((s[i + 1].toNat : Int) == b) = false := by simp; omega
          have HN : Hid (¬ (fb s i = a ∧ fb s (i + 1) = b)) := by
            rintro ⟨_, e⟩; rw [fb_at s _ hlt] at e; omega
          clear ea eb
          go_wp2
          go_round
          case rel =>
            refine ⟨i + 1, by omega, by go_num, fun t ht => ?_⟩
            by_cases e : t = i
            · subst e; exact HN.out
            · exact Hn.out t (by omega)
          case measure => simp [intOf]; omega
      · have b1 : ((s[i].toNat : Int) == a) = false := by simp; omega
        have HN : Hid (¬ (fb s i = a ∧ fb s (i + 1) = b)) := by
          rintro ⟨e, _⟩; rw [fb_at s _ h0] at e; omega
        clear ea
        go_wp2
        go_round
        case rel =>
          refine ⟨i + 1, by omega, by go_num, fun t ht => ?_⟩
          by_cases e : t = i
          · subst e; exact HN.out
          · exact Hn.out t (by omega)
        case measure => simp [intOf]; omega
    · have HN : Hid (¬ Pair s a b) := by
        rintro ⟨t, h1, h2⟩
        exact Hn.out t (by omega) h2
      go_wp2
      go_ret
      exact ⟨⟨false, rfl, by simp; exact HN.out⟩, rfl⟩

set_option maxHeartbeats 400000 in
theorem bytes5 (s : ByteArray) (w : World) (hs : s.size ≤ maxLen) :
    Calls Try.prog 5 #[.string s] w fun e w' => e = .returned (.bool (decide (s.size ≤ 1048576))) ∧ w = w' := by
  unfold maxLen at hs
  by_cases h : s.size ≤ 1048576
  · have h1 : ¬ (1048576 : Int) < s.size := by omega
    go_enter Try.func5, Try.ntmps5
    go_wp2
    go_ret
    exact ⟨by simp, rfl⟩
  · have h1 : (1048576 : Int) < s.size := by omega
    go_enter Try.func5, Try.ntmps5
    go_wp2
    go_ret
    exact ⟨by simp [h], rfl⟩

set_option maxHeartbeats 400000 in
theorem zzMatchSyntax (s : ByteArray) (w : World) (hs : s.size ≤ 2097152) :
    Calls Try.prog 6 #[.string s] w fun e w' => Says s e ∧ Below w.heap.size w w' := by
  go_enter Try.func6, Try.ntmps6
  go_wp2_with fail
  refine (matchSyntax s _ hs).mono ?_
  rintro e w' ⟨⟨rfl, hp⟩ | ⟨L, rfl, ht, ho⟩, hb⟩
  · have Hp : Hid _ := hp
    clear hp
    go_wp2
    go_ret2
    exact ⟨.inl ⟨rfl, Hp.out⟩, hb⟩
  · have Ht : Hid (Turned s L) := ht
    have Ho : Hid (¬ Opens s) := ho
    clear ht ho
    go_wp2
    go_ret2
    exact ⟨.inr ⟨L, rfl, Ht.out, Ho.out⟩, hb⟩

theorem opens_q (s : ByteArray) : Opens (⟨#[91, 91, 58]⟩ ++ s) := by
  have h : ((⟨#[91, 91, 58]⟩ : ByteArray) ++ s).data.toList = 91 :: 91 :: 58 :: s.data.toList := by simp
  refine ⟨?_, ?_, ?_⟩ <;> rw [fb_list, h] <;> rfl

set_option maxHeartbeats 1000000 in
theorem law (s : ByteArray) (w : World) (hs : s.size ≤ maxLen) :
    Calls Try.prog 3 #[.string s] w fun e w' => e = .returned (.bool true) ∧ Below w.heap.size w w' := by
  by_cases h : s.size ≤ 1048576
  · have hd : decide (s.size ≤ 1048576) = true := by simp; omega
    have h2 : ¬ (1048576 : Int) < s.size := by omega
    go_enter Try.func3, Try.ntmps3
    go_wp2_with fail
    refine (bytes5 s _ hs).mono ?_
    rintro e w' ⟨rfl, rfl⟩
    go_wp2_with fail
    refine (zzMatchSyntax s _ (by omega)).mono ?_
    rintro e w1 ⟨⟨rfl, hp⟩ | ⟨L, rfl, ht, ho⟩, hb1⟩
    · have Hp : Hid (Pair s 91 58) := hp
      clear hp
      go_wp2_with fail
      refine (hasPair s 91 58 _ h).mono ?_
      rintro e w' ⟨⟨c, rfl, hc⟩, rfl⟩
      have hc1 : c = true := hc.2 Hp.out
      subst hc1
      clear hc
      go_wp2_with fail
      refine (zzMatchSyntax _ _ (by rw [ByteArray.size_append]; show 3 + _ ≤ _; omega)).mono ?_
      rintro e w2 ⟨⟨rfl, hp2⟩ | ⟨L2, rfl, ht2, ho2⟩, hb2⟩
      · clear hp2
        have HB : Hid (Below w.heap.size w w2) := hb1.trans (hb2.mono hb1.size)
        clear hb1 hb2
        go_wp2
        go_ret
        exact ⟨rfl, HB.out⟩
      · exact absurd (opens_q s) ho2
    · have Ht : Hid (Turned s L) := ht
      clear ht ho
      go_wp2_with fail
      refine (hasPair s 91 33 _ h).mono ?_
      rintro e w' ⟨⟨c, rfl, hc⟩, rfl⟩
      cases c with
      | true =>
        clear hc
        go_wp2_with fail
        refine (zzMatchSyntax _ _ (by rw [ByteArray.size_append]; show 3 + _ ≤ _; omega)).mono ?_
        rintro e w2 ⟨⟨rfl, hp2⟩ | ⟨L2, rfl, ht2, ho2⟩, hb2⟩
        · clear hp2
          have HB : Hid (Below w.heap.size w w2) := hb1.trans (hb2.mono hb1.size)
          clear hb1 hb2
          go_wp2
          go_ret
          exact ⟨rfl, HB.out⟩
        · exact absurd (opens_q s) ho2
      | false =>
        have hno : ¬ Pair s 91 33 := fun e => by have := hc.2 e; cases this
        have hL : (⟨L.toArray⟩ : ByteArray) = s := by rw [Ht.out.same hno]
        rw [hL]
        clear hc hL hno
        go_wp2_with fail
        refine (zzMatchSyntax _ _ (by rw [ByteArray.size_append]; show 3 + _ ≤ _; omega)).mono ?_
        rintro e w2 ⟨⟨rfl, hp2⟩ | ⟨L2, rfl, ht2, ho2⟩, hb2⟩
        · clear hp2
          have HB : Hid (Below w.heap.size w w2) := hb1.trans (hb2.mono hb1.size)
          clear hb1 hb2
          go_wp2
          go_ret
          exact ⟨rfl, HB.out⟩
        · exact absurd (opens_q s) ho2
  · have hd : decide (s.size ≤ 1048576) = false := by simp; omega
    go_enter Try.func3, Try.ntmps3
    go_wp2_with fail
    refine (bytes5 s _ hs).mono ?_
    rintro e w' ⟨rfl, rfl⟩
    go_wp2
    go_ret
    exact ⟨rfl, Below.refl _ _⟩
end Go.Proofs.Qxb6604228a.Syn
