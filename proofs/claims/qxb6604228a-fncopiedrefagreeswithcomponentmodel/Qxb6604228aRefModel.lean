import Derived.Test.Qxb6604228aRef
import Derived.Test.Qxb6604228aRefPlain
set_option linter.unusedVariables false
namespace Go.Proofs.Qxb6604228a.Ref
open Go.ChangeShapes Go.WideShapes Go.ChangeAt Go.RowKit
open Go.Proofs.Qxb6604228a.Syn (fb fb_at fb_past fb_list)

theorem pre_list (s : ByteArray) (W : List UInt8) (p : ByteArray) (hp : p.data.toList = refs ++ W ++ [47]) : pre s p = (refs ++ W ++ [47]).isPrefixOf s.data.toList := by
  unfold pre Lib.hasPrefix; rw [hp]

theorem refused_iff (s : ByteArray) (h0 : ¬ s.data.toList = []) (h1 : ¬ s.data.toList = [114, 101, 102, 115, 47, 115, 116, 97, 115, 104]) :
    Refused s ↔ ((refs ++ [111, 102, 102, 115, 104, 111, 111, 116] ++ [47]).isPrefixOf s.data.toList = true ∨ (refs ++ [98, 105, 115, 101, 99, 116] ++ [47]).isPrefixOf s.data.toList = true ∨ (refs ++ [119, 111, 114, 107, 116, 114, 101, 101] ++ [47]).isPrefixOf s.data.toList = true ∨ (refs ++ [114, 101, 119, 114, 105, 116, 116, 101, 110] ++ [47]).isPrefixOf s.data.toList = true) := by
  unfold Refused
  rw [pre_list s [111, 102, 102, 115, 104, 111, 111, 116] _ rfl, pre_list s [98, 105, 115, 101, 99, 116] _ rfl, pre_list s [119, 111, 114, 107, 116, 114, 101, 101] _ rfl, pre_list s [114, 101, 119, 114, 105, 116, 116, 101, 110] _ rfl]
  simp only [h0, h1, false_or]

/-- no name that does not open with the common head is refused -/
theorem not_refs (s : ByteArray) (h0 : ¬ s.data.toList = []) (h1 : ¬ s.data.toList = [114, 101, 102, 115, 47, 115, 116, 97, 115, 104]) (h : s.size < 5 ∨ s.data.toList.take 5 ≠ refs) : ¬ Refused s := by
  rw [refused_iff s h0 h1]
  have hz := Lib.size_eq s
  have key : ∀ W, ¬ (refs ++ W ++ [47]).isPrefixOf s.data.toList = true := by
    intro W e
    obtain ⟨e1, e2⟩ := pre_head _ W e
    rcases h with h | h
    · omega
    · exact h e2
  rintro (e | e | e | e)
  · exact key _ e
  · exact key _ e
  · exact key _ e
  · exact key _ e

theorem refused_rest (s : ByteArray) (h0 : ¬ s.data.toList = []) (h1 : ¬ s.data.toList = [114, 101, 102, 115, 47, 115, 116, 97, 115, 104]) (h : s.data.toList.take 5 = refs) (R : List UInt8) (hR : R = s.data.toList.drop 5) :
    Refused s ↔ ((∃ t, R = [111, 102, 102, 115, 104, 111, 111, 116] ++ 47 :: t) ∨ (∃ t, R = [98, 105, 115, 101, 99, 116] ++ 47 :: t) ∨ (∃ t, R = [119, 111, 114, 107, 116, 114, 101, 101] ++ 47 :: t) ∨ (∃ t, R = [114, 101, 119, 114, 105, 116, 116, 101, 110] ++ 47 :: t)) := by
  rw [refused_iff s h0 h1, pre_rest _ _ h, pre_rest _ _ h, pre_rest _ _ h, pre_rest _ _ h, hR]

theorem refused_word (s : ByteArray) (h0 : ¬ s.data.toList = []) (h1 : ¬ s.data.toList = [114, 101, 102, 115, 47, 115, 116, 97, 115, 104]) (h : s.data.toList.take 5 = refs) (R : List UInt8) (hR : R = s.data.toList.drop 5)
    (j : Nat) (hj : R[j]? = some 47) (hno : ∀ t, t < j → R[t]? ≠ some 47) : Refused s ↔ (R.take j = [111, 102, 102, 115, 104, 111, 111, 116] ∨ R.take j = [98, 105, 115, 101, 99, 116] ∨ R.take j = [119, 111, 114, 107, 116, 114, 101, 101] ∨ R.take j = [114, 101, 119, 114, 105, 116, 116, 101, 110]) := by
  rw [refused_rest s h0 h1 h R hR, word_iff R [111, 102, 102, 115, 104, 111, 111, 116] (by decide) j hj hno, word_iff R [98, 105, 115, 101, 99, 116] (by decide) j hj hno, word_iff R [119, 111, 114, 107, 116, 114, 101, 101] (by decide) j hj hno, word_iff R [114, 101, 119, 114, 105, 116, 116, 101, 110] (by decide) j hj hno]

theorem refused_none (s : ByteArray) (h0 : ¬ s.data.toList = []) (h1 : ¬ s.data.toList = [114, 101, 102, 115, 47, 115, 116, 97, 115, 104]) (h : s.data.toList.take 5 = refs) (R : List UInt8) (hR : R = s.data.toList.drop 5)
    (hno : ∀ t : Nat, R[t]? ≠ some 47) : ¬ Refused s := by
  rw [refused_rest s h0 h1 h R hR]
  rintro (e | e | e | e)
  · exact no_word R _ hno e
  · exact no_word R _ hno e
  · exact no_word R _ hno e
  · exact no_word R _ hno e

theorem sign47 (r : ByteArray) (t : Nat) : r.data.toList[t]? = some 47 ↔ fb r t = 47 := by
  rw [fb_list]
  constructor
  · intro h; rw [h]; rfl
  · intro h
    by_cases ht : t < r.data.toList.length
    · rw [List.getElem?_eq_getElem ht] at h ⊢
      congr 1
      apply UInt8.toNat_inj.1
      exact h
    · rw [List.getElem?_eq_none (by omega)] at h; cases h

set_option maxHeartbeats 1000000 in
theorem model_none (s : ByteArray) (w : World) (h0 : s.data.toList = []) : Calls Try.prog 10 #[.string s] w fun e w' => Says s e ∧ w = w' := by
  have H : Hid (Refused s) := .inl h0
  have h1 : s.toList = [] := by rw [Lib.toList_data]; exact h0
  clear h0
  go_enter Try.func10, Try.ntmps10
  go_wp2
  go_ret
  exact ⟨says_false H.out, rfl⟩

set_option maxHeartbeats 1000000 in
theorem model_stash (s : ByteArray) (w : World) (h0 : s.data.toList = [114, 101, 102, 115, 47, 115, 116, 97, 115, 104]) : Calls Try.prog 10 #[.string s] w fun e w' => Says s e ∧ w = w' := by
  have H : Hid (Refused s) := .inr (.inl h0)
  have h1 : s.toList = [114, 101, 102, 115, 47, 115, 116, 97, 115, 104] := by rw [Lib.toList_data]; exact h0
  clear h0
  go_enter Try.func10, Try.ntmps10
  go_wp2
  go_ret
  exact ⟨says_false H.out, rfl⟩

set_option maxHeartbeats 2000000 in
theorem model_more (s : ByteArray) (w : World) (hs : s.size ≤ 1048576) (h0 : ¬ s.data.toList = []) (h1 : ¬ s.data.toList = [114, 101, 102, 115, 47, 115, 116, 97, 115, 104]) :
    Calls Try.prog 10 #[.string s] w fun e w' => Says s e ∧ w = w' := by
  have g0 : s.toList.isEmpty = false := by rw [Lib.toList_data]; simpa using h0
  have g1 : (s.toList == [114, 101, 102, 115, 47, 115, 116, 97, 115, 104]) = false := by rw [Lib.toList_data]; simpa using h1
  have H0 : Hid (¬ s.data.toList = []) := h0
  have H1 : Hid (¬ s.data.toList = [114, 101, 102, 115, 47, 115, 116, 97, 115, 104]) := h1
  clear h0 h1
  by_cases h5 : s.size < 5
  · have HN : Hid (¬ Refused s) := not_refs s H0.out H1.out (.inl h5)
    have k5 : (s.size : Int) < 5 := by omega
    go_enter Try.func10, Try.ntmps10
    go_wp2
    go_ret
    exact ⟨says_true HN.out, rfl⟩
  · have k5 : ¬ (s.size : Int) < 5 := by omega
    have e5 : (s.extract 0 5).toList = s.data.toList.take 5 := by rw [Lib.extract_toList]; simp
    by_cases hr : s.data.toList.take 5 = refs
    · have k6 : ((s.extract 0 5).toList == [114, 101, 102, 115, 47]) = true := by rw [e5, hr]; rfl
      have HR : Hid (s.data.toList.take 5 = refs) := hr
      clear hr e5
      go_enter Try.func10, Try.ntmps10
      go_wp2
      have er : (s.extract 5 s.size).data.toList = s.data.toList.drop 5 := Lib.extract_to_end s 5
      have zr : (s.extract 5 s.size).size ≤ 1048576 := by rw [ByteArray.size_extract]; omega
      have HE : Hid ((s.extract 5 s.size).data.toList = s.data.toList.drop 5) := er
      clear er
      generalize s.extract 5 s.size = r at *
      go_loop [4, 5] (fun jv iv => ∃ i : Nat, i ≤ r.size ∧ jv = .int .i64 (-1) ∧ iv = .int .i64 i ∧ Hid (∀ t, t < i → fb r t ≠ 47)) (fun _ iv => r.size - (intOf iv).toNat)
      case atStart => exact ⟨0, Nat.zero_le _, rfl, rfl, fun t ht => absurd ht (by omega)⟩
      case round =>
        obtain ⟨i, hi, rfl, rfl, Hno⟩ := hrel
        by_cases hlt : i < r.size
        · by_cases e47 : (r[i].toNat : Int) = 47
          · have hj : r.data.toList[i]? = some 47 := (sign47 r i).2 (by rw [fb_at r i hlt]; omega)
            have HB : Hid _ := refused_word s H0.out H1.out HR.out r.data.toList HE.out i hj (fun t ht e => Hno.out t ht ((sign47 r t).1 e))
            have ev : (r.extract 0 i).toList = r.data.toList.take i := by rw [Lib.extract_toList]; simp
            clear hj
            by_cases y1 : r.data.toList.take i = [111, 102, 102, 115, 104, 111, 111, 116]
            · have HF : Hid (Refused s) := HB.out.2 (.inl y1)
              have v1 : ((r.extract 0 i).toList == [111, 102, 102, 115, 104, 111, 111, 116]) = true := by rw [ev]; simpa using y1
              clear HB ev y1
              go_wp2
              go_ret
              exact ⟨says_false HF.out, rfl⟩
            by_cases y2 : r.data.toList.take i = [98, 105, 115, 101, 99, 116]
            · have HF : Hid (Refused s) := HB.out.2 (.inr (.inl y2))
              have v1 : ((r.extract 0 i).toList == [111, 102, 102, 115, 104, 111, 111, 116]) = false := by rw [ev]; simpa using y1
              have v2 : ((r.extract 0 i).toList == [98, 105, 115, 101, 99, 116]) = true := by rw [ev]; simpa using y2
              clear HB ev y1 y2
              go_wp2
              go_ret
              exact ⟨says_false HF.out, rfl⟩
            by_cases y3 : r.data.toList.take i = [119, 111, 114, 107, 116, 114, 101, 101]
            · have HF : Hid (Refused s) := HB.out.2 (.inr (.inr (.inl y3)))
              have v1 : ((r.extract 0 i).toList == [111, 102, 102, 115, 104, 111, 111, 116]) = false := by rw [ev]; simpa using y1
              have v2 : ((r.extract 0 i).toList == [98, 105, 115, 101, 99, 116]) = false := by rw [ev]; simpa using y2
              have v3 : ((r.extract 0 i).toList == [119, 111, 114, 107, 116, 114, 101, 101]) = true := by rw [ev]; simpa using y3
              clear HB ev y1 y2 y3
              go_wp2
              go_ret
              exact ⟨says_false HF.out, rfl⟩
            by_cases y4 : r.data.toList.take i = [114, 101, 119, 114, 105, 116, 116, 101, 110]
            · have HF : Hid (Refused s) := HB.out.2 (.inr (.inr (.inr y4)))
              have v1 : ((r.extract 0 i).toList == [111, 102, 102, 115, 104, 111, 111, 116]) = false := by rw [ev]; simpa using y1
              have v2 : ((r.extract 0 i).toList == [98, 105, 115, 101, 99, 116]) = false := by rw [ev]; simpa using y2
              have v3 : ((r.extract 0 i).toList == [119, 111, 114, 107, 116, 114, 101, 101]) = false := by rw [ev]; simpa using y3
              have v4 : ((r.extract 0 i).toList == [114, 101, 119, 114, 105, 116, 116, 101, 110]) = true := by rw [ev]; simpa using y4
              clear HB ev y1 y2 y3 y4
              go_wp2
              go_ret
              exact ⟨says_false HF.out, rfl⟩
            have HN : Hid (¬ Refused s) := by
              intro e
              rcases HB.out.1 e with e | e | e | e
              · exact y1 e
              · exact y2 e
              · exact y3 e
              · exact y4 e
            have v1 : ((r.extract 0 i).toList == [111, 102, 102, 115, 104, 111, 111, 116]) = false := by rw [ev]; simpa using y1
            have v2 : ((r.extract 0 i).toList == [98, 105, 115, 101, 99, 116]) = false := by rw [ev]; simpa using y2
            have v3 : ((r.extract 0 i).toList == [119, 111, 114, 107, 116, 114, 101, 101]) = false := by rw [ev]; simpa using y3
            have v4 : ((r.extract 0 i).toList == [114, 101, 119, 114, 105, 116, 116, 101, 110]) = false := by rw [ev]; simpa using y4
            clear HB ev y1 y2 y3 y4
            go_wp2
            go_ret
            exact ⟨says_true HN.out, rfl⟩
          · have b47 : ((r[i].toNat : Int) == 47) = false := by simp; omega
            have HN : Hid (fb r i ≠ 47) := by
              show fb r i ≠ 47
              rw [fb_at r i hlt]; omega
            clear e47
            go_wp2
            go_round
            case rel =>
              refine ⟨i + 1, by omega, rfl, by go_num, fun t ht => ?_⟩
              by_cases e : t = i
              · subst e; exact HN.out
              · exact Hno.out t (by omega)
            case measure => simp [intOf]; omega
        · have HN : Hid (¬ Refused s) := refused_none s H0.out H1.out HR.out r.data.toList HE.out fun t e => by
            have e2 := (sign47 r t).1 e
            by_cases ht : t < i
            · exact Hno.out t ht e2
            · rw [fb_past r t (by omega)] at e2; cases e2
          go_wp2
          go_ret
          exact ⟨says_true HN.out, rfl⟩
    · have k6 : ((s.extract 0 5).toList == [114, 101, 102, 115, 47]) = false := by rw [e5]; simpa [refs] using hr
      have HN : Hid (¬ Refused s) := not_refs s H0.out H1.out (.inr hr)
      clear hr e5
      go_enter Try.func10, Try.ntmps10
      go_wp2
      go_ret
      exact ⟨says_true HN.out, rfl⟩

theorem copiedRef (s : ByteArray) (w : World) (hs : s.size ≤ 1048576) : Calls Try.prog 12 #[.string s] w fun e w' => Says s e ∧ Below w.heap.size w w' := by
  by_cases h0 : s.data.toList = []
  · exact copiedRef_none s w h0
  · by_cases h1 : s.data.toList = [114, 101, 102, 115, 47, 115, 116, 97, 115, 104]
    · exact copiedRef_stash s w h1
    · exact copiedRef_more s w hs h0 h1

theorem model (s : ByteArray) (w : World) (hs : s.size ≤ 1048576) : Calls Try.prog 10 #[.string s] w fun e w' => Says s e ∧ w = w' := by
  by_cases h0 : s.data.toList = []
  · exact model_none s w h0
  · by_cases h1 : s.data.toList = [114, 101, 102, 115, 47, 115, 116, 97, 115, 104]
    · exact model_stash s w h1
    · exact model_more s w hs h0 h1

set_option maxHeartbeats 400000 in
theorem zzCopiedRef (s : ByteArray) (w : World) (hs : s.size ≤ 1048576) : Calls Try.prog 9 #[.string s] w fun e w' => Says s e ∧ Below w.heap.size w w' := by
  go_enter Try.func9, Try.ntmps9
  go_wp2_with fail
  refine (copiedRef s _ hs).mono ?_
  rintro e w' ⟨⟨b, rfl, hb⟩, hbel⟩
  have Hb : Hid _ := hb
  clear hb
  go_wp2
  go_ret
  exact ⟨⟨b, rfl, Hb.out⟩, hbel⟩

set_option maxHeartbeats 400000 in
theorem bytes8 (s : ByteArray) (w : World) (hs : s.size ≤ maxLen) :
    Calls Try.prog 8 #[.string s] w fun e w' => e = .returned (.bool (decide (s.size ≤ 1048576))) ∧ w = w' := by
  unfold maxLen at hs
  by_cases h : s.size ≤ 1048576
  · have h1 : ¬ (1048576 : Int) < s.size := by omega
    go_enter Try.func8, Try.ntmps8
    go_wp2
    go_ret
    exact ⟨by simp, rfl⟩
  · have h1 : (1048576 : Int) < s.size := by omega
    go_enter Try.func8, Try.ntmps8
    go_wp2
    go_ret
    exact ⟨by simp [h], rfl⟩

set_option maxHeartbeats 400000 in
theorem law (s : ByteArray) (w : World) (hs : s.size ≤ maxLen) :
    Calls Try.prog 4 #[.string s] w fun e w' => e = .returned (.bool true) ∧ Below w.heap.size w w' := by
  by_cases h : s.size ≤ 1048576
  · have hd : decide (s.size ≤ 1048576) = true := by simp; omega
    have h2 : ¬ (1048576 : Int) < s.size := by omega
    go_enter Try.func4, Try.ntmps4
    go_wp2_with fail
    refine (bytes8 s _ hs).mono ?_
    rintro e w' ⟨rfl, rfl⟩
    go_wp2_with fail
    refine (zzCopiedRef s _ h).mono ?_
    rintro e w1 ⟨⟨b, rfl, hb⟩, hbel⟩
    have Hb : Hid (b = true ↔ ¬ Refused s) := hb
    clear hb
    go_wp2_with fail
    refine (model s _ h).mono ?_
    rintro e w2 ⟨⟨c, rfl, hc⟩, rfl⟩
    have e1 : b = c := Bool.eq_iff_iff.2 (Hb.out.trans hc.symm)
    subst e1
    clear hc
    go_wp2
    go_ret
    exact ⟨by simp, hbel⟩
  · have hd : decide (s.size ≤ 1048576) = false := by simp; omega
    go_enter Try.func4, Try.ntmps4
    go_wp2_with fail
    refine (bytes8 s _ hs).mono ?_
    rintro e w' ⟨rfl, rfl⟩
    go_wp2
    go_ret
    exact ⟨rfl, Below.refl _ _⟩
end Go.Proofs.Qxb6604228a.Ref
