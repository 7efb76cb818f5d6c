import Derived.Test.Qxb6603886aDec
set_option linter.unusedVariables false
namespace Go.Proofs.Qxb6603886a.Res
open Go.ChangeShapes Go.WideShapes Go.ChangeAt Go.RowKit
open Go.Proofs.Qxb6603886a.Rep (fb fb_at fb_list)

theorem strip_len (l t : List UInt8) (h : strip l = some t) : l.length ≤ t.length + 3 := by
  match l, h with
  | [], h => cases h
  | [a], h => simp
  | [a, b], h => simp
  | a :: b :: c :: u, h =>
    simp only [strip] at h
    split at h
    · cases h; simp
    · split at h
      · cases h; simp
      · cases h

theorem isDot_len (l : List UInt8) (h : isDot l) : l.length ≤ 6 := by
  obtain ⟨t, h1, h2⟩ := (isDot_iff l).1 h
  have := strip_len l t h1
  rcases h2 with rfl | h2
  · simp at this; omega
  · have := strip_len t [] h2; simp at this; omega

set_option maxHeartbeats 1000000 in
theorem isDotSegment_yes (s : ByteArray) (w : World) (h : isDot s.data.toList) :
    Calls Try.prog 24 #[.string s] w fun e w' => e = .returned (.bool true) ∧ Below w.heap.size w w' := by
  have hl : s.size ≤ 6 := by rw [Lib.size_eq]; exact isDot_len _ h
  have hl2 : ¬ (6 : Int) < s.size := by omega
  have H : Hid (isDot s.data.toList) := h
  clear h
  go_enter Try.func24, Try.ntmps24
  go_wp2_with fail
  refine (decode s _ (by omega)).mono ?_
  rintro e w1 ⟨rfl, hb⟩
  rcases H.out with h | h
  · rw [h]
    go_wp2
    go_ret
    exact ⟨rfl, hb⟩
  · rw [h]
    go_wp2
    go_ret
    exact ⟨rfl, hb⟩

set_option maxHeartbeats 1000000 in
theorem isDotSegment_no (s : ByteArray) (w : World) (hs : s.size ≤ 1048576) (h : ¬ isDot s.data.toList) :
    Calls Try.prog 24 #[.string s] w fun e w' => e = .returned (.bool false) ∧ Below w.heap.size w w' := by
  by_cases h6 : (6 : Int) < s.size
  · go_enter Try.func24, Try.ntmps24
    go_wp2_with fail
    go_ret
    exact ⟨rfl, Below.refl _ _⟩
  · have H : Hid (¬ isDot s.data.toList) := h
    clear h
    go_enter Try.func24, Try.ntmps24
    go_wp2_with fail
    refine (decode s _ (by omega)).mono ?_
    rintro e w1 ⟨rfl, hb⟩
    obtain ⟨r, hr⟩ : ∃ r, r = dec s.data.toList := ⟨_, rfl⟩
    rw [← hr]
    have h1 : (r == [46]) = false := by rw [hr]; simp; exact fun e => H.out (.inl e)
    have h2 : (r == [46, 46]) = false := by rw [hr]; simp; exact fun e => H.out (.inr e)
    clear hr
    go_wp2
    go_ret
    exact ⟨rfl, hb⟩

theorem bad_at {s : ByteArray} {i k : Nat} (h1 : i < k) (h2 : k ≤ s.size) (hno : ∀ t, i < t → t < k → fb s t ≠ 47) (hk : k = s.size ∨ fb s k = 47) :
    Bad (fb s) s.size i ↔ ((k = i + 1 ∧ k < s.size) ∨ (k ≠ i + 1 ∧ isDot (s.extract (i + 1) k).data.toList)) := by
  rw [Lib.extract_data, fb_pl, Lib.size_eq s]
  rw [fb_pl] at hno hk
  rw [Lib.size_eq s] at h2 hk
  exact bad_model h1 h2 hno hk

set_option maxHeartbeats 2000000 in
set_option maxRecDepth 100000 in
theorem resolvesModel (s : ByteArray) (w : World) (hs : s.size ≤ 1048576) :
    Calls Try.prog 13 #[.string s] w fun e w' => Says s e ∧ Below w.heap.size w w' := by
  go_enter Try.func13, Try.ntmps13
  go_wp2
  go_loopw [4] (fun iv wr => ∃ i : Nat, i ≤ s.size ∧ iv = .int .i64 i ∧ Hid (∀ t, t < i → fb s t = 47 → ¬ Bad (fb s) s.size t) ∧ Below w.heap.size w wr) (fun iv _ => s.size - (intOf iv).toNat)
  case atStart => exact ⟨0, Nat.zero_le _, rfl, fun t a => absurd a (by omega), Below.refl _ _⟩
  case round =>
    obtain ⟨i, hi, rfl, Hi, hnx⟩ := hrel
    by_cases hlt : i < s.size
    · by_cases h47 : ((s[i].toNat : Int) != 47) = true
      · go_wp2
        go_roundw
        case rel =>
          refine ⟨i + 1, by omega, by go_num, up Hi.out fun e => ?_, hnx⟩
          rw [fb_at s i hlt] at e
          rw [e] at h47
          simp at h47
        case measure => simp [intOf]; omega
      · have h47 : ((s[i].toNat : Int) != 47) = false := by simpa using h47
        have f47 : Hid (fb s i = 47) := by
          show fb s i = 47
          rw [fb_at s i hlt]; simp at h47; omega
        go_wp2
        go_loop [5] (fun kv => ∃ k : Nat, i < k ∧ k ≤ s.size ∧ kv = .int .i64 k ∧ Hid (∀ t, i < t → t < k → fb s t ≠ 47)) (fun kv => s.size - (intOf kv).toNat)
        case atStart => exact ⟨i + 1, by omega, by omega, by go_num, fun t a b => absurd a (by omega)⟩
        case round =>
          obtain ⟨k, hik, hks, rfl, Hno⟩ := hrel
          by_cases hk : k < s.size
          · by_cases e47 : ((s[k].toNat : Int) != 47) = true
            · go_wp2
              go_round
              case rel =>
                refine ⟨k + 1, by omega, by omega, by go_num, fun t a b => ?_⟩
                by_cases ht : t < k
                · exact Hno.out t a ht
                · obtain rfl : t = k := by omega
                  rw [fb_at s t hk]; simp at e47; omega
              case measure => simp [intOf]; omega
            · have e47 : ((s[k].toNat : Int) != 47) = false := by simpa using e47
              have Hend : Hid (k = s.size ∨ fb s k = 47) := by
                right; rw [fb_at s k hk]; simp at e47; omega
              have HB : Hid _ := bad_at hik hks Hno.out Hend.out
              by_cases e1 : k = i + 1
              · subst e1
                have e1b : (((i + 1 : Nat) : Int) == (i : Int) + 1) = true := by simp
                go_wp2
                go_ret
                exact ⟨says_false hlt f47.out ((bad_at hik hks Hno.out Hend.out).2 (.inl ⟨rfl, hk⟩)), hnx⟩
              · have e1b : ((k : Int) == (i : Int) + 1) = false := by simp; omega
                have sz : (s.extract (i + 1) k).size ≤ 1048576 := by rw [ByteArray.size_extract]; omega
                by_cases hd : isDot (s.extract (i + 1) k).data.toList
                · have Hd : Hid _ := hd
                  clear hd
                  go_wp2_with fail
                  refine (isDotSegment_yes _ _ Hd.out).mono ?_
                  rintro e w2 ⟨rfl, hb2⟩
                  go_wp2
                  try rw [Exit.noGoto_ret]
                  go_ret
                  exact ⟨says_false hlt f47.out (HB.out.2 (.inr ⟨e1, Hd.out⟩)), hnx.trans (hb2.mono hnx.size)⟩
                · have Hd : Hid _ := hd
                  clear hd
                  go_wp2_with fail
                  refine (isDotSegment_no _ _ sz Hd.out).mono ?_
                  rintro e w2 ⟨rfl, hb2⟩
                  go_wp2
                  go_roundw
                  case rel =>
                    refine ⟨i + 1, by omega, by go_num, up Hi.out fun _ hb => ?_, hnx.trans (hb2.mono hnx.size)⟩
                    rcases HB.out.1 hb with e | e
                    · exact e1 e.1
                    · exact Hd.out e.2
                  case measure => simp [intOf]; omega
          · have Hend : Hid (k = s.size ∨ fb s k = 47) := by
              left; omega
            have HB : Hid _ := bad_at hik hks Hno.out Hend.out
            by_cases e1 : k = i + 1
            · have e1b : ((k : Int) == (i : Int) + 1) = true := by simp; omega
              have E1 : Hid (k = i + 1) := e1
              clear e1
              go_wp2
              go_roundw
              case rel =>
                refine ⟨i + 1, by omega, by go_num, up Hi.out fun _ hb => ?_, hnx⟩
                rcases HB.out.1 hb with e | e
                · exact hk e.2
                · exact e.1 E1.out
              case measure => simp [intOf]; omega
            · have e1b : ((k : Int) == (i : Int) + 1) = false := by simp; omega
              have sz : (s.extract (i + 1) k).size ≤ 1048576 := by rw [ByteArray.size_extract]; omega
              by_cases hd : isDot (s.extract (i + 1) k).data.toList
              · have Hd : Hid _ := hd
                clear hd
                go_wp2_with fail
                refine (isDotSegment_yes _ _ Hd.out).mono ?_
                rintro e w2 ⟨rfl, hb2⟩
                go_wp2
                try rw [Exit.noGoto_ret]
                go_ret
                exact ⟨says_false hlt f47.out (HB.out.2 (.inr ⟨e1, Hd.out⟩)), hnx.trans (hb2.mono hnx.size)⟩
              · have Hd : Hid _ := hd
                clear hd
                go_wp2_with fail
                refine (isDotSegment_no _ _ sz Hd.out).mono ?_
                rintro e w2 ⟨rfl, hb2⟩
                go_wp2
                go_roundw
                case rel =>
                  refine ⟨i + 1, by omega, by go_num, up Hi.out fun _ hb => ?_, hnx.trans (hb2.mono hnx.size)⟩
                  rcases HB.out.1 hb with e | e
                  · exact e1 e.1
                  · exact Hd.out e.2
                case measure => simp [intOf]; omega
    · go_wp2
      go_ret
      exact ⟨says_true fun t ht => Hi.out t (by omega), hnx⟩
end Go.Proofs.Qxb6603886a.Res
