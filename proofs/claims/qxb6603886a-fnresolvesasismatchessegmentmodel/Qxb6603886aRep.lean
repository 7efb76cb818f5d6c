import Derived.Test.Qxb6603886aRows
import Derived.Test.Qxb6603886aRepPlain
import Derived.Test.Qxb6603886aBytes
import Derived.WalkKit
import Derived.WalkSpells
import Derived.ProofKit
import Derived.Deep.QuietTactic
import Derived.BigQuiet
set_option linter.unusedVariables false
namespace Go.Proofs.Qxb6603886a.Rep
open Go.ChangeShapes Go.WideShapes Go.ChangeAt Go.RowKit

theorem dd {w : World} {n k : Nat} : ∃ m, (w.drewN n).drewN k = w.drewN m := ⟨n + k, World.drewN_drewN _ _ _⟩

theorem re1 {s : ByteArray} {i j k : Nat} (h1 : j - i = 1) (hij : i < j) (hk1 : j ≤ k) (hk2 : k ≤ s.size) (hp : ∀ t, j ≤ t → t < k → fb s t = fb s i)
    (hend : k = s.size ∨ fb s k ≠ fb s i) : RE (fb s) s.size i j k := by
  have pp : ∀ t, j ≤ t → t < k → fb s t = fb s (t - (j - i)) := by
    intro t a b
    rw [h1, hp t a b]
    by_cases e : t = j
    · subst e; congr 1; omega
    · rw [hp (t - 1) (by omega) (by omega)]
  refine ⟨hk1, hk2, ⟨k - j, by rw [h1]; omega⟩, pp, ?_⟩
  rintro ⟨a, b⟩
  rcases hend with e | e
  · omega
  · have c := b k (Nat.le_refl _) (by omega)
    rw [h1] at c
    by_cases e2 : k = j
    · subst e2; apply e; rw [c]; congr 1; omega
    · exact e (by rw [c, hp (k - 1) (by omega) (by omega)])

set_option maxHeartbeats 400000 in
theorem repeatEnd1 (s : ByteArray) (i j : Nat) (w : World) (hs : s.size ≤ 1048576) (hij : i < j) (hj : j ≤ s.size) (h1 : ((j : Int) - i == 1) = true) :
    Calls Try.prog 22 #[.string s, .int .i64 i, .int .i64 j] w fun e w' => ∃ q : Nat, e = .returned (.int .i64 (q : Int)) ∧ RE (fb s) s.size i j q ∧ ∃ n, w' = w.drewN n := by
  have hi : i < s.size := by omega
  have hj1 : j - i = 1 := by simp at h1; omega
  have Hj1 : Hid (j - i = 1) := hj1
  clear hj1
  go_enter Try.func22, Try.ntmps22
  go_wp2
  go_loopw [2] (fun jv w' => ∃ k : Nat, j ≤ k ∧ k ≤ s.size ∧ jv = .int .i64 k ∧ Hid (∀ t, j ≤ t → t < k → fb s t = fb s i) ∧ ∃ n, w' = w.drewN n) (fun jv _ => s.size - (intOf jv).toNat)
  case atStart => exact ⟨j, Nat.le_refl _, hj, rfl, fun t a b => absurd a (by omega), 0, rfl⟩
  case round =>
    obtain ⟨k, hk1, hk2, rfl, Hp, n, rfl⟩ := hrel
    by_cases hlt : k < s.size
    · go_wp2
      go_quiet (fail)
      go_wp2
      · have heq := ‹((s[k].toNat : Int) == (s[i].toNat : Int)) = true›
        go_roundw
        case rel =>
          refine ⟨k + 1, by omega, by omega, by go_num, fun t a b => ?_, _, rfl⟩
          by_cases ht : t < k
          · exact Hp.out t a ht
          · obtain rfl : t = k := by omega
            rw [fb_at s t hlt, fb_at s i hi]
            simp at heq
            omega
        case measure => simp [intOf]; omega
      · have hne := ‹((s[k].toNat : Int) == (s[i].toNat : Int)) = false›
        go_ret
        refine ⟨k, rfl, re1 Hj1.out hij hk1 hk2 Hp.out (.inr ?_), dd⟩
        rw [fb_at s k hlt, fb_at s i hi]
        simp at hne
        omega
    · have hd : decide ((k : Int) < s.size) = false := by simp; omega
      go_wp2
      go_quiet (fail)
      go_wp2
      go_ret
      exact ⟨k, rfl, re1 Hj1.out hij hk1 hk2 Hp.out (.inl (by omega)), dd⟩

set_option maxHeartbeats 400000 in
theorem repeatEnd2 (s : ByteArray) (i j : Nat) (w : World) (hs : s.size ≤ 1048576) (hij : i < j) (hj : j ≤ s.size) (h1 : ((j : Int) - i == 1) = false) :
    Calls Try.prog 22 #[.string s, .int .i64 i, .int .i64 j] w fun e w' => ∃ q : Nat, e = .returned (.int .i64 (q : Int)) ∧ RE (fb s) s.size i j q ∧ ∃ n, w' = w.drewN n := by
  have hi : i < s.size := by omega
  go_enter Try.func22, Try.ntmps22
  go_wp2
  go_loopw [2] (fun jv w' => ∃ k q : Nat, j ≤ k ∧ k ≤ s.size ∧ jv = .int .i64 k ∧ Hid (k = j + q * (j - i)) ∧ Hid (∀ t, j ≤ t → t < k → fb s t = fb s (t - (j - i))) ∧ ∃ n, w' = w.drewN n) (fun jv _ => s.size - (intOf jv).toNat)
  case atStart => exact ⟨j, 0, Nat.le_refl _, hj, rfl, by simp [Hid], fun t a b => absurd a (by omega), 0, rfl⟩
  case round =>
    obtain ⟨k, q, hk1, hk2, rfl, hkq, hper, n, rfl⟩ := hrel
    by_cases hlt : k + (j - i) ≤ s.size
    · have hlt2 : (k : Int) + (j - i) ≤ s.size := by omega
      go_wp2
      go_quiet (fail)
      go_wp2
      · have heq := ‹((s.extract k (k + (j - i))).toList == (s.extract i (i + (j - i))).toList) = true›
        go_roundw
        case rel =>
          refine ⟨k + (j - i), q + 1, by omega, hlt, by go_num, ?_, step hij hkq.out hper.out ((piece_iff s k i (j - i) hlt (by omega)).1 heq), _, rfl⟩
          have := hkq.out
          show k + (j - i) = j + (q + 1) * (j - i)
          rw [Nat.succ_mul]; omega
        case measure => simp [intOf]; omega
      · have hne := ‹((s.extract k (k + (j - i))).toList == (s.extract i (i + (j - i))).toList) = false›
        go_ret
        refine ⟨k, rfl, ⟨hk1, hk2, ⟨q, hkq.out⟩, hper.out, stop_of hij hkq.out hper.out ?_⟩, dd⟩
        rintro ⟨a, b⟩
        rw [(piece_iff s k i (j - i) hlt (by omega)).2 b] at hne
        cases hne
    · have hd : decide ((k : Int) + (j - i) ≤ s.size) = false := by simp; omega
      go_wp2
      go_quiet (fail)
      go_wp2
      go_ret
      exact ⟨k, rfl, ⟨hk1, hk2, ⟨q, hkq.out⟩, hper.out, fun h => hlt h.1⟩, dd⟩

/-- repeatEnd, whatever token inside s -/
theorem repeatEnd (s : ByteArray) (i j : Int) (w : World) (hs : s.size ≤ 1048576) (h0 : 0 ≤ i) (hij : i < j) (hj : j ≤ s.size) :
    Calls Try.prog 22 #[.string s, .int .i64 i, .int .i64 j] w fun e w' => ∃ q : Nat, e = .returned (.int .i64 (q : Int)) ∧ RE (fb s) s.size i.toNat j.toNat q ∧ ∃ n, w' = w.drewN n := by
  obtain ⟨a, rfl⟩ := Int.eq_ofNat_of_zero_le h0
  obtain ⟨b, rfl⟩ := Int.eq_ofNat_of_zero_le (show 0 ≤ j by omega)
  rw [Int.toNat_natCast, Int.toNat_natCast]
  cases h : ((b : Int) - a == 1)
  · exact repeatEnd2 s a b w hs (by omega) (by omega) h
  · exact repeatEnd1 s a b w hs (by omega) (by omega) h

set_option maxHeartbeats 400000 in
theorem zzRepeatEnd (s : ByteArray) (i j : Int) (w : World) (hs : s.size ≤ 1048576) (h0 : 0 ≤ i) (hij : i < j) (hj : j ≤ s.size) :
    Calls Try.prog 9 #[.string s, .int .i64 i, .int .i64 j] w fun e w' => ∃ q : Nat, e = .returned (.int .i64 (q : Int)) ∧ RE (fb s) s.size i.toNat j.toNat q ∧ ∃ n, w' = w.drewN n := by
  go_enter Try.func9, Try.ntmps9
  go_wp2_with fail
  refine (repeatEnd s i j _ hs h0 hij hj).mono ?_
  rintro e w' ⟨q, rfl, hq, n, rfl⟩
  go_wp2
  go_ret
  exact ⟨q, rfl, hq, _, rfl⟩

end Go.Proofs.Qxb6603886a.Rep
