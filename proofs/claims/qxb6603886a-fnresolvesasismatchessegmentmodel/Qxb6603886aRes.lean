import Derived.Test.Qxb6603886aRep
import Derived.Test.Qxb6603886aResPlain
import Derived.WalkMore
set_option linter.unusedVariables false
namespace Go.Proofs.Qxb6603886a.Res
open Go.ChangeShapes Go.WideShapes Go.ChangeAt Go.RowKit
open Go.Proofs.Qxb6603886a.Rep (fb fb_at fb_list)

/-- what both functions answer -/
def Says (s : ByteArray) (e : Ending) : Prop := ∃ b : Bool, e = .returned (.bool b) ∧ (b = true ↔ ∀ i, i < s.size → fb s i = 47 → ¬ Bad (fb s) s.size i)

theorem says_false {s : ByteArray} {i : Nat} (hlt : i < s.size) (h47 : fb s i = 47) (hb : Bad (fb s) s.size i) : Says s (.returned (.bool false)) :=
  ⟨false, rfl, by simp; exact ⟨i, hlt, h47, hb⟩⟩
theorem says_true {s : ByteArray} (h : ∀ i, i < s.size → fb s i = 47 → ¬ Bad (fb s) s.size i) : Says s (.returned (.bool true)) := ⟨true, rfl, by simpa using h⟩

theorem up {s : ByteArray} {i : Nat} (H : ∀ t, t < i → fb s t = 47 → ¬ Bad (fb s) s.size t) (h : fb s i = 47 → ¬ Bad (fb s) s.size i) : ∀ t, t < i + 1 → fb s t = 47 → ¬ Bad (fb s) s.size t := by
  intro t ht
  rcases Nat.lt_or_ge t i with h1 | h1
  · exact H t h1
  · obtain rfl : t = i := by omega
    exact h

theorem or32_fin : ∀ n : Fin 256, (bits BinOp.or IntKind.u8 (n.val : Int) 32 == 101) = decide (n.val = 69 ∨ n.val = 101) := by decide +kernel
theorem or32 (x : UInt8) : (bits BinOp.or IntKind.u8 (x.toNat : Int) 32 == 101) = decide (x.toNat = 69 ∨ x.toNat = 101) := or32_fin ⟨x.toNat, x.toNat_lt⟩

theorem ds_dot {s : ByteArray} {j : Nat} (h : fb s j = 46) : ds (fb s) j = 1 := if_pos h
theorem ds_esc {s : ByteArray} {j : Nat} (h0 : fb s j = 37) (h1 : fb s (j + 1) = 50) (h2 : fb s (j + 2) = 69 ∨ fb s (j + 2) = 101) : ds (fb s) j = 3 := by
  unfold ds; rw [if_neg (by omega), if_pos ⟨h0, h1, h2⟩]

/-- the slots of the inner loop -/
def Inner (s : ByteArray) (i j n : Nat) : Prop := j = St (fb s) i n ∧ ∀ m, m < n → ds (fb s) (St (fb s) i m) ≠ 0

theorem Inner.start (s : ByteArray) (i : Nat) : Inner s i (i + 1) 0 := ⟨rfl, fun m hm => absurd hm (by omega)⟩
theorem Inner.next {s : ByteArray} {i j n d : Nat} (h : Inner s i j n) (hd : ds (fb s) j = d) (h0 : d ≠ 0) : Inner s i (j + d) (n + 1) := by
  obtain ⟨rfl, h2⟩ := h
  refine ⟨by rw [St, hd], fun m hm => ?_⟩
  rcases Nat.lt_or_ge m n with h3 | h3
  · exact h2 m h3
  · obtain rfl : m = n := by omega
    rw [hd]; exact h0
theorem Inner.stand {s : ByteArray} {i j n : Nat} (h : Inner s i j n) (h2 : n ≤ 2) (hd : n = 2 ∨ ds (fb s) j = 0) : Stand (fb s) i n ∧ St (fb s) i n = j := by
  obtain ⟨rfl, h3⟩ := h
  exact ⟨⟨h2, h3, hd⟩, rfl⟩
theorem Inner.bad {s : ByteArray} {i j n : Nat} (h : Inner s i j n) (h2 : n ≤ 2) (hd : n = 2 ∨ ds (fb s) j = 0) : Bad (fb s) s.size i ↔ (fb s j = 47 ∨ (j = s.size ∧ 0 < n)) := by
  obtain ⟨h3, h4⟩ := h.stand h2 hd
  rw [bad_iff h3, h4]

theorem fb_past (s : ByteArray) (k : Nat) (h : s.size ≤ k) : fb s k = 0 := dif_neg (by omega)

set_option maxHeartbeats 2000000 in
set_option maxRecDepth 100000 in
theorem resolvesAsIs (s : ByteArray) (w : World) (hs : s.size ≤ 1048576) :
    Calls Try.prog 23 #[.string s] w fun e w' => Says s e ∧ w = w' := by
  go_enter Try.func23, Try.ntmps23
  go_wp2
  go_loop [3] (fun iv => ∃ i : Nat, i ≤ s.size ∧ iv = .int .i64 i ∧ Hid (∀ t, t < i → fb s t = 47 → ¬ Bad (fb s) s.size t)) (fun iv => s.size - (intOf iv).toNat)
  case atStart => exact ⟨0, Nat.zero_le _, rfl, fun t a => absurd a (by omega)⟩
  case round =>
    obtain ⟨i, hi, rfl, Hi⟩ := hrel
    by_cases hlt : i < s.size
    · by_cases h47 : ((s[i].toNat : Int) != 47) = true
      · go_wp2
        go_step3
        go_wp2
        rw [Exit.noGoto_exit]
        go_wp2
        go_round
        case rel =>
          refine ⟨i + 1, by omega, by go_num, up Hi.out fun e => ?_⟩
          rw [fb_at s i hlt] at e
          rw [e] at h47
          simp at h47
        case measure => simp [intOf]; omega
      · have h47 : ((s[i].toNat : Int) != 47) = false := by simpa using h47
        have f47 : Hid (fb s i = 47) := by
          show fb s i = 47
          rw [fb_at s i hlt]; simp at h47; omega
        go_wp2
        go_step3
        go_wp2
        go_step3
        go_wp2
        go_loop [4, 5] (fun jv dv => ∃ j n : Nat, n ≤ 2 ∧ j ≤ s.size ∧ jv = .int .i64 j ∧ dv = .int .i64 n ∧ Hid (Inner s i j n)) (fun _ dv => 2 - (intOf dv).toNat)
        case atStart => exact ⟨i + 1, 0, by omega, by omega, by go_num, by go_num, Inner.start s i⟩
        case round =>
          obtain ⟨j, n, hn, hj, rfl, rfl, Hj⟩ := hrel
          by_cases h2 : n < 2
          · by_cases a0 : j < s.size
            · by_cases e46 : (s[j].toNat : Int) = 46
              · go_wp2
                go_round
                case rel => exact ⟨j + 1, n + 1, by omega, by omega, by go_num, by go_num, Inner.next (d := 1) Hj.out (ds_dot (by rw [fb_at s j a0]; omega)) (by decide)⟩
                case measure => simp [intOf]; omega
              · by_cases e37 : (s[j].toNat : Int) = 37
                · by_cases h3 : j + 3 ≤ s.size
                  · have a1 : j + 1 < s.size := by omega
                    have a2 : j + 2 < s.size := by omega
                    have i1 : (0 : Int) ≤ (j : Int) + 1 ∧ (j : Int) + 1 < s.size := by omega
                    have i2 : (0 : Int) ≤ (j : Int) + 2 ∧ (j : Int) + 2 < s.size := by omega
                    by_cases e50 : (s[j + 1].toNat : Int) = 50
                    · by_cases eE : s[j + 2].toNat = 69 ∨ s[j + 2].toNat = 101
                      · have hor : (bits BinOp.or IntKind.u8 (s[j + 2].toNat : Int) 32 == 101) = true := by rw [or32]; simpa using eE
                        have HE : Hid (s[j + 2].toNat = 69 ∨ s[j + 2].toNat = 101) := eE
                        clear eE
                        go_wp2
                        go_round
                        case rel =>
                          refine ⟨j + 3, n + 1, by omega, by omega, by go_num, by go_num, Inner.next (d := 3) Hj.out (ds_esc ?_ ?_ ?_) (by decide)⟩
                          · rw [fb_at s j a0]; omega
                          · rw [fb_at s _ a1]; omega
                          · rw [fb_at s _ a2]; exact HE.out
                        case measure => simp [intOf]; omega
                      · have hor : (bits BinOp.or IntKind.u8 (s[j + 2].toNat : Int) 32 == 101) = false := by rw [or32]; simpa using eE
                        have d0 : Hid (ds (fb s) j = 0) := by
                          show ds (fb s) j = 0
                          unfold ds
                          rw [fb_at s j a0, fb_at s _ a2, if_neg (by omega), if_neg (fun e => eE e.2.2)]
                        clear eE
                        go_wp2
                        all_goals first | (rw [Exit.noGoto_normal]; go_wp2) | skip
                        all_goals
                          go_round
                          case rel =>
                            refine ⟨i + 1, by omega, by go_num, up Hi.out fun _ hb => ?_⟩
                            rcases (Hj.out.bad hn (.inr d0.out)).1 hb with e | e
                            · rw [fb_at s j a0] at e; omega
                            · omega
                          case measure => simp [intOf]; omega
                    · have d0 : Hid (ds (fb s) j = 0) := by
                        show ds (fb s) j = 0
                        unfold ds
                        rw [fb_at s j a0, fb_at s _ a1, if_neg (by omega), if_neg (by omega)]
                      go_wp2
                      all_goals first | (rw [Exit.noGoto_normal]; go_wp2) | skip
                      all_goals
                        go_round
                        case rel =>
                          refine ⟨i + 1, by omega, by go_num, up Hi.out fun _ hb => ?_⟩
                          rcases (Hj.out.bad hn (.inr d0.out)).1 hb with e | e
                          · rw [fb_at s j a0] at e; omega
                          · omega
                        case measure => simp [intOf]; omega
                  · have d0 : Hid (ds (fb s) j = 0) := by
                      show ds (fb s) j = 0
                      unfold ds
                      rw [fb_at s j a0, fb_past s (j + 2) (by omega), if_neg (by omega), if_neg (by omega)]
                    go_wp2
                    all_goals first | (rw [Exit.noGoto_normal]; go_wp2) | skip
                    all_goals
                      go_round
                      case rel =>
                        refine ⟨i + 1, by omega, by go_num, up Hi.out fun _ hb => ?_⟩
                        rcases (Hj.out.bad hn (.inr d0.out)).1 hb with e | e
                        · rw [fb_at s j a0] at e; omega
                        · omega
                      case measure => simp [intOf]; omega
                · have d0 : Hid (ds (fb s) j = 0) := by
                    show ds (fb s) j = 0
                    unfold ds
                    rw [fb_at s j a0, if_neg (by omega), if_neg (by omega)]
                  by_cases e47 : (s[j].toNat : Int) = 47
                  · go_wp2
                    all_goals
                      try rw [Exit.noGoto_ret]
                      go_ret
                      exact ⟨says_false hlt f47.out ((Hj.out.bad hn (.inr d0.out)).2 (.inl (by rw [fb_at s j a0]; omega))), rfl⟩
                  · go_wp2
                    all_goals first | (rw [Exit.noGoto_normal]; go_wp2) | skip
                    all_goals
                      go_round
                      case rel =>
                        refine ⟨i + 1, by omega, by go_num, up Hi.out fun _ hb => ?_⟩
                        rcases (Hj.out.bad hn (.inr d0.out)).1 hb with e | e
                        · rw [fb_at s j a0] at e; omega
                        · omega
                      case measure => simp [intOf]; omega
            · have d0 : Hid (ds (fb s) j = 0) := by
                show ds (fb s) j = 0
                unfold ds
                rw [fb_past s j (by omega), if_neg (by omega), if_neg (by omega)]
              have ej : (j : Int) = s.size := by omega
              by_cases n0 : 0 < n
              · go_wp2
                all_goals
                  try rw [Exit.noGoto_ret]
                  go_ret
                  exact ⟨says_false hlt f47.out ((Hj.out.bad hn (.inr d0.out)).2 (.inr ⟨by omega, n0⟩)), rfl⟩
              · go_wp2
                all_goals first | (rw [Exit.noGoto_normal]; go_wp2) | skip
                all_goals
                  go_round
                  case rel =>
                    refine ⟨i + 1, by omega, by go_num, up Hi.out fun _ hb => ?_⟩
                    rcases (Hj.out.bad hn (.inr d0.out)).1 hb with e | e
                    · rw [fb_past s j (by omega)] at e; omega
                    · omega
                  case measure => simp [intOf]; omega
          · have n2 : (n : Int) = 2 := by omega
            by_cases a0 : j < s.size
            · by_cases e47 : (s[j].toNat : Int) = 47
              · go_wp2
                all_goals
                  try rw [Exit.noGoto_ret]
                  go_ret
                  exact ⟨says_false hlt f47.out ((Hj.out.bad hn (.inl (by omega))).2 (.inl (by rw [fb_at s j a0]; omega))), rfl⟩
              · go_wp2
                all_goals first | (rw [Exit.noGoto_normal]; go_wp2) | skip
                all_goals
                  go_round
                  case rel =>
                    refine ⟨i + 1, by omega, by go_num, up Hi.out fun _ hb => ?_⟩
                    rcases (Hj.out.bad hn (.inl (by omega))).1 hb with e | e
                    · rw [fb_at s j a0] at e; omega
                    · omega
                  case measure => simp [intOf]; omega
            · have ej : (j : Int) = s.size := by omega
              go_wp2
              all_goals
                try rw [Exit.noGoto_ret]
                go_ret
                exact ⟨says_false hlt f47.out ((Hj.out.bad hn (.inl (by omega))).2 (.inr ⟨by omega, by omega⟩)), rfl⟩
    · go_wp2
      go_ret
      exact ⟨says_true fun t ht => Hi.out t (by omega), rfl⟩
end Go.Proofs.Qxb6603886a.Res
