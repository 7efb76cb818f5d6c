import Derived.Test.Qxb6003407aComp
set_option linter.unusedVariables false
namespace Go.Proofs.Qxb6003407a.Cmp
open Go.ChangeShapes Go.WideShapes Go.ChangeAt Go.RowKit

set_option maxHeartbeats 4000000 in
theorem cmp25 (A B : List Nat) (a b : Option Addr) (cap cap1 : Nat) (w : World) (hA : SegAt w a A) (hB : SegAt w b B) (lA : A.length ≤ 1048576) (lB : B.length ≤ 1048576) :
    Calls Try.prog 25 #[.slice a A.length cap, .slice b B.length cap1] w fun e w' => e = .returned (.int .i64 (cmpL A B)) ∧ ∃ n, w' = w.drewN n := by
  by_cases hl : (B.length : Int) < A.length
  · go_enter Try.func25, Try.ntmps25
    go_wp2
    go_loopw [6] (fun iv wr => ∃ i : Nat, i ≤ A.length ∧ i ≤ B.length ∧ iv = .int .i64 i ∧ Hid (∀ t, t < i → A.getD t 0 = B.getD t 0) ∧ ∃ n, wr = w.drewN n) (fun iv _ => B.length - (intOf iv).toNat)
    case atStart => exact ⟨0, by omega, by omega, rfl, fun t ht => absurd ht (by omega), 0, rfl⟩
    case round =>
      obtain ⟨i, hi, hi2, rfl, Hi, n, rfl⟩ := hrel
      by_cases hlt : i < B.length
      · obtain ⟨ba, oa, rfl, hba, hca0⟩ := hA.get (show i < A.length by omega)
        obtain ⟨bb, ob, rfl, hbb, hcb0⟩ := hB.get (show i < B.length by omega)
        obtain ⟨x, hx, Hx⟩ : ∃ x : Nat, w.cell? ⟨ba, oa + i, none⟩ = some (.int .u8 (x : Int)) ∧ Hid (x = A.getD i 0) := ⟨_, hca0, rfl⟩
        obtain ⟨y, hy, Hy⟩ : ∃ y : Nat, w.cell? ⟨bb, ob + i, none⟩ = some (.int .u8 (y : Int)) ∧ Hid (y = B.getD i 0) := ⟨_, hcb0, rfl⟩
        clear hca0 hcb0
        have ia : (0 : Int) ≤ (i : Int) ∧ (i : Int) < A.length := by omega
        have ib : (0 : Int) ≤ (i : Int) ∧ (i : Int) < B.length := by omega
        by_cases hxy : x = y
        · have hxyB : ((x : Int) != (y : Int)) = false := by simp; omega
          have HXY : Hid (x = y) := hxy
          clear hxy
          go_wp2
          go_quiet (fail)
          go_wp2
          go_roundw
          case rel =>
            refine ⟨i + 1, by omega, by omega, by go_num, fun t ht => ?_, _, rfl⟩
            by_cases e : t = i
            · subst e; rw [← Hx.out, ← Hy.out]; exact HXY.out
            · exact Hi.out t (by omega)
          case measure => simp [intOf]; omega
        · have hxyB : ((x : Int) != (y : Int)) = true := by simp; omega
          have HD : Hid (cmpL A B = sgn ((x : Int) - (y : Int))) := by
            have := cmpL_differ (show i < A.length by omega) (show i < B.length by omega) Hi.out (by rw [← Hx.out, ← Hy.out]; exact hxy)
            rw [← Hx.out, ← Hy.out] at this; exact this
          by_cases hless : (x : Int) < y
          · have HD2 : Hid (cmpL A B = -1) := by
              show cmpL A B = -1
              rw [HD.out]; unfold sgn; rw [if_pos (by omega)]
            clear hxy
            go_wp2
            go_quiet (fail)
            go_wp2
            go_quiet (fail)
            go_wp2
            go_ret
            exact ⟨by rw [HD2.out]; rfl, by first | exact ⟨_, rfl⟩ | (simp only [World.drewN_drewN]; exact ⟨_, rfl⟩)⟩
          · have HD2 : Hid (cmpL A B = 1) := by
              show cmpL A B = 1
              rw [HD.out]; unfold sgn; rw [if_neg (by omega), if_pos (by omega)]
            clear hxy
            go_wp2
            go_quiet (fail)
            go_wp2
            go_quiet (fail)
            go_wp2
            go_ret
            exact ⟨by rw [HD2.out]; rfl, by first | exact ⟨_, rfl⟩ | (simp only [World.drewN_drewN]; exact ⟨_, rfl⟩)⟩
      · have HP : Hid (cmpL A B = sgn ((A.length : Int) - B.length)) := cmpL_prefix (c := i) hi hi2 (by omega) Hi.out
        by_cases l1 : (A.length : Int) < B.length
        · have HD2 : Hid (cmpL A B = -1) := by
            show cmpL A B = -1
            rw [HP.out]; unfold sgn; rw [if_pos (by omega)]
          go_wp2
          go_ret
          exact ⟨by rw [HD2.out]; rfl, _, rfl⟩
        · by_cases l2 : (B.length : Int) < A.length
          · have HD2 : Hid (cmpL A B = 1) := by
              show cmpL A B = 1
              rw [HP.out]; unfold sgn; rw [if_neg (by omega), if_pos (by omega)]
            go_wp2
            go_ret
            exact ⟨by rw [HD2.out]; rfl, _, rfl⟩
          · exact absurd hl l2
  · go_enter Try.func25, Try.ntmps25
    go_wp2
    go_loopw [6] (fun iv wr => ∃ i : Nat, i ≤ A.length ∧ i ≤ B.length ∧ iv = .int .i64 i ∧ Hid (∀ t, t < i → A.getD t 0 = B.getD t 0) ∧ ∃ n, wr = w.drewN n) (fun iv _ => A.length - (intOf iv).toNat)
    case atStart => exact ⟨0, by omega, by omega, rfl, fun t ht => absurd ht (by omega), 0, rfl⟩
    case round =>
      obtain ⟨i, hi, hi2, rfl, Hi, n, rfl⟩ := hrel
      by_cases hlt : i < A.length
      · obtain ⟨ba, oa, rfl, hba, hca0⟩ := hA.get (show i < A.length by omega)
        obtain ⟨bb, ob, rfl, hbb, hcb0⟩ := hB.get (show i < B.length by omega)
        obtain ⟨x, hx, Hx⟩ : ∃ x : Nat, w.cell? ⟨ba, oa + i, none⟩ = some (.int .u8 (x : Int)) ∧ Hid (x = A.getD i 0) := ⟨_, hca0, rfl⟩
        obtain ⟨y, hy, Hy⟩ : ∃ y : Nat, w.cell? ⟨bb, ob + i, none⟩ = some (.int .u8 (y : Int)) ∧ Hid (y = B.getD i 0) := ⟨_, hcb0, rfl⟩
        clear hca0 hcb0
        have ia : (0 : Int) ≤ (i : Int) ∧ (i : Int) < A.length := by omega
        have ib : (0 : Int) ≤ (i : Int) ∧ (i : Int) < B.length := by omega
        by_cases hxy : x = y
        · have hxyB : ((x : Int) != (y : Int)) = false := by simp; omega
          have HXY : Hid (x = y) := hxy
          clear hxy
          go_wp2
          go_quiet (fail)
          go_wp2
          go_roundw
          case rel =>
            refine ⟨i + 1, by omega, by omega, by go_num, fun t ht => ?_, _, rfl⟩
            by_cases e : t = i
            · subst e; rw [← Hx.out, ← Hy.out]; exact HXY.out
            · exact Hi.out t (by omega)
          case measure => simp [intOf]; omega
        · have hxyB : ((x : Int) != (y : Int)) = true := by simp; omega
          have HD : Hid (cmpL A B = sgn ((x : Int) - (y : Int))) := by
            have := cmpL_differ (show i < A.length by omega) (show i < B.length by omega) Hi.out (by rw [← Hx.out, ← Hy.out]; exact hxy)
            rw [← Hx.out, ← Hy.out] at this; exact this
          by_cases hless : (x : Int) < y
          · have HD2 : Hid (cmpL A B = -1) := by
              show cmpL A B = -1
              rw [HD.out]; unfold sgn; rw [if_pos (by omega)]
            clear hxy
            go_wp2
            go_quiet (fail)
            go_wp2
            go_quiet (fail)
            go_wp2
            go_ret
            exact ⟨by rw [HD2.out]; rfl, by first | exact ⟨_, rfl⟩ | (simp only [World.drewN_drewN]; exact ⟨_, rfl⟩)⟩
          · have HD2 : Hid (cmpL A B = 1) := by
              show cmpL A B = 1
              rw [HD.out]; unfold sgn; rw [if_neg (by omega), if_pos (by omega)]
            clear hxy
            go_wp2
            go_quiet (fail)
            go_wp2
            go_quiet (fail)
            go_wp2
            go_ret
            exact ⟨by rw [HD2.out]; rfl, by first | exact ⟨_, rfl⟩ | (simp only [World.drewN_drewN]; exact ⟨_, rfl⟩)⟩
      · have HP : Hid (cmpL A B = sgn ((A.length : Int) - B.length)) := cmpL_prefix (c := i) hi hi2 (by omega) Hi.out
        by_cases l1 : (A.length : Int) < B.length
        · have HD2 : Hid (cmpL A B = -1) := by
            show cmpL A B = -1
            rw [HP.out]; unfold sgn; rw [if_pos (by omega)]
          go_wp2
          go_ret
          exact ⟨by rw [HD2.out]; rfl, _, rfl⟩
        · by_cases l2 : (B.length : Int) < A.length
          · have HD2 : Hid (cmpL A B = 1) := by
              show cmpL A B = 1
              rw [HP.out]; unfold sgn; rw [if_neg (by omega), if_pos (by omega)]
            go_wp2
            go_ret
            exact ⟨by rw [HD2.out]; rfl, _, rfl⟩
          · have HD2 : Hid (cmpL A B = 0) := by
              show cmpL A B = 0
              rw [HP.out]; unfold sgn; rw [if_neg (by omega), if_neg (by omega)]
            go_wp2
            go_ret
            exact ⟨by rw [HD2.out]; rfl, _, rfl⟩

set_option maxHeartbeats 400000 in
theorem keyPath (a : Option Addr) (n cap : Nat) (w : World) (hn : n ≤ 1048576) :
    Calls Try.prog 42 #[.slice a n cap] w fun e w' => e = .returned (.agg #[.slice a n cap, .int .i64 (2 * (n : Int))]) ∧ Below w.heap.size w w' := by
  go_enter Try.func42, Try.ntmps42
  go_wp2
  exact bodyPost_ret (v := .agg #[.slice a n cap, .int .i64 (2 * (n : Int))]) (by simp [results, Try.results42, go_sem]) rfl ⟨rfl, (Below.refl _ _).alloc (Nat.le_refl _) _⟩

set_option maxHeartbeats 400000 in
theorem zzKeyPath (a : Option Addr) (n cap : Nat) (w : World) (hn : n ≤ 1048576) :
    Calls Try.prog 19 #[.slice a n cap] w fun e w' => e = .returned (.tuple #[.slice a n cap, .int .i64 (2 * (n : Int))]) ∧ Below w.heap.size w w' := by
  go_enter Try.func19, Try.ntmps19
  go_wp2_with fail
  refine (keyPath a n cap _ hn).mono ?_
  rintro e w1 ⟨rfl, hb⟩
  go_wp2
  go_quiet (fail)
  go_wp2
  go_ret2
  exact ⟨rfl, Below.trans (hb.alloc hb.size _) (bd _ _ _)⟩
end Go.Proofs.Qxb6003407a.Cmp
