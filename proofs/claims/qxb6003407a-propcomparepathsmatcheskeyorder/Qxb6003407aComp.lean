import Derived.Test.Qxb6003407aLeaf
set_option linter.unusedVariables false
namespace Go.Proofs.Qxb6003407a.Cmp
open Go.ChangeShapes Go.WideShapes Go.ChangeAt Go.RowKit

theorem i64_in (n : Int) (h1 : -1000 ≤ n) (h2 : n ≤ 1000) : IntKind.i64.wrap n = n := by rw [IntWalk.i64_left]; exact IntWalk.wrap64_in n ⟨by omega, by omega⟩

/-- what comparePaths answers -/
def CmpSays (A : List Nat) (na : Nat) (B : List Nat) (nb : Nat) (e : Ending) : Prop := ∃ r : Int, e = .returned (.int .i64 r) ∧ sgn r = cmpL (nibs A na) (nibs B nb)

set_option maxHeartbeats 4000000 in
theorem comparePaths (A B : List Nat) (a b : Option Addr) (cap cap1 na nb : Nat) (w : World) (hA : SegAt w a A) (hB : SegAt w b B) (bA : Bytes A) (bB : Bytes B) (lA : A.length ≤ 1048576) (lB : B.length ≤ 1048576)
    (nA : (na + 1) / 2 ≤ A.length) (nB : (nb + 1) / 2 ≤ B.length) :
    Calls Try.prog 43 #[.agg #[.slice a A.length cap, .int .i64 na], .agg #[.slice b B.length cap1, .int .i64 nb]] w fun e w' => CmpSays A na B nb e ∧ Below w.heap.size w w' := by
  go_enter Try.func43, Try.ntmps43
  go_wp2_with fail
  refine (commonPrefix A B a b cap cap1 na nb _ (SegAt.below hA (by repeat (first | exact Below.refl _ _ | refine Below.trans ?_ (bd _ _ _) | refine Below.alloc ?_ (by first | omega | (simp; done) | (simp; omega)) _))) (SegAt.below hB (by repeat (first | exact Below.refl _ _ | refine Below.trans ?_ (bd _ _ _) | refine Below.alloc ?_ (by first | omega | (simp; done) | (simp; omega)) _))) bA bB lA lB nA nB).mono ?_
  rintro e w1 ⟨c, rfl, hc, hb1⟩
  have HC : Hid _ := lcp_cmp hc
  have hle : c ≤ na ∧ c ≤ nb := ⟨hc.1, hc.2.1⟩
  clear hc
  have c1 : w1.cell? ⟨w.heap.size, 0, none⟩ = some (.slice a A.length cap) := (hb1.cell (by first | (simp; done) | (simp; omega))).trans (by first | (simp; done) | (simp; omega))
  have c2 : w1.cell? ⟨w.heap.size, 1, none⟩ = some (.int .i64 na) := (hb1.cell (by first | (simp; done) | (simp; omega))).trans (by first | (simp; done) | (simp; omega))
  have c3 : w1.cell? ⟨w.heap.size + 1, 0, none⟩ = some (.slice b B.length cap1) := (hb1.cell (by first | (simp; done) | (simp; omega))).trans (by first | (simp; done) | (simp; omega))
  have c4 : w1.cell? ⟨w.heap.size + 1, 1, none⟩ = some (.int .i64 nb) := (hb1.cell (by first | (simp; done) | (simp; omega))).trans (by first | (simp; done) | (simp; omega))
  have HB : Hid (Below w.heap.size w w1) := Below.trans (by repeat (first | exact Below.refl _ _ | refine Below.trans ?_ (bd _ _ _) | refine Below.alloc ?_ (by first | omega | (simp; done) | (simp; omega)) _)) (hb1.mono (by first | (simp; done) | (simp; omega)))
  clear hb1
  have hsz := HB.out.size
  by_cases h1 : c < na ∧ c < nb
  · have g1 : (c : Int) < na := by omega
    have g2 : (c : Int) < nb := by omega
    rw [if_pos h1] at HC
    obtain ⟨ba, oa, rfl, hba, hca0⟩ := hA.get (show c / 2 < A.length by omega)
    obtain ⟨bb, ob, rfl, hbb, hcb0⟩ := hB.get (show c / 2 < B.length by omega)
    obtain ⟨x, hx, Hx⟩ : ∃ x : Nat, w.cell? ⟨ba, oa + c / 2, none⟩ = some (.int .u8 (x : Int)) ∧ Hid (x = A.getD (c / 2) 0 ∧ x < 256) := ⟨_, hca0, rfl, bA _⟩
    obtain ⟨y, hy, Hy⟩ : ∃ y : Nat, w.cell? ⟨bb, ob + c / 2, none⟩ = some (.int .u8 (y : Int)) ∧ Hid (y = B.getD (c / 2) 0 ∧ y < 256) := ⟨_, hcb0, rfl, bB _⟩
    clear hca0 hcb0
    have n1 : ((nv x c : Nat) : Int) ≤ 15 := by have := nv_lt x c Hx.out.2; omega
    have n2 : ((nv y c : Nat) : Int) ≤ 15 := by have := nv_lt y c Hy.out.2; omega
    have m1 := World.new_ne w1 _ c1
    have m2 := World.new_ne w1 _ c3
    go_wp2
    go_region_held3 (fun w' => w'.cell? ⟨w.heap.size, 0, none⟩ = some (.slice (some ⟨ba, oa, none⟩) A.length cap) ∧ w'.cell? ⟨w.heap.size, 1, none⟩ = some (.int .i64 na) ∧ w'.cell? ⟨w.heap.size + 1, 0, none⟩ = some (.slice (some ⟨bb, ob, none⟩) B.length cap1) ∧ w'.cell? ⟨w.heap.size + 1, 1, none⟩ = some (.int .i64 nb)) (go_keep)
      (first
        | (go_at_call_of 35 (Value.agg #[Value.slice (some ⟨ba, oa, none⟩) A.length cap, Value.int .i64 na]); refine (at35 ba oa A.length cap na (c : Int) x _ (by omega) (by omega) (by omega) Hx.out.2 ?_).mono ?_; (rw [Int.toNat_natCast]; refine cell_on ?_ hx; repeat (first | exact Below.refl _ _ | exact HB.out | refine Below.trans ?_ (bd _ _ _) | refine Below.alloc ?_ (by first | omega | (simp; done) | (simp; omega)) _)); (rw [Int.toNat_natCast]; rintro e w' ⟨rfl, rfl⟩))
        | (go_at_call_of 35 (Value.agg #[Value.slice (some ⟨bb, ob, none⟩) B.length cap1, Value.int .i64 nb]); refine (at35 bb ob B.length cap1 nb (c : Int) y _ (by omega) (by omega) (by omega) Hy.out.2 ?_).mono ?_; (rw [Int.toNat_natCast]; refine cell_on ?_ hy; repeat (first | exact Below.refl _ _ | exact HB.out | refine Below.trans ?_ (bd _ _ _) | refine Below.alloc ?_ (by first | omega | (simp; done) | (simp; omega)) _)); (rw [Int.toNat_natCast]; rintro e w' ⟨rfl, rfl⟩)))
    go_wp2
    go_ret
    refine ⟨⟨_, ret_i64 rfl, ?_⟩, by repeat (first | exact Below.refl _ _ | exact HB.out | refine Below.trans ?_ (bd _ _ _) | refine Below.alloc ?_ (by first | omega | (simp; done) | (simp; omega)) _)⟩
    rw [HC.out, nib_nv, nib_nv, ← Hx.out.1, ← Hy.out.1]
    rw [i64_in ((nv x c : Nat) : Int) (by omega) (by omega), i64_in ((nv y c : Nat) : Int) (by omega) (by omega), i64_in _ (by omega) (by omega)]
  · rw [if_neg h1] at HC
    have HC2 : Hid (sgn ((na : Int) - nb) = cmpL (nibs A na) (nibs B nb)) := HC.out.symm
    by_cases g1 : (c : Int) < na
    · have g2 : decide ((c : Int) < nb) = false := by simp; omega
      go_wp2
      go_ret
      exact ⟨⟨_, rfl, HC2.out⟩, by repeat (first | exact Below.refl _ _ | exact HB.out | refine Below.trans ?_ (bd _ _ _) | refine Below.alloc ?_ (by first | omega | (simp; done) | (simp; omega)) _)⟩
    · go_wp2
      go_ret
      exact ⟨⟨_, rfl, HC2.out⟩, by repeat (first | exact Below.refl _ _ | exact HB.out | refine Below.trans ?_ (bd _ _ _) | refine Below.alloc ?_ (by first | omega | (simp; done) | (simp; omega)) _)⟩

set_option maxHeartbeats 1000000 in
theorem zzComparePaths (A B : List Nat) (a b : Option Addr) (cap cap1 na nb : Nat) (w : World) (hA : SegAt w a A) (hB : SegAt w b B) (bA : Bytes A) (bB : Bytes B) (lA : A.length ≤ 1048576) (lB : B.length ≤ 1048576)
    (nA : (na + 1) / 2 ≤ A.length) (nB : (nb + 1) / 2 ≤ B.length) :
    Calls Try.prog 24 #[.slice a A.length cap, .int .i64 na, .slice b B.length cap1, .int .i64 nb] w fun e w' => CmpSays A na B nb e ∧ Below w.heap.size w w' := by
  go_enter Try.func24, Try.ntmps24
  go_wp2_with fail
  refine (comparePaths A B a b cap cap1 na nb _ hA hB bA bB lA lB nA nB).mono ?_
  rintro e w1 ⟨⟨r, rfl, hr⟩, hb⟩
  have Hr : Hid _ := hr
  clear hr
  go_wp2
  go_ret
  exact ⟨⟨r, rfl, Hr.out⟩, hb⟩

/-- what c2Eq answers -/
def EqSays (A B : List Nat) (e : Ending) : Prop := ∃ c : Bool, e = .returned (.bool c) ∧ (c = true ↔ A = B)

theorem list_eq {A B : List Nat} (hl : A.length = B.length) (h : ∀ t, t < A.length → A.getD t 0 = B.getD t 0) : A = B := by
  apply List.ext_getElem?
  intro i
  by_cases hi : i < A.length
  · have e := h i hi
    rw [List.getD_eq_getElem?_getD, List.getD_eq_getElem?_getD] at e
    have hj : i < B.length := by omega
    rw [List.getElem?_eq_getElem hi, List.getElem?_eq_getElem hj] at e ⊢
    exact congrArg some e
  · rw [List.getElem?_eq_none (by omega), List.getElem?_eq_none (by omega)]

set_option maxHeartbeats 1000000 in
theorem eq11 (A B : List Nat) (a b : Option Addr) (cap cap1 : Nat) (w : World) (hA : SegAt w a A) (hB : SegAt w b B) (lA : A.length ≤ 1048576) (lB : B.length ≤ 1048576) :
    Calls Try.prog 11 #[.slice a A.length cap, .slice b B.length cap1] w fun e w' => EqSays A B e ∧ ∃ n, w' = w.drewN n := by
  by_cases hl : A.length = B.length
  · have hlB : ((A.length : Int) != (B.length : Int)) = false := by simp; omega
    have HL : Hid (A.length = B.length) := hl
    have hle : A.length ≤ B.length := by omega
    clear hl
    go_enter Try.func11, Try.ntmps11
    go_wp2
    go_loopw [5] (fun iv wr => ∃ i : Nat, i ≤ A.length ∧ iv = .int .i64 i ∧ Hid (∀ t, t < i → A.getD t 0 = B.getD t 0) ∧ ∃ n, wr = w.drewN n) (fun iv _ => A.length - (intOf iv).toNat)
    case atStart => exact ⟨0, by omega, rfl, fun t ht => absurd ht (by omega), 0, rfl⟩
    case round =>
      obtain ⟨i, hi, rfl, Hi, n, rfl⟩ := hrel
      by_cases hlt : i < A.length
      · obtain ⟨ba, oa, rfl, hba, hca0⟩ := hA.get hlt
        obtain ⟨bb, ob, rfl, hbb, hcb0⟩ := hB.get (show i < B.length by omega)
        obtain ⟨x, hx, Hx⟩ : ∃ x : Nat, w.cell? ⟨ba, oa + i, none⟩ = some (.int .u8 (x : Int)) ∧ Hid (x = A.getD i 0) := ⟨_, hca0, rfl⟩
        obtain ⟨y, hy, Hy⟩ : ∃ y : Nat, w.cell? ⟨bb, ob + i, none⟩ = some (.int .u8 (y : Int)) ∧ Hid (y = B.getD i 0) := ⟨_, hcb0, rfl⟩
        clear hca0 hcb0
        have ia : (0 : Int) ≤ (i : Int) ∧ (i : Int) < A.length := by omega
        have ib : (0 : Int) ≤ (i : Int) ∧ (i : Int) < B.length := by omega
        by_cases hxy : x = y
        · have hxyB : ((x : Int) != (y : Int)) = false := by simp; omega
          have HXY : Hid (x = y) := hxy
          clear hxy
          go_wp2
          go_quiet (fail)
          go_wp2
          go_roundw
          case rel =>
            refine ⟨i + 1, by omega, by go_num, fun t ht => ?_, _, rfl⟩
            by_cases e : t = i
            · subst e; rw [← Hx.out, ← Hy.out]; exact HXY.out
            · exact Hi.out t (by omega)
          case measure => simp [intOf]; omega
        · have hxyB : ((x : Int) != (y : Int)) = true := by simp; omega
          have HN : Hid (¬ A = B) := fun e => hxy (by rw [Hx.out, Hy.out, e])
          clear hxy
          go_wp2
          go_quiet (fail)
          go_wp2
          go_ret
          exact ⟨⟨false, rfl, by simp; exact HN.out⟩, n + nq, World.drewN_drewN _ _ _⟩
      · have HE : Hid (A = B) := list_eq HL.out fun t ht => Hi.out t (by omega)
        go_wp2
        go_ret
        exact ⟨⟨true, rfl, by simp; exact HE.out⟩, _, rfl⟩
  · have hlB : ((A.length : Int) != (B.length : Int)) = true := by simp; omega
    have HN : Hid (¬ A = B) := fun e => hl (by rw [e])
    clear hl
    go_enter Try.func11, Try.ntmps11
    go_wp2
    go_ret
    exact ⟨⟨false, rfl, by simp; exact HN.out⟩, 0, rfl⟩
end Go.Proofs.Qxb6003407a.Cmp
