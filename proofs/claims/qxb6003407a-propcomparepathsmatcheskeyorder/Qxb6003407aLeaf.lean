import Derived.Test.Qxb6003407aRows
import Derived.Test.Qxb6003407aPlain
import Derived.WalkKit
import Derived.WalkSpells
import Derived.ProofKit
import Derived.OpenShut
import Derived.Deep.QuietTactic
import Derived.BigQuiet
import Derived.Deep.RegionHeld3
import Derived.Deep.DrawnRows
set_option linter.unusedVariables false
namespace Go.Proofs.Qxb6003407a.Cmp
open Go.ChangeShapes Go.WideShapes Go.ChangeAt Go.RowKit

/-- every number is a byte -/
def Bytes (Z : List Nat) : Prop := ∀ i, Z.getD i 0 < 256

/-- the cells behind the head 'a' hold the bytes Z -/
def SegAt (w : World) (a : Option Addr) (Z : List Nat) : Prop :=
  Z = [] ∨ ∃ b off, a = some ⟨b, off, none⟩ ∧ b < w.heap.size ∧ ∀ i, i < Z.length → w.cell? ⟨b, off + i, none⟩ = some (.int .u8 ((Z.getD i 0 : Nat) : Int))

theorem SegAt.below {w w' : World} {a : Option Addr} {Z : List Nat} (h : SegAt w a Z) (hb : Below w.heap.size w w') : SegAt w' a Z := by
  rcases h with h | ⟨b, off, h1, h2, h3⟩
  · exact .inl h
  · exact .inr ⟨b, off, h1, Nat.lt_of_lt_of_le h2 hb.size, fun i hi => (hb.cell (p := ⟨b, off + i, none⟩) h2).trans (h3 i hi)⟩
theorem SegAt.drewN {w : World} {n : Nat} {a : Option Addr} {Z : List Nat} (h : SegAt w a Z) : SegAt (w.drewN n) a Z := h

/-- a cell of a segment, where there is one -/
theorem SegAt.get {w : World} {a : Option Addr} {Z : List Nat} (h : SegAt w a Z) {i : Nat} (hi : i < Z.length) :
    ∃ b off, a = some ⟨b, off, none⟩ ∧ b < w.heap.size ∧ w.cell? ⟨b, off + i, none⟩ = some (.int .u8 ((Z.getD i 0 : Nat) : Int)) := by
  rcases h with rfl | ⟨b, off, h1, h2, h3⟩
  · simp at hi
  · exact ⟨b, off, h1, h2, h3 i hi⟩

set_option maxHeartbeats 400000 in
theorem sign (x : Int) (w : World) : Calls Try.prog 23 #[.int .i64 x] w fun e w' => e = .returned (.int .i64 (sgn x)) ∧ w = w' := by
  by_cases h1 : x < 0
  · go_enter Try.func23, Try.ntmps23
    go_wp2
    go_ret
    exact ⟨by simp [sgn, h1], rfl⟩
  · by_cases h2 : 0 < x
    · go_enter Try.func23, Try.ntmps23
      go_wp2
      go_ret
      exact ⟨by simp [sgn, h1, h2], rfl⟩
    · go_enter Try.func23, Try.ntmps23
      go_wp2
      go_ret
      exact ⟨by unfold sgn; rw [if_neg (by omega), if_neg (by omega)]; rfl, rfl⟩

theorem and15_fin : ∀ n : Fin 256, bits BinOp.and IntKind.u8 (n.val : Int) 15 = ((n.val % 16 : Nat) : Int) := by decide +kernel
theorem and15 (x : Nat) (h : x < 256) : bits BinOp.and IntKind.u8 (x : Int) 15 = ((x % 16 : Nat) : Int) := and15_fin ⟨x, h⟩
theorem ret_u8 {x y : Int} (h : x = y) : Ending.returned (.int .u8 x) = .returned (.int .u8 y) := by rw [h]

/-- the token that the byte x bears at place i -/
def nv (x i : Nat) : Nat := if i % 2 = 0 then x / 16 else x % 16
theorem nib_nv (Z : List Nat) (i : Nat) : nib Z i = nv (Z.getD (i / 2) 0) i := rfl
theorem nv_lt (x i : Nat) (h : x < 256) : nv x i < 16 := by unfold nv; split <;> omega

set_option maxHeartbeats 400000 in
theorem at35 (b off len cap : Nat) (n k : Int) (x : Nat) (w : World) (hl : len ≤ 1048576) (k0 : 0 ≤ k) (k1 : k / 2 < len) (hx : x < 256) (hc : w.cell? ⟨b, off + k.toNat / 2, none⟩ = some (.int .u8 (x : Int))) :
    Calls Try.prog 35 #[.agg #[.slice (some ⟨b, off, none⟩) len cap, .int .i64 n], .int .i64 k] w fun e w' => e = .returned (.int .u8 ((nv x k.toNat : Nat) : Int)) ∧ w' = w.alloc (.cells #[.slice (some ⟨b, off, none⟩) len cap, .int .i64 n] 57) := by
  obtain ⟨i, rfl⟩ := Int.eq_ofNat_of_zero_le k0
  rw [Int.toNat_natCast] at hc
  rw [Int.toNat_natCast]
  have hb : b < w.heap.size := World.block_lt_of_cell? w _ hc
  have ix : (0 : Int) ≤ (i : Int) / 2 ∧ (i : Int) / 2 < len := by omega
  by_cases h2 : i % 2 = 0
  · have h3 : ((i : Int) % 2 == 0) = true := by simp; omega
    go_enter Try.func35, Try.ntmps35
    go_wp2
    go_ret
    exact ⟨ret_u8 (by unfold nv; rw [if_pos h2]; omega), rfl⟩
  · have h3 : ((i : Int) % 2 == 0) = false := by simp; omega
    go_enter Try.func35, Try.ntmps35
    go_wp2
    go_ret
    exact ⟨ret_u8 (by unfold nv; rw [if_neg h2]; first | exact and15 x hx | omega), rfl⟩

theorem ret_i64 {x y : Int} (h : x = y) : Ending.returned (.int .i64 x) = .returned (.int .i64 y) := by rw [h]
theorem nib_is {A : List Nat} {x i : Nat} (h : x = A.getD i 0) : nv x (2 * (i : Int)).toNat = nib A (2 * i) := by
  rw [show (2 * (i : Int)).toNat = 2 * i by omega, nib_nv, show 2 * i / 2 = i by omega, h]
theorem bd (B : Nat) (w : World) (n : Nat) : Below B w (w.drewN n) := ⟨rfl, rfl, rfl, Nat.le_refl _, fun _ _ => rfl⟩
theorem cell_on {w wx : World} {a : Addr} {v : Value} (hb : Below w.heap.size w wx) (h : w.cell? a = some v) : wx.cell? a = some v := (hb.cell (World.block_lt_of_cell? _ _ h)).trans h

set_option maxHeartbeats 4000000 in
theorem commonPrefix (A B : List Nat) (a b : Option Addr) (cap cap1 na nb : Nat) (w : World) (hA : SegAt w a A) (hB : SegAt w b B) (bA : Bytes A) (bB : Bytes B) (lA : A.length ≤ 1048576) (lB : B.length ≤ 1048576)
    (nA : (na + 1) / 2 ≤ A.length) (nB : (nb + 1) / 2 ≤ B.length) :
    Calls Try.prog 40 #[.agg #[.slice a A.length cap, .int .i64 na], .agg #[.slice b B.length cap1, .int .i64 nb]] w fun e w' => ∃ c : Nat, e = .returned (.int .i64 c) ∧ Lcp A na B nb c ∧ Below w.heap.size w w' := by
  rcases Nat.lt_or_ge nb na with hab | hab
  · go_enter Try.func40, Try.ntmps40
    go_wp2
    go_loopw [6] (fun iv wr => ∃ i : Nat, i ≤ na / 2 ∧ i ≤ nb / 2 ∧ iv = .int .i64 i ∧ Hid (∀ t, t < i → A.getD t 0 = B.getD t 0) ∧ ∃ n, wr = ((w.alloc (.cells #[.slice a A.length cap, .int .i64 na] 57)).alloc (.cells #[.slice b B.length cap1, .int .i64 nb] 57)).drewN n)
      (fun iv _ => nb / 2 - (intOf iv).toNat)
    case atStart => exact ⟨0, by omega, by omega, rfl, fun t ht => absurd ht (by omega), 0, rfl⟩
    case round =>
      obtain ⟨i, hi1, hi2, rfl, Hi, n, rfl⟩ := hrel
      by_cases hlt : i < nb / 2
      · have hltI : (i : Int) < (nb : Int) / 2 := by omega
        obtain ⟨ba, oa, rfl, hba, hca0⟩ := hA.get (show i < A.length by omega)
        obtain ⟨bb, ob, rfl, hbb, hcb0⟩ := hB.get (show i < B.length by omega)
        obtain ⟨x, hx, Hx⟩ : ∃ x : Nat, w.cell? ⟨ba, oa + i, none⟩ = some (.int .u8 (x : Int)) ∧ Hid (x = A.getD i 0 ∧ x < 256) := ⟨_, hca0, rfl, bA _⟩
        obtain ⟨y, hy, Hy⟩ : ∃ y : Nat, w.cell? ⟨bb, ob + i, none⟩ = some (.int .u8 (y : Int)) ∧ Hid (y = B.getD i 0 ∧ y < 256) := ⟨_, hcb0, rfl, bB _⟩
        clear hca0 hcb0
        have ia : (0 : Int) ≤ (i : Int) ∧ (i : Int) < A.length := by omega
        have ib : (0 : Int) ≤ (i : Int) ∧ (i : Int) < B.length := by omega
        by_cases hxy : x = y
        · have hxyB : ((x : Int) == (y : Int)) = true := by simp; omega
          have HXY : Hid (x = y) := hxy
          clear hxy
          go_wp2
          go_quiet (fail)
          go_wp2
          go_roundw
          case rel =>
            refine ⟨i + 1, by omega, by omega, by go_num, fun t ht => ?_, _, rfl⟩
            by_cases e : t = i
            · subst e; rw [← Hx.out.1, ← Hy.out.1]; exact HXY.out
            · exact Hi.out t (by omega)
          case measure => simp [intOf]; omega
        · have hxyB : ((x : Int) == (y : Int)) = false := by simp; omega
          have HL : Hid _ := lcp_stop (na := na) (nb := nb) Hi.out hi1 hi2 (.inr (by rw [← Hx.out.1, ← Hy.out.1]; exact hxy))
          clear hxy
          have g2 : (2 * (i : Int)) < (nb : Int) := by omega
          go_wp2
          go_quiet (fail)
          go_wp2
          have n1 := World.new_ne w _ hx
          have n2 := World.new_ne w _ hy
          go_region_held3 (fun w' => w'.cell? ⟨w.heap.size, 0, none⟩ = some (.slice (some ⟨ba, oa, none⟩) A.length cap) ∧ w'.cell? ⟨w.heap.size, 1, none⟩ = some (.int .i64 na) ∧ w'.cell? ⟨w.heap.size + 1, 0, none⟩ = some (.slice (some ⟨bb, ob, none⟩) B.length cap1) ∧ w'.cell? ⟨w.heap.size + 1, 1, none⟩ = some (.int .i64 nb)) (go_keep)
            (first
              | (go_at_call_of 35 (Value.agg #[Value.slice (some ⟨ba, oa, none⟩) A.length cap, Value.int .i64 na]); refine (at35 ba oa A.length cap na (2 * (i : Int)) x _ (by omega) (by omega) (by omega) Hx.out.2 ?_).mono ?_; (rw [show oa + (2 * (i : Int)).toNat / 2 = oa + i by omega]; refine cell_on ?_ hx; repeat (first | exact Below.refl _ _ | refine Below.trans ?_ (bd _ _ _) | refine Below.alloc ?_ (by first | (simp; done) | (simp; omega)) _)); rintro e w' ⟨rfl, rfl⟩)
              | (go_at_call_of 35 (Value.agg #[Value.slice (some ⟨bb, ob, none⟩) B.length cap1, Value.int .i64 nb]); refine (at35 bb ob B.length cap1 nb (2 * (i : Int)) y _ (by omega) (by omega) (by omega) Hy.out.2 ?_).mono ?_; (rw [show ob + (2 * (i : Int)).toNat / 2 = ob + i by omega]; refine cell_on ?_ hy; repeat (first | exact Below.refl _ _ | refine Below.trans ?_ (bd _ _ _) | refine Below.alloc ?_ (by first | (simp; done) | (simp; omega)) _)); rintro e w' ⟨rfl, rfl⟩))
          rw [nib_is Hx.out.1, nib_is Hy.out.1]
          by_cases hnn : nib A (2 * i) = nib B (2 * i)
          · have hnB : (((nib A (2 * i) : Nat) : Int) == ((nib B (2 * i) : Nat) : Int)) = true := by simp; omega
            have HC : Hid (Lcp A na B nb (2 * i + 1)) := HL.out.2.2 (by omega) hnn
            clear hnn
            go_wp2
            go_ret
            exact ⟨2 * i + 1, ret_i64 (by omega), HC.out, by repeat (first | exact Below.refl _ _ | refine Below.trans ?_ (bd _ _ _) | refine Below.alloc ?_ (by first | (simp; done) | (simp; omega)) _)⟩
          · have hnB : (((nib A (2 * i) : Nat) : Int) == ((nib B (2 * i) : Nat) : Int)) = false := by simp; omega
            have HC : Hid (Lcp A na B nb (2 * i)) := HL.out.2.1 (by omega) hnn
            clear hnn
            go_wp2
            go_ret
            exact ⟨2 * i, ret_i64 (by omega), HC.out, by repeat (first | exact Below.refl _ _ | refine Below.trans ?_ (bd _ _ _) | refine Below.alloc ?_ (by first | (simp; done) | (simp; omega)) _)⟩
      · have hltI : decide ((i : Int) < (nb : Int) / 2) = false := by simp; omega
        have HL : Hid _ := lcp_stop (na := na) (nb := nb) Hi.out hi1 hi2 (.inl (by omega))
        by_cases h2 : 2 * i < nb
        · have g2 : (2 * (i : Int)) < (nb : Int) := by omega
          obtain ⟨ba, oa, rfl, hba, hca0⟩ := hA.get (show i < A.length by omega)
          obtain ⟨bb, ob, rfl, hbb, hcb0⟩ := hB.get (show i < B.length by omega)
          obtain ⟨x, hx, Hx⟩ : ∃ x : Nat, w.cell? ⟨ba, oa + i, none⟩ = some (.int .u8 (x : Int)) ∧ Hid (x = A.getD i 0 ∧ x < 256) := ⟨_, hca0, rfl, bA _⟩
          obtain ⟨y, hy, Hy⟩ : ∃ y : Nat, w.cell? ⟨bb, ob + i, none⟩ = some (.int .u8 (y : Int)) ∧ Hid (y = B.getD i 0 ∧ y < 256) := ⟨_, hcb0, rfl, bB _⟩
          clear hca0 hcb0
          have ia : (0 : Int) ≤ (i : Int) ∧ (i : Int) < A.length := by omega
          have ib : (0 : Int) ≤ (i : Int) ∧ (i : Int) < B.length := by omega
          go_wp2
          go_quiet (fail)
          go_wp2
          have n1 := World.new_ne w _ hx
          have n2 := World.new_ne w _ hy
          go_region_held3 (fun w' => w'.cell? ⟨w.heap.size, 0, none⟩ = some (.slice (some ⟨ba, oa, none⟩) A.length cap) ∧ w'.cell? ⟨w.heap.size, 1, none⟩ = some (.int .i64 na) ∧ w'.cell? ⟨w.heap.size + 1, 0, none⟩ = some (.slice (some ⟨bb, ob, none⟩) B.length cap1) ∧ w'.cell? ⟨w.heap.size + 1, 1, none⟩ = some (.int .i64 nb)) (go_keep)
            (first
              | (go_at_call_of 35 (Value.agg #[Value.slice (some ⟨ba, oa, none⟩) A.length cap, Value.int .i64 na]); refine (at35 ba oa A.length cap na (2 * (i : Int)) x _ (by omega) (by omega) (by omega) Hx.out.2 ?_).mono ?_; (rw [show oa + (2 * (i : Int)).toNat / 2 = oa + i by omega]; refine cell_on ?_ hx; repeat (first | exact Below.refl _ _ | refine Below.trans ?_ (bd _ _ _) | refine Below.alloc ?_ (by first | (simp; done) | (simp; omega)) _)); rintro e w' ⟨rfl, rfl⟩)
              | (go_at_call_of 35 (Value.agg #[Value.slice (some ⟨bb, ob, none⟩) B.length cap1, Value.int .i64 nb]); refine (at35 bb ob B.length cap1 nb (2 * (i : Int)) y _ (by omega) (by omega) (by omega) Hy.out.2 ?_).mono ?_; (rw [show ob + (2 * (i : Int)).toNat / 2 = ob + i by omega]; refine cell_on ?_ hy; repeat (first | exact Below.refl _ _ | refine Below.trans ?_ (bd _ _ _) | refine Below.alloc ?_ (by first | (simp; done) | (simp; omega)) _)); rintro e w' ⟨rfl, rfl⟩))
          rw [nib_is Hx.out.1, nib_is Hy.out.1]
          by_cases hnn : nib A (2 * i) = nib B (2 * i)
          · have hnB : (((nib A (2 * i) : Nat) : Int) == ((nib B (2 * i) : Nat) : Int)) = true := by simp; omega
            have HC : Hid (Lcp A na B nb (2 * i + 1)) := HL.out.2.2 (by omega) hnn
            clear hnn
            go_wp2
            go_ret
            exact ⟨2 * i + 1, ret_i64 (by omega), HC.out, by repeat (first | exact Below.refl _ _ | refine Below.trans ?_ (bd _ _ _) | refine Below.alloc ?_ (by first | (simp; done) | (simp; omega)) _)⟩
          · have hnB : (((nib A (2 * i) : Nat) : Int) == ((nib B (2 * i) : Nat) : Int)) = false := by simp; omega
            have HC : Hid (Lcp A na B nb (2 * i)) := HL.out.2.1 (by omega) hnn
            clear hnn
            go_wp2
            go_ret
            exact ⟨2 * i, ret_i64 (by omega), HC.out, by repeat (first | exact Below.refl _ _ | refine Below.trans ?_ (bd _ _ _) | refine Below.alloc ?_ (by first | (simp; done) | (simp; omega)) _)⟩
        · have g2 : decide ((2 * (i : Int)) < (nb : Int)) = false := by simp; omega
          have HC : Hid (Lcp A na B nb (2 * i)) := HL.out.1 (by omega)
          go_wp2
          go_quiet (fail)
          go_wp2
          go_quiet (fail)
          go_wp2
          go_ret
          exact ⟨2 * i, ret_i64 (by omega), HC.out, by repeat (first | exact Below.refl _ _ | refine Below.trans ?_ (bd _ _ _) | refine Below.alloc ?_ (by first | (simp; done) | (simp; omega)) _)⟩
  · go_enter Try.func40, Try.ntmps40
    go_wp2
    go_loopw [6] (fun iv wr => ∃ i : Nat, i ≤ na / 2 ∧ i ≤ nb / 2 ∧ iv = .int .i64 i ∧ Hid (∀ t, t < i → A.getD t 0 = B.getD t 0) ∧ ∃ n, wr = ((w.alloc (.cells #[.slice a A.length cap, .int .i64 na] 57)).alloc (.cells #[.slice b B.length cap1, .int .i64 nb] 57)).drewN n)
      (fun iv _ => na / 2 - (intOf iv).toNat)
    case atStart => exact ⟨0, by omega, by omega, rfl, fun t ht => absurd ht (by omega), 0, rfl⟩
    case round =>
      obtain ⟨i, hi1, hi2, rfl, Hi, n, rfl⟩ := hrel
      by_cases hlt : i < na / 2
      · have hltI : (i : Int) < (na : Int) / 2 := by omega
        obtain ⟨ba, oa, rfl, hba, hca0⟩ := hA.get (show i < A.length by omega)
        obtain ⟨bb, ob, rfl, hbb, hcb0⟩ := hB.get (show i < B.length by omega)
        obtain ⟨x, hx, Hx⟩ : ∃ x : Nat, w.cell? ⟨ba, oa + i, none⟩ = some (.int .u8 (x : Int)) ∧ Hid (x = A.getD i 0 ∧ x < 256) := ⟨_, hca0, rfl, bA _⟩
        obtain ⟨y, hy, Hy⟩ : ∃ y : Nat, w.cell? ⟨bb, ob + i, none⟩ = some (.int .u8 (y : Int)) ∧ Hid (y = B.getD i 0 ∧ y < 256) := ⟨_, hcb0, rfl, bB _⟩
        clear hca0 hcb0
        have ia : (0 : Int) ≤ (i : Int) ∧ (i : Int) < A.length := by omega
        have ib : (0 : Int) ≤ (i : Int) ∧ (i : Int) < B.length := by omega
        by_cases hxy : x = y
        · have hxyB : ((x : Int) == (y : Int)) = true := by simp; omega
          have HXY : Hid (x = y) := hxy
          clear hxy
          go_wp2
          go_quiet (fail)
          go_wp2
          go_roundw
          case rel =>
            refine ⟨i + 1, by omega, by omega, by go_num, fun t ht => ?_, _, rfl⟩
            by_cases e : t = i
            · subst e; rw [← Hx.out.1, ← Hy.out.1]; exact HXY.out
            · exact Hi.out t (by omega)
          case measure => simp [intOf]; omega
        · have hxyB : ((x : Int) == (y : Int)) = false := by simp; omega
          have HL : Hid _ := lcp_stop (na := na) (nb := nb) Hi.out hi1 hi2 (.inr (by rw [← Hx.out.1, ← Hy.out.1]; exact hxy))
          clear hxy
          have g2 : (2 * (i : Int)) < (na : Int) := by omega
          go_wp2
          go_quiet (fail)
          go_wp2
          have n1 := World.new_ne w _ hx
          have n2 := World.new_ne w _ hy
          go_region_held3 (fun w' => w'.cell? ⟨w.heap.size, 0, none⟩ = some (.slice (some ⟨ba, oa, none⟩) A.length cap) ∧ w'.cell? ⟨w.heap.size, 1, none⟩ = some (.int .i64 na) ∧ w'.cell? ⟨w.heap.size + 1, 0, none⟩ = some (.slice (some ⟨bb, ob, none⟩) B.length cap1) ∧ w'.cell? ⟨w.heap.size + 1, 1, none⟩ = some (.int .i64 nb)) (go_keep)
            (first
              | (go_at_call_of 35 (Value.agg #[Value.slice (some ⟨ba, oa, none⟩) A.length cap, Value.int .i64 na]); refine (at35 ba oa A.length cap na (2 * (i : Int)) x _ (by omega) (by omega) (by omega) Hx.out.2 ?_).mono ?_; (rw [show oa + (2 * (i : Int)).toNat / 2 = oa + i by omega]; refine cell_on ?_ hx; repeat (first | exact Below.refl _ _ | refine Below.trans ?_ (bd _ _ _) | refine Below.alloc ?_ (by first | (simp; done) | (simp; omega)) _)); rintro e w' ⟨rfl, rfl⟩)
              | (go_at_call_of 35 (Value.agg #[Value.slice (some ⟨bb, ob, none⟩) B.length cap1, Value.int .i64 nb]); refine (at35 bb ob B.length cap1 nb (2 * (i : Int)) y _ (by omega) (by omega) (by omega) Hy.out.2 ?_).mono ?_; (rw [show ob + (2 * (i : Int)).toNat / 2 = ob + i by omega]; refine cell_on ?_ hy; repeat (first | exact Below.refl _ _ | refine Below.trans ?_ (bd _ _ _) | refine Below.alloc ?_ (by first | (simp; done) | (simp; omega)) _)); rintro e w' ⟨rfl, rfl⟩))
          rw [nib_is Hx.out.1, nib_is Hy.out.1]
          by_cases hnn : nib A (2 * i) = nib B (2 * i)
          · have hnB : (((nib A (2 * i) : Nat) : Int) == ((nib B (2 * i) : Nat) : Int)) = true := by simp; omega
            have HC : Hid (Lcp A na B nb (2 * i + 1)) := HL.out.2.2 (by omega) hnn
            clear hnn
            go_wp2
            go_ret
            exact ⟨2 * i + 1, ret_i64 (by omega), HC.out, by repeat (first | exact Below.refl _ _ | refine Below.trans ?_ (bd _ _ _) | refine Below.alloc ?_ (by first | (simp; done) | (simp; omega)) _)⟩
          · have hnB : (((nib A (2 * i) : Nat) : Int) == ((nib B (2 * i) : Nat) : Int)) = false := by simp; omega
            have HC : Hid (Lcp A na B nb (2 * i)) := HL.out.2.1 (by omega) hnn
            clear hnn
            go_wp2
            go_ret
            exact ⟨2 * i, ret_i64 (by omega), HC.out, by repeat (first | exact Below.refl _ _ | refine Below.trans ?_ (bd _ _ _) | refine Below.alloc ?_ (by first | (simp; done) | (simp; omega)) _)⟩
      · have hltI : decide ((i : Int) < (na : Int) / 2) = false := by simp; omega
        have HL : Hid _ := lcp_stop (na := na) (nb := nb) Hi.out hi1 hi2 (.inl (by omega))
        by_cases h2 : 2 * i < na
        · have g2 : (2 * (i : Int)) < (na : Int) := by omega
          obtain ⟨ba, oa, rfl, hba, hca0⟩ := hA.get (show i < A.length by omega)
          obtain ⟨bb, ob, rfl, hbb, hcb0⟩ := hB.get (show i < B.length by omega)
          obtain ⟨x, hx, Hx⟩ : ∃ x : Nat, w.cell? ⟨ba, oa + i, none⟩ = some (.int .u8 (x : Int)) ∧ Hid (x = A.getD i 0 ∧ x < 256) := ⟨_, hca0, rfl, bA _⟩
          obtain ⟨y, hy, Hy⟩ : ∃ y : Nat, w.cell? ⟨bb, ob + i, none⟩ = some (.int .u8 (y : Int)) ∧ Hid (y = B.getD i 0 ∧ y < 256) := ⟨_, hcb0, rfl, bB _⟩
          clear hca0 hcb0
          have ia : (0 : Int) ≤ (i : Int) ∧ (i : Int) < A.length := by omega
          have ib : (0 : Int) ≤ (i : Int) ∧ (i : Int) < B.length := by omega
          go_wp2
          go_quiet (fail)
          go_wp2
          have n1 := World.new_ne w _ hx
          have n2 := World.new_ne w _ hy
          go_region_held3 (fun w' => w'.cell? ⟨w.heap.size, 0, none⟩ = some (.slice (some ⟨ba, oa, none⟩) A.length cap) ∧ w'.cell? ⟨w.heap.size, 1, none⟩ = some (.int .i64 na) ∧ w'.cell? ⟨w.heap.size + 1, 0, none⟩ = some (.slice (some ⟨bb, ob, none⟩) B.length cap1) ∧ w'.cell? ⟨w.heap.size + 1, 1, none⟩ = some (.int .i64 nb)) (go_keep)
            (first
              | (go_at_call_of 35 (Value.agg #[Value.slice (some ⟨ba, oa, none⟩) A.length cap, Value.int .i64 na]); refine (at35 ba oa A.length cap na (2 * (i : Int)) x _ (by omega) (by omega) (by omega) Hx.out.2 ?_).mono ?_; (rw [show oa + (2 * (i : Int)).toNat / 2 = oa + i by omega]; refine cell_on ?_ hx; repeat (first | exact Below.refl _ _ | refine Below.trans ?_ (bd _ _ _) | refine Below.alloc ?_ (by first | (simp; done) | (simp; omega)) _)); rintro e w' ⟨rfl, rfl⟩)
              | (go_at_call_of 35 (Value.agg #[Value.slice (some ⟨bb, ob, none⟩) B.length cap1, Value.int .i64 nb]); refine (at35 bb ob B.length cap1 nb (2 * (i : Int)) y _ (by omega) (by omega) (by omega) Hy.out.2 ?_).mono ?_; (rw [show ob + (2 * (i : Int)).toNat / 2 = ob + i by omega]; refine cell_on ?_ hy; repeat (first | exact Below.refl _ _ | refine Below.trans ?_ (bd _ _ _) | refine Below.alloc ?_ (by first | (simp; done) | (simp; omega)) _)); rintro e w' ⟨rfl, rfl⟩))
          rw [nib_is Hx.out.1, nib_is Hy.out.1]
          by_cases hnn : nib A (2 * i) = nib B (2 * i)
          · have hnB : (((nib A (2 * i) : Nat) : Int) == ((nib B (2 * i) : Nat) : Int)) = true := by simp; omega
            have HC : Hid (Lcp A na B nb (2 * i + 1)) := HL.out.2.2 (by omega) hnn
            clear hnn
            go_wp2
            go_ret
            exact ⟨2 * i + 1, ret_i64 (by omega), HC.out, by repeat (first | exact Below.refl _ _ | refine Below.trans ?_ (bd _ _ _) | refine Below.alloc ?_ (by first | (simp; done) | (simp; omega)) _)⟩
          · have hnB : (((nib A (2 * i) : Nat) : Int) == ((nib B (2 * i) : Nat) : Int)) = false := by simp; omega
            have HC : Hid (Lcp A na B nb (2 * i)) := HL.out.2.1 (by omega) hnn
            clear hnn
            go_wp2
            go_ret
            exact ⟨2 * i, ret_i64 (by omega), HC.out, by repeat (first | exact Below.refl _ _ | refine Below.trans ?_ (bd _ _ _) | refine Below.alloc ?_ (by first | (simp; done) | (simp; omega)) _)⟩
        · have g2 : decide ((2 * (i : Int)) < (na : Int)) = false := by simp; omega
          have HC : Hid (Lcp A na B nb (2 * i)) := HL.out.1 (by omega)
          go_wp2
          go_quiet (fail)
          go_wp2
          go_quiet (fail)
          go_wp2
          go_ret
          exact ⟨2 * i, ret_i64 (by omega), HC.out, by repeat (first | exact Below.refl _ _ | refine Below.trans ?_ (bd _ _ _) | refine Below.alloc ?_ (by first | (simp; done) | (simp; omega)) _)⟩
end Go.Proofs.Qxb6003407a.Cmp
