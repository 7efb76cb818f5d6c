import Derived.Test.Qxb6603886aCover
set_option linter.unusedVariables false
namespace Go.Proofs.Qxb6603886a.Kept
open Go.ChangeShapes Go.WideShapes Go.ChangeAt Go.RowKit

theorem below_drewN' (w : World) (n B : Nat) : Below B w (w.drewN n) := ⟨rfl, rfl, rfl, Nat.le_refl _, fun _ _ => rfl⟩

set_option maxHeartbeats 400000 in
theorem bytes14_yes (a a1 : Option Addr) (n m cap cap1 : Nat) (i slot : Int) (w : World) (h : n + m ≤ 1048576) :
    Calls Try.prog 14 #[.slice a n cap, .slice a1 m cap1, .int .i64 i, .int .i64 slot] w fun e w' => e = .returned (.bool true) ∧ w = w' := by
  have h1 : ¬ (1048576 : Int) < n := by omega
  have h2 : ¬ (1048576 : Int) < m := by omega
  have h3 : ¬ (1048576 : Int) < (n : Int) + m := by omega
  go_enter Try.func14, Try.ntmps14
  go_wp2
  go_ret
  exact ⟨rfl, rfl⟩

set_option maxHeartbeats 400000 in
theorem bytes14_no (a a1 : Option Addr) (n m cap cap1 : Nat) (i slot : Int) (w : World) (hn : n ≤ maxLen) (hm : m ≤ maxLen) (h : ¬ n + m ≤ 1048576) :
    Calls Try.prog 14 #[.slice a n cap, .slice a1 m cap1, .int .i64 i, .int .i64 slot] w fun e w' => e = .returned (.bool false) ∧ w = w' := by
  unfold maxLen at hn hm
  by_cases h1 : (1048576 : Int) < n
  · go_enter Try.func14, Try.ntmps14
    go_wp2
    go_ret
    exact ⟨rfl, rfl⟩
  · by_cases h2 : (1048576 : Int) < m
    · go_enter Try.func14, Try.ntmps14
      go_wp2
      go_ret
      exact ⟨rfl, rfl⟩
    · have h3 : (1048576 : Int) < (n : Int) + m := by omega
      clear h
      go_enter Try.func14, Try.ntmps14
      go_wp2
      go_ret
      exact ⟨rfl, rfl⟩

set_option maxHeartbeats 1000000 in
theorem law4_out (a a1 : Option Addr) (n m cap cap1 : Nat) (i slot : Int) (w : World) (hn : n ≤ maxLen) (hm : m ≤ maxLen) (h : ¬ (n + m ≤ 1048576 ∧ n ≤ 65536 ∧ m ≤ 65536 ∧ 0 ≤ i ∧ 0 ≤ slot)) :
    Calls Try.prog 6 #[.slice a n cap, .slice a1 m cap1, .int .i64 i, .int .i64 slot] w fun e w' => e = .returned (.bool true) ∧ Below w.heap.size w w' := by
  by_cases h0 : n + m ≤ 1048576
  · by_cases h1 : (65536 : Int) < n
    · go_enter Try.func6, Try.ntmps6
      go_wp2_with fail
      refine (bytes14_yes a a1 n m cap cap1 i slot _ h0).mono ?_
      rintro e w' ⟨rfl, rfl⟩
      go_wp2
      go_ret
      exact ⟨rfl, Below.refl _ _⟩
    · by_cases h2 : (65536 : Int) < m
      · go_enter Try.func6, Try.ntmps6
        go_wp2_with fail
        refine (bytes14_yes a a1 n m cap cap1 i slot _ h0).mono ?_
        rintro e w' ⟨rfl, rfl⟩
        go_wp2
        go_ret
        exact ⟨rfl, Below.refl _ _⟩
      · by_cases h3 : i < 0
        · go_enter Try.func6, Try.ntmps6
          go_wp2_with fail
          refine (bytes14_yes a a1 n m cap cap1 i slot _ h0).mono ?_
          rintro e w' ⟨rfl, rfl⟩
          go_wp2
          go_ret
          exact ⟨rfl, Below.refl _ _⟩
        · have h4 : slot < 0 := by omega
          clear h
          go_enter Try.func6, Try.ntmps6
          go_wp2_with fail
          refine (bytes14_yes a a1 n m cap cap1 i slot _ h0).mono ?_
          rintro e w' ⟨rfl, rfl⟩
          go_wp2
          go_ret
          exact ⟨rfl, Below.refl _ _⟩
  · go_enter Try.func6, Try.ntmps6
    go_wp2_with fail
    refine (bytes14_no a a1 n m cap cap1 i slot _ hn hm h0).mono ?_
    rintro e w' ⟨rfl, rfl⟩
    go_wp2
    go_ret
    exact ⟨rfl, Below.refl _ _⟩

set_option maxHeartbeats 2000000 in
theorem law4_in (Z B : List Nat) (a a1 : Option Addr) (cap cap1 : Nat) (i slot : Nat) (w : World) (hZ : SegAt w a Z) (hB : SegAt w a1 B) (wZ : Words Z) (wB : Words B)
    (nZ : a = none → Z = [] ∧ cap = 0) (nB : a1 = none → B = [] ∧ cap1 = 0) (hl : Z.length ≤ 65536) (hlB : B.length ≤ 65536) (i1 : i ≤ 9223372036854775807) (s1 : slot ≤ 9223372036854775807) :
    Calls Try.prog 6 #[.slice a Z.length cap, .slice a1 B.length cap1, .int .i64 i, .int .i64 slot] w fun e w' => e = .returned (.bool true) ∧ Below w.heap.size w w' := by
  have l1 : ¬ (65536 : Int) < Z.length := by omega
  have l2 : ¬ (65536 : Int) < B.length := by omega
  have HnZ : Hid _ := nZ
  have HnB : Hid _ := nB
  clear nZ nB
  go_enter Try.func6, Try.ntmps6
  go_wp2_with fail
  refine (bytes14_yes a a1 Z.length B.length cap cap1 i slot _ (by omega)).mono ?_
  rintro e w' ⟨rfl, rfl⟩
  go_wp2_with fail
  refine (blocksCover Z B a a1 cap cap1 _ hZ hB wZ wB hl hlB).mono ?_
  rintro e w' ⟨⟨c, rfl, hcov⟩, n1, rfl⟩
  cases c with
  | false =>
    clear hcov
    go_wp2
    go_ret
    exact ⟨rfl, below_drewN' _ _ _⟩
  | true =>
    have HC : Hid (Cover Z B) := hcov rfl
    clear hcov
    go_wp2_with fail
    refine (copyWords Z a cap _ HnZ.out hZ.drewN (by omega)).mono ?_
    rintro e w1 ⟨a', cap', rfl, hZ1, hb1⟩
    have HZ1 : Hid _ := hZ1
    have HB1 : Hid _ := SegAt.below hB.drewN hb1
    clear hZ1 hZ hB
    go_wp2_with fail
    refine (copyWords B a1 cap1 _ HnB.out HB1.out (by omega)).mono ?_
    rintro e w2 ⟨a2, cap2, rfl, hB2, hb2⟩
    have HB2 : Hid _ := hB2
    have HZ2 : Hid _ := SegAt.below HZ1.out hb2
    clear hB2
    go_wp2_with fail
    refine (makePath Z B a' a2 cap' cap2 _ HZ2.out HB2.out (by omega)).mono ?_
    rintro e w3 ⟨P, K, rfl, hp, hb3⟩
    have Hp : Hid _ := hp
    have HZ3 : Hid _ := SegAt.below HZ2.out hb3
    clear hp
    go_wp2_with fail
    refine (zzNextKept P K cap2 Z B a2 i slot _ Hp.out wZ wB hl hlB HC.out (by omega) (by omega) (by omega) (by omega)).mono ?_
    rintro e w4 ⟨r, rfl, hr, nq, rfl⟩
    rw [Int.toNat_natCast, Int.toNat_natCast] at hr
    have Hr : Hid _ := hr
    clear hr
    have HBel : Hid (Below w.heap.size w (w3.drewN nq)) :=
      (below_drewN' w n1 _).trans ((hb1.mono (Nat.le_refl _)).trans ((hb2.mono hb1.size).trans ((hb3.mono (Nat.le_trans hb1.size hb2.size)).trans (below_drewN' _ _ _))))
    clear hb1 hb2 hb3
    go_wp2
    go_loop [11, 12] (fun wv kv => ∃ j : Nat, i ≤ j ∧ j ≤ 9223372036854775807 ∧ wv = .int .i64 (-1) ∧ kv = .int .i64 j ∧ Hid (∀ t, i ≤ t → t < j → t < Z.length → keeps Z slot t = false)) (fun _ kv => Z.length - (intOf kv).toNat)
    case atStart => exact ⟨i, Nat.le_refl _, i1, rfl, rfl, fun t x y => absurd x (by omega)⟩
    case round =>
      obtain ⟨j, hj1, hj2, rfl, rfl, Hs⟩ := hrel
      by_cases hlt : j < Z.length
      · go_wp2_with fail
        refine (runMask Z a' cap' _ _ (by exact SegAt.drewN HZ3.out) (by omega) (by omega) (by omega)).mono ?_
        rintro e w5 ⟨rfl, rfl⟩
        rw [Int.toNat_natCast]
        go_wp2_with fail
        refine (keepsSlot (rm Z j) _ _ (wZ _) (by omega) (by omega)).mono ?_
        rintro e w5 ⟨rfl, rfl⟩
        rw [Int.toNat_natCast]
        cases hk : (rm Z j).testBit slot
        · have Hk : Hid (keeps Z slot j = false) := hk
          clear hk
          go_wp2
          go_round
          case rel => exact ⟨j + 1, by omega, by omega, rfl, by go_num, seen Hs.out fun _ => Hk.out⟩
          case measure => simp [intOf]; omega
        · have Hk : Hid (keeps Z slot j = true) := hk
          clear hk
          have hrj : r = j := First.one Hr.out (.inr ⟨j, rfl, hj1, hlt, Hk.out, fun t x y => Hs.out t x y (by omega)⟩)
          subst hrj
          go_wp2
          go_ret
          exact ⟨by simp, HBel.out⟩
      · have hrj : r = -1 := First.one Hr.out (.inl ⟨rfl, fun k x y => Hs.out k x (by omega) y⟩)
        subst hrj
        go_wp2
        go_ret
        exact ⟨by simp, HBel.out⟩

theorem law4 (a a1 : Option Addr) (n m cap cap1 : Nat) (zs zs1 : List Int) (i slot : Int) (w : World)
    (h0 : (a = none ∧ n = 0 ∧ cap = 0 ∧ zs = []) ∨
      ∃ x, a = some x ∧ n ≤ cap ∧ cap ≤ maxLen ∧ zs.length = cap ∧ (∀ i, i < zs.length → w.cell? (x.add i) = some (.int .u64 (zs.getD i 0))) ∧ ∀ n ∈ zs, (Lit.int .u64 n).wf = true)
    (h1 : (a1 = none ∧ m = 0 ∧ cap1 = 0 ∧ zs1 = []) ∨
      ∃ x, a1 = some x ∧ m ≤ cap1 ∧ cap1 ≤ maxLen ∧ zs1.length = cap1 ∧ (∀ i, i < zs1.length → w.cell? (x.add i) = some (.int .u64 (zs1.getD i 0))) ∧ ∀ n ∈ zs1, (Lit.int .u64 n).wf = true)
    (w2 : (Lit.int .i64 i).wf = true) (w3 : (Lit.int .i64 slot).wf = true) :
    Calls Try.prog 6 #[.slice a n cap, .slice a1 m cap1, .int .i64 i, .int .i64 slot] w fun e w' => e = .returned (.bool true) ∧ Below w.heap.size w w' := by
  obtain ⟨hn, Z, rfl, sZ, wZ, nZ⟩ := view h0
  obtain ⟨hm, B, rfl, sB, wB, nB⟩ := view h1
  by_cases h : Z.length + B.length ≤ 1048576 ∧ Z.length ≤ 65536 ∧ B.length ≤ 65536 ∧ 0 ≤ i ∧ 0 ≤ slot
  · obtain ⟨_, h2, h3, h4, h5⟩ := h
    have b2 := bounds_i64 w2
    have b3 := bounds_i64 w3
    obtain ⟨x, rfl⟩ := Int.eq_ofNat_of_zero_le h4
    obtain ⟨y, rfl⟩ := Int.eq_ofNat_of_zero_le h5
    exact law4_in Z B a a1 cap cap1 x y w sZ sB wZ wB nZ nB h2 h3 (by omega) (by omega)
  · exact law4_out a a1 _ _ cap cap1 i slot w hn hm h
end Go.Proofs.Qxb6603886a.Kept
