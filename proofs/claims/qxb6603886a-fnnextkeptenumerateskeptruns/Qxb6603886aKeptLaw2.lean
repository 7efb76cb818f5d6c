import Derived.Test.Qxb6603886aKeptLaw1
set_option linter.unusedVariables false
namespace Go.Proofs.Qxb6603886a.Kept
open Go.ChangeShapes Go.WideShapes Go.ChangeAt Go.RowKit

set_option maxHeartbeats 400000 in
theorem bytes21_yes (a a1 : Option Addr) (n m cap cap1 : Nat) (slot : Int) (w : World) (h : n + m ≤ 1048576) :
    Calls Try.prog 21 #[.slice a n cap, .slice a1 m cap1, .int .i64 slot] w fun e w' => e = .returned (.bool true) ∧ w = w' := by
  have h1 : ¬ (1048576 : Int) < n := by omega
  have h2 : ¬ (1048576 : Int) < m := by omega
  have h3 : ¬ (1048576 : Int) < (n : Int) + m := by omega
  go_enter Try.func21, Try.ntmps21
  go_wp2
  go_ret
  exact ⟨rfl, rfl⟩

set_option maxHeartbeats 400000 in
theorem bytes21_no (a a1 : Option Addr) (n m cap cap1 : Nat) (slot : Int) (w : World) (hn : n ≤ maxLen) (hm : m ≤ maxLen) (h : ¬ n + m ≤ 1048576) :
    Calls Try.prog 21 #[.slice a n cap, .slice a1 m cap1, .int .i64 slot] w fun e w' => e = .returned (.bool false) ∧ w = w' := by
  unfold maxLen at hn hm
  by_cases h1 : (1048576 : Int) < n
  · go_enter Try.func21, Try.ntmps21
    go_wp2
    go_ret
    exact ⟨rfl, rfl⟩
  · by_cases h2 : (1048576 : Int) < m
    · go_enter Try.func21, Try.ntmps21
      go_wp2
      go_ret
      exact ⟨rfl, rfl⟩
    · have h3 : (1048576 : Int) < (n : Int) + m := by omega
      clear h
      go_enter Try.func21, Try.ntmps21
      go_wp2
      go_ret
      exact ⟨rfl, rfl⟩

set_option maxHeartbeats 1000000 in
theorem law5_out (a a1 : Option Addr) (n m cap cap1 : Nat) (slot : Int) (w : World) (hn : n ≤ maxLen) (hm : m ≤ maxLen) (h : ¬ (n + m ≤ 1048576 ∧ n ≤ 65536 ∧ m ≤ 65536 ∧ 0 ≤ slot)) :
    Calls Try.prog 7 #[.slice a n cap, .slice a1 m cap1, .int .i64 slot] w fun e w' => e = .returned (.bool true) ∧ Below w.heap.size w w' := by
  by_cases h0 : n + m ≤ 1048576
  · by_cases h1 : (65536 : Int) < n
    · go_enter Try.func7, Try.ntmps7
      go_wp2_with fail
      refine (bytes21_yes a a1 n m cap cap1 slot _ h0).mono ?_
      rintro e w' ⟨rfl, rfl⟩
      go_wp2
      go_ret
      exact ⟨rfl, Below.refl _ _⟩
    · by_cases h2 : (65536 : Int) < m
      · go_enter Try.func7, Try.ntmps7
        go_wp2_with fail
        refine (bytes21_yes a a1 n m cap cap1 slot _ h0).mono ?_
        rintro e w' ⟨rfl, rfl⟩
        go_wp2
        go_ret
        exact ⟨rfl, Below.refl _ _⟩
      · have h4 : slot < 0 := by omega
        clear h
        go_enter Try.func7, Try.ntmps7
        go_wp2_with fail
        refine (bytes21_yes a a1 n m cap cap1 slot _ h0).mono ?_
        rintro e w' ⟨rfl, rfl⟩
        go_wp2
        go_ret
        exact ⟨rfl, Below.refl _ _⟩
  · go_enter Try.func7, Try.ntmps7
    go_wp2_with fail
    refine (bytes21_no a a1 n m cap cap1 slot _ hn hm h0).mono ?_
    rintro e w' ⟨rfl, rfl⟩
    go_wp2
    go_ret
    exact ⟨rfl, Below.refl _ _⟩

theorem cnt_hit {Z : List Nat} {slot p k : Nat} (h : p ≤ k) (hk : keeps Z slot k = true) (hs : ∀ t, p ≤ t → t < k → keeps Z slot t = false) : cnt Z slot (k + 1) = cnt Z slot p + 1 := by
  simp only [cnt]
  rw [hk, cnt_skip h hs]; simp

theorem First.hit {Z : List Nat} {slot p : Nat} {r : Int} (h : First Z slot p r) (hr : ¬ r = -1) : ∃ k : Nat, r = k ∧ p ≤ k ∧ k < Z.length ∧ keeps Z slot k = true ∧ ∀ t, p ≤ t → t < k → keeps Z slot t = false := by
  rcases h with h | h
  · exact absurd h.1 hr
  · exact h

theorem First.none {Z : List Nat} {slot p : Nat} (h : First Z slot p (-1)) (hp : p ≤ Z.length) : cnt Z slot p = cnt Z slot Z.length := by
  rcases h with h | ⟨k, hk, _⟩
  · exact (cnt_skip hp (fun t a b => h.2 t a b)).symm
  · omega

set_option maxHeartbeats 2000000 in
theorem law5_in (Z B : List Nat) (a a1 : Option Addr) (cap cap1 : Nat) (slot : Nat) (w : World) (hZ : SegAt w a Z) (hB : SegAt w a1 B) (wZ : Words Z) (wB : Words B)
    (nZ : a = none → Z = [] ∧ cap = 0) (nB : a1 = none → B = [] ∧ cap1 = 0) (hl : Z.length ≤ 65536) (hlB : B.length ≤ 65536) (s1 : slot ≤ 9223372036854775807) :
    Calls Try.prog 7 #[.slice a Z.length cap, .slice a1 B.length cap1, .int .i64 slot] w fun e w' => e = .returned (.bool true) ∧ Below w.heap.size w w' := by
  have l1 : ¬ (65536 : Int) < Z.length := by omega
  have l2 : ¬ (65536 : Int) < B.length := by omega
  have HnZ : Hid _ := nZ
  have HnB : Hid _ := nB
  clear nZ nB
  go_enter Try.func7, Try.ntmps7
  go_wp2_with fail
  refine (bytes21_yes a a1 Z.length B.length cap cap1 slot _ (by omega)).mono ?_
  rintro e w' ⟨rfl, rfl⟩
  go_wp2_with fail
  refine (blocksCover Z B a a1 cap cap1 _ hZ hB wZ wB hl hlB).mono ?_
  rintro e w' ⟨⟨c, rfl, hcov⟩, n1, rfl⟩
  cases c with
  | false =>
    clear hcov
    go_wp2
    go_ret
    exact ⟨rfl, below_drewN' _ _ _⟩
  | true =>
    have HC : Hid (Cover Z B) := hcov rfl
    clear hcov
    go_wp2_with fail
    refine (copyWords Z a cap _ HnZ.out hZ.drewN (by omega)).mono ?_
    rintro e w1 ⟨a', cap', rfl, hZ1, hb1⟩
    have HZ1 : Hid (SegAt w1 a' Z) := hZ1
    have HB1 : Hid (SegAt w1 a1 B) := SegAt.below hB.drewN hb1
    clear hZ1 hZ hB
    go_wp2_with fail
    refine (copyWords B a1 cap1 _ HnB.out HB1.out (by omega)).mono ?_
    rintro e w2 ⟨a2, cap2, rfl, hB2, hb2⟩
    have HB2 : Hid (SegAt w2 a2 B) := hB2
    have HZ2 : Hid (SegAt w2 a' Z) := SegAt.below HZ1.out hb2
    clear hB2
    go_wp2
    go_loop [8, 9] (fun wv kv => ∃ k : Nat, k ≤ Z.length ∧ wv = .int .i64 (cnt Z slot k : Nat) ∧ kv = .int .i64 k) (fun _ kv => Z.length - (intOf kv).toNat)
    case atStart => exact ⟨0, by omega, rfl, rfl⟩
    case round =>
      obtain ⟨k, hk, rfl, rfl⟩ := hrel
      have hck := cnt_le Z slot k
      by_cases hlt : k < Z.length
      · go_wp2_with fail
        refine (runMask Z a' cap' _ _ (by exact HZ2.out) (by omega) (by omega) (by omega)).mono ?_
        rintro e w5 ⟨rfl, rfl⟩
        rw [Int.toNat_natCast]
        go_wp2_with fail
        refine (keepsSlot (rm Z k) _ _ (wZ _) (by omega) (by omega)).mono ?_
        rintro e w5 ⟨rfl, rfl⟩
        rw [Int.toNat_natCast]
        cases hk2 : (rm Z k).testBit slot
        · have Hk : Hid (cnt Z slot (k + 1) = cnt Z slot k) := by
            show cnt Z slot k + (if keeps Z slot k then 1 else 0) = _
            rw [show keeps Z slot k = false from hk2]; simp
          clear hk2
          go_wp2
          go_round
          case rel => exact ⟨k + 1, by omega, by rw [Hk.out], by go_num⟩
          case measure => simp [intOf]; omega
        · have Hk : Hid (cnt Z slot (k + 1) = cnt Z slot k + 1) := by
            show cnt Z slot k + (if keeps Z slot k then 1 else 0) = _
            rw [show keeps Z slot k = true from hk2]; simp
          clear hk2
          go_wp2
          go_round
          case rel => exact ⟨k + 1, by omega, by rw [Hk.out]; go_num, by go_num⟩
          case measure => simp [intOf]; omega
      · have hkz : k = Z.length := by omega
        subst hkz
        go_wp2_with fail
        refine (makePath Z B a' a2 cap' cap2 _ HZ2.out HB2.out (by omega)).mono ?_
        rintro e w3 ⟨P, K, rfl, hp, hb3⟩
        have Hp : Hid (Path w3 P K Z a2 B cap2) := hp
        have HZ3 : Hid (SegAt w3 a' Z) := SegAt.below HZ2.out hb3
        clear hp
        have HBel : Hid (Below w.heap.size w w3) :=
          (below_drewN' w n1 _).trans ((hb1.mono (Nat.le_refl _)).trans ((hb2.mono hb1.size).trans (hb3.mono (Nat.le_trans hb1.size hb2.size))))
        clear hb1 hb2 hb3
        go_wp2_with fail
        refine (zzNextKept P K cap2 Z B a2 0 slot _ Hp.out wZ wB hl hlB HC.out (by omega) (by omega) (by omega) (by omega)).mono ?_
        rintro e w4 ⟨r, rfl, hr, nq, rfl⟩
        rw [Int.toNat_natCast] at hr
        have Hr : Hid (First Z slot 0 r) := hr
        clear hr
        go_wp2
        go_loopw [11, 12, 13] (fun vv pv rv wr => ∃ (p : Nat) (r : Int), p ≤ Z.length ∧ vv = .int .i64 (cnt Z slot p : Nat) ∧ pv = .int .i64 ((p : Int) - 1) ∧ rv = .int .i64 r ∧ Hid (First Z slot p r) ∧ ∃ n, wr = w3.drewN n) (fun _ pv _ _ => ((Z.length : Int) - intOf pv).toNat)
        case atStart => exact ⟨0, r, by omega, rfl, rfl, rfl, Hr.out, nq, rfl⟩
        case round =>
          clear Hr
          obtain ⟨p, r, hp, rfl, rfl, rfl, Hr, n, rfl⟩ := hrel
          have hcp := cnt_le Z slot p
          by_cases hr1 : r = -1
          · subst hr1
            have hcn : cnt Z slot p = cnt Z slot Z.length := First.none Hr.out hp
            rw [hcn]
            go_wp2
            go_ret
            exact ⟨by simp, HBel.out.trans (below_drewN' _ _ _)⟩
          · obtain ⟨k, rfl, h1, h2, h3, h4⟩ := First.hit Hr.out hr1
            have Hcnt : Hid (cnt Z slot (k + 1) = cnt Z slot p + 1) := cnt_hit h1 h3 h4
            have Hkt : Hid ((rm Z k).testBit slot = true) := h3
            clear h3 h4
            have g1 : ¬ (k : Int) ≤ (p : Int) - 1 := by omega
            have g2 : ¬ (Z.length : Int) ≤ k := by omega
            have g0 : ((k : Int) != -1) = true := by simp
            go_wp2_with fail
            refine (runMask Z a' cap' _ _ (by exact SegAt.drewN HZ3.out) (by omega) (by omega) (by omega)).mono ?_
            rintro e w5 ⟨rfl, rfl⟩
            rw [Int.toNat_natCast]
            go_wp2_with fail
            refine (keepsSlot (rm Z k) _ _ (wZ _) (by omega) (by omega)).mono ?_
            rintro e w5 ⟨rfl, rfl⟩
            rw [Int.toNat_natCast, Hkt.out]
            go_wp2_with fail
            refine (zzNextKept P K cap2 Z B a2 _ _ _ (by exact Path.drewN Hp.out) wZ wB hl hlB HC.out (by omega) (by omega) (by omega) (by omega)).mono ?_
            rintro e w6 ⟨r2, rfl, hr2, nq2, rfl⟩
            rw [Int.toNat_natCast, show ((k : Int) + 1).toNat = k + 1 by omega] at hr2
            have Hr2 : Hid (First Z slot (k + 1) r2) := hr2
            clear hr2
            go_wp2
            go_roundw
            case rel => exact ⟨k + 1, r2, by omega, by rw [Hcnt.out]; go_num, by go_num, rfl, Hr2.out, _, rfl⟩
            case measure => simp [intOf]; omega

theorem law5 (a a1 : Option Addr) (n m cap cap1 : Nat) (zs zs1 : List Int) (slot : Int) (w : World)
    (h0 : (a = none ∧ n = 0 ∧ cap = 0 ∧ zs = []) ∨
      ∃ x, a = some x ∧ n ≤ cap ∧ cap ≤ maxLen ∧ zs.length = cap ∧ (∀ i, i < zs.length → w.cell? (x.add i) = some (.int .u64 (zs.getD i 0))) ∧ ∀ n ∈ zs, (Lit.int .u64 n).wf = true)
    (h1 : (a1 = none ∧ m = 0 ∧ cap1 = 0 ∧ zs1 = []) ∨
      ∃ x, a1 = some x ∧ m ≤ cap1 ∧ cap1 ≤ maxLen ∧ zs1.length = cap1 ∧ (∀ i, i < zs1.length → w.cell? (x.add i) = some (.int .u64 (zs1.getD i 0))) ∧ ∀ n ∈ zs1, (Lit.int .u64 n).wf = true)
    (w2 : (Lit.int .i64 slot).wf = true) :
    Calls Try.prog 7 #[.slice a n cap, .slice a1 m cap1, .int .i64 slot] w fun e w' => e = .returned (.bool true) ∧ Below w.heap.size w w' := by
  obtain ⟨hn, Z, rfl, sZ, wZ, nZ⟩ := view h0
  obtain ⟨hm, B, rfl, sB, wB, nB⟩ := view h1
  by_cases h : Z.length + B.length ≤ 1048576 ∧ Z.length ≤ 65536 ∧ B.length ≤ 65536 ∧ 0 ≤ slot
  · obtain ⟨_, h2, h3, h5⟩ := h
    have b2 := bounds_i64 w2
    obtain ⟨y, rfl⟩ := Int.eq_ofNat_of_zero_le h5
    exact law5_in Z B a a1 cap cap1 y w sZ sB wZ wB nZ nB h2 h3 (by omega)
  · exact law5_out a a1 _ _ cap cap1 slot w hn hm h
end Go.Proofs.Qxb6603886a.Kept
