import Derived.Test.Qxb6003407aMore
set_option linter.unusedVariables false
namespace Go.Proofs.Qxb6003407a.Cmp
open Go.ChangeShapes Go.WideShapes Go.ChangeAt Go.RowKit

theorem Try.info5 : (Try.prog.info? 5).map (fun i => (i.zero, i.size, i.bytes)) = some (some (.int .u8 0), 1, 1) := by kernel_rfl

def bv (n : Nat) : Value := .int .u8 (n : Int)

/-- the first k of the cells 'xs' hold the first k of T -/
def Filled (xs : List Value) (T : List Nat) (k : Nat) : Prop := ∀ i, i < k → xs[i]? = some (bv (T.getD i 0))

theorem Filled.next {xs : List Value} {T : List Nat} {k : Nat} (h : Filled xs T k) (hk : k < xs.length) : Filled (xs.set k (bv (T.getD k 0))) T (k + 1) := by
  intro i hi
  by_cases e : i = k
  · subst e; rw [List.getElem?_set_self hk]
  · rw [List.getElem?_set_ne (fun e2 => e e2.symm)]
    exact h i (by omega)

theorem seg_of_own {w : World} {B g n : Nat} {T : List Nat} {xs : List Value} (h : w.ownsRow B 5 1 (.slice (some ⟨g, 0, none⟩) T.length n) T.length xs) (hf : Filled xs T T.length) : SegAt w (some ⟨g, 0, none⟩) T := by
  right
  refine ⟨g, 0, rfl, (h.lt g rfl).2, fun i hi => ?_⟩
  have := h.cellAt i (by omega)
  rw [Nat.zero_add, this]
  exact hf i hi

/-- what c2ReadNibs answers -/
def RSays (B : List Nat) (n : Nat) (e : Ending) (w' : World) : Prop :=
  e = .returned (.tuple #[.slice none 0 0, .bool false]) ∨ ∃ a', e = .returned (.tuple #[.slice a' (nibs B n).length n, .bool true]) ∧ SegAt w' a' (nibs B n) ∧ (n + 1) / 2 ≤ B.length

set_option maxHeartbeats 2000000 in
set_option maxRecDepth 100000 in
theorem readNibs (B : List Nat) (b : Option Addr) (cap n : Nat) (w : World) (hB : SegAt w b B) (bB : Bytes B) (lB : B.length ≤ 1048576) (hn : n ≤ 1048576) :
    Calls Try.prog 10 #[.slice b B.length cap, .int .i64 n] w fun e w' => RSays B n e w' ∧ Below w.heap.size w w' := by
  obtain ⟨i0, hi, hz0, hz1, hz2⟩ := info_parts Try.info5
  by_cases h1 : (262144 : Int) < n
  · go_enter Try.func10, Try.ntmps10
    go_wp2
    go_ret2
    exact ⟨.inl rfl, Below.refl _ _⟩
  · by_cases h2 : (B.length : Int) < ((n : Int) + 1) / 2
    · go_enter Try.func10, Try.ntmps10
      go_wp2
      go_ret2
      exact ⟨.inl rfl, Below.refl _ _⟩
    · have hT : (nibs B n).length = n := nibs_len B n
      have HT : Hid ((nibs B n).length = n) := hT
      clear hT
      go_enter Try.func10, Try.ntmps10
      go_wp2_with (first
        | (at_make; refine wpList_make_full _ rfl _ _ 22 rfl w.heap.size 5 i0 (.int .u8 0) 1 Try.underlying22 hi hz0 hz1 .i64 .i64 _ _ n rfl rfl (by omega) (by omega) (by rw [hz2]; omega) (by unfold maxLen; omega) (Nat.le_refl _) ?_; intro w0 hown0 hgrow0))
      go_loopw [7] (fun kv wr => ∃ (k : Nat) (xs : List Value), k ≤ n ∧ kv = .int .i64 k ∧ wr.ownsRow w.heap.size 5 1 (.slice (some ⟨w.heap.size, 0, none⟩) n n) n xs ∧ Below w.heap.size w wr ∧ Hid (Filled xs (nibs B n) k))
        (fun kv _ => n - (intOf kv).toNat)
      case atStart => exact ⟨0, _, by omega, by go_num, hown0, (Below.refl _ _).grown hgrow0 (Nat.le_refl _) (fun k h => by cases h), fun i hi => absurd hi (by omega)⟩
      case round =>
        obtain ⟨k, xs, hk, rfl, hown, hnx, Hf⟩ := hrel
        by_cases hlt : k < n
        · obtain ⟨bb, ob, rfl, hbb, hcb0⟩ := hB.get (show k / 2 < B.length by omega)
          obtain ⟨x, hx, hx256, Hx⟩ : ∃ x : Nat, wr.cell? ⟨bb, ob + k / 2, none⟩ = some (.int .u8 (x : Int)) ∧ x < 256 ∧ Hid (x = B.getD (k / 2) 0) := ⟨_, (hnx.cell (by exact hbb)).trans hcb0, bB _, rfl⟩
          clear hcb0
          have ix : (0 : Int) ≤ (k : Int) / 2 ∧ (k : Int) / 2 < B.length := by omega
          have hfz : wr.frozen? ⟨w.heap.size, k, none⟩ = false := hown.frozenAt k
          obtain ⟨old, hold⟩ : ∃ old, wr.cell? ⟨w.heap.size, k, none⟩ = some old := by
            rw [hown.cellAt k (by omega)]
            exact ⟨_, List.getElem?_eq_getElem (by rw [hown.1]; omega)⟩
          have Hlen : Hid (xs.length = n * 1) := hown.1
          have Hsz := hnx.size
          have Hnib : Hid ((nibs B n).getD k 0 = nv x k) := by
            show (nibs B n).getD k 0 = nv x k
            rw [nibs_at B n k hlt, nib_nv, Hx.out]
          have Hst : Hid _ := hown.stored k (bv (nv x k))
          have HF : Hid (Filled (xs.set k (bv (nv x k))) (nibs B n) (k + 1)) := by
            have F := Filled.next Hf.out (show k < xs.length by rw [Hlen.out]; omega)
            rw [Hnib.out] at F; exact F
          by_cases h2 : k % 2 = 0
          · have h3 : ((k : Int) % 2 == 0) = true := by simp; omega
            have Hv : Hid (bv (nv x k) = .int .u8 ((x : Int) / 16)) := by
              show Value.int .u8 _ = _
              unfold nv; rw [if_pos h2]; congr 1
            rw [Hv.out] at Hst
            go_wp2
            go_roundw
            case rel => exact ⟨k + 1, xs.set k (bv (nv x k)), by omega, by go_num, by rw [Hv.out]; exact Hst.out.1, hnx.grown Hst.out.2 Hsz (fun j hj => by cases hj; exact Nat.le_refl _), HF.out⟩
            case measure => simp [intOf]; omega
          · have h3 : ((k : Int) % 2 == 0) = false := by simp; omega
            have Hv : Hid (bv (nv x k) = .int .u8 ((x : Int) % 16)) := by
              show Value.int .u8 _ = _
              unfold nv; rw [if_neg h2]; congr 1
            rw [Hv.out] at Hst
            go_wp2
            go_roundw
            case rel => exact ⟨k + 1, xs.set k (bv (nv x k)), by omega, by go_num, by rw [Hv.out]; exact Hst.out.1, hnx.grown Hst.out.2 Hsz (fun j hj => by cases hj; exact Nat.le_refl _), HF.out⟩
            case measure => simp [intOf]; omega
        · have hkz : Hid (k = n) := by show k = n; omega
          have Hown : Hid _ := hown
          clear hown
          go_wp2
          go_ret2
          refine ⟨.inr ⟨some ⟨w.heap.size, 0, none⟩, by rw [HT.out]; rfl, ?_, by omega⟩, hnx⟩
          refine seg_of_own (B := w.heap.size) (xs := xs) (n := n) ?_ ?_
          · rw [HT.out]; exact Hown.out
          · rw [HT.out]; have := Hf.out; rw [hkz.out] at this; exact this

theorem keyN_even (K : List Nat) (i : Nat) (h : i < K.length) : (keyN K).getD (2 * i) 0 = K.getD i 0 / 16 := by rw [keyN_get K _ (by omega), nib_even]
theorem keyN_odd (K : List Nat) (i : Nat) (h : i < K.length) : (keyN K).getD (2 * i + 1) 0 = K.getD i 0 % 16 := by rw [keyN_get K _ (by omega), nib_odd]

set_option maxHeartbeats 2000000 in
set_option maxRecDepth 100000 in
theorem keyNibs (K : List Nat) (b : Option Addr) (cap : Nat) (w : World) (hB : SegAt w b K) (bB : Bytes K) (lB : K.length ≤ 1048576) :
    Calls Try.prog 20 #[.slice b K.length cap] w fun e w' => ∃ c', e = .returned (.slice (some ⟨w.heap.size, 0, none⟩) (keyN K).length c') ∧ SegAt w' (some ⟨w.heap.size, 0, none⟩) (keyN K) ∧ Below w.heap.size w w' := by
  obtain ⟨i0, hi, hz0, hz1, hz2⟩ := info_parts Try.info5
  have HT : Hid ((keyN K).length = 2 * K.length) := keyN_len K
  obtain ⟨N, hN⟩ : ∃ N, N = 2 * K.length := ⟨_, rfl⟩
  have HN : Hid (N = 2 * K.length) := hN
  have hN1 : N ≤ 2 * K.length := by omega
  have hN2 : 2 * K.length ≤ N := by omega
  clear hN
  go_enter Try.func20, Try.ntmps20
  go_wp2_with (first
    | (at_make; refine wpList_make_full _ rfl _ _ 22 rfl w.heap.size 5 i0 (.int .u8 0) 1 Try.underlying22 hi hz0 hz1 .i64 .i64 _ _ N rfl rfl (by omega) (by omega) (by rw [hz2]; omega) (by unfold maxLen; omega) (Nat.le_refl _) ?_; intro w0 hown0 hgrow0))
  go_loopw [4] (fun kv wr => ∃ (k : Nat) (xs : List Value), k ≤ K.length ∧ kv = .int .i64 k ∧ wr.ownsRow w.heap.size 5 1 (.slice (some ⟨w.heap.size, 0, none⟩) N N) N xs ∧ Below w.heap.size w wr ∧ Hid (Filled xs (keyN K) (2 * k)))
    (fun kv _ => K.length - (intOf kv).toNat)
  case atStart => exact ⟨0, _, by omega, by go_num, hown0, (Below.refl _ _).grown hgrow0 (Nat.le_refl _) (fun k h => by cases h), fun i hi => absurd hi (by omega)⟩
  case round =>
    obtain ⟨k, xs, hk, rfl, hown, hnx, Hf⟩ := hrel
    by_cases hlt : k < K.length
    · obtain ⟨bb, ob, rfl, hbb, hcb0⟩ := hB.get hlt
      obtain ⟨x, hx, hx256, Hx⟩ : ∃ x : Nat, wr.cell? ⟨bb, ob + k, none⟩ = some (.int .u8 (x : Int)) ∧ x < 256 ∧ Hid (x = K.getD k 0) := ⟨_, (hnx.cell (by exact hbb)).trans hcb0, bB _, rfl⟩
      clear hcb0
      have hne : bb ≠ w.heap.size := by omega
      have hfz : wr.frozen? ⟨w.heap.size, 2 * k, none⟩ = false := hown.frozenAt (2 * k)
      have hfz2 : wr.frozen? ⟨w.heap.size, 2 * k + 1, none⟩ = false := hown.frozenAt (2 * k + 1)
      have hlen : xs.length = N * 1 := hown.1
      obtain ⟨old, hold⟩ : ∃ old, wr.cell? ⟨w.heap.size, 2 * k, none⟩ = some old := by
        rw [hown.cellAt (2 * k) (by omega)]
        exact ⟨_, List.getElem?_eq_getElem (by omega)⟩
      obtain ⟨old2, hold2⟩ : ∃ old, wr.cell? ⟨w.heap.size, 2 * k + 1, none⟩ = some old := by
        rw [hown.cellAt (2 * k + 1) (by omega)]
        exact ⟨_, List.getElem?_eq_getElem (by omega)⟩
      have Hsz := hnx.size
      have s1 := hown.stored (2 * k) (.int .u8 ((x : Int) / 16))
      have s2 := s1.1.stored (2 * k + 1) (.int .u8 ((x : Int) % 16))
      have e1 : bv ((keyN K).getD (2 * k) 0) = .int .u8 ((x : Int) / 16) := by
        rw [keyN_even K k hlt, ← Hx.out]; show Value.int .u8 _ = _; congr 1
      have e2 : bv ((keyN K).getD (2 * k + 1) 0) = .int .u8 ((x : Int) % 16) := by
        rw [keyN_odd K k hlt, ← Hx.out]; show Value.int .u8 _ = _; congr 1
      have f1 := Filled.next Hf.out (show 2 * k < xs.length by omega)
      rw [e1] at f1
      have f2 := Filled.next f1 (show 2 * k + 1 < (xs.set (2 * k) (.int .u8 ((x : Int) / 16))).length by rw [List.length_set]; omega)
      rw [e2] at f2
      have HB2 : Hid _ := (hnx.grown s1.2 Hsz (fun j hj => by cases hj; exact Nat.le_refl _)).grown s2.2 (Nat.le_trans Hsz s1.2.size) (fun j hj => by cases hj; exact Nat.le_refl _)
      have HS2 : Hid _ := s2.1
      have HF2 : Hid (Filled _ (keyN K) (2 * (k + 1))) := f2
      clear s1 s2 e1 e2 f1 f2 hlen
      go_wp2
      go_roundw
      case rel => exact ⟨k + 1, _, by omega, by go_num, HS2.out, HB2.out, HF2.out⟩
      case measure => simp [intOf]; omega
    · have hkz : Hid (k = K.length) := by show k = K.length; omega
      have Hown : Hid _ := hown
      clear hown
      go_wp2
      go_ret
      refine ⟨N, by rw [HT.out, ← HN.out]; rfl, ?_, hnx⟩
      refine seg_of_own (B := w.heap.size) (xs := xs) (n := N) ?_ ?_
      · rw [HT.out, ← HN.out]; exact Hown.out
      · rw [HT.out]; have := Hf.out; rw [hkz.out] at this; exact this

/-- what c2ReprOK answers -/
def OkSays (X B : List Nat) (e : Ending) : Prop := ∃ c : Bool, e = .returned (.bool c) ∧ (c = true → (X.length + 1) / 2 ≤ B.length ∧ X = nibs B X.length)
theorem ok_no (X B : List Nat) : OkSays X B (.returned (.bool false)) := ⟨false, rfl, fun h => by cases h⟩

set_option maxHeartbeats 2000000 in
set_option maxRecDepth 100000 in
theorem reprOK (X B : List Nat) (a b : Option Addr) (cap cap1 : Nat) (w : World) (hX : SegAt w a X) (hB : SegAt w b B) (bB : Bytes B) (lX : X.length ≤ 1048576) (lB : B.length ≤ 1048576) :
    Calls Try.prog 34 #[.slice a X.length cap, .slice b B.length cap1] w fun e w' => OkSays X B e ∧ Below w.heap.size w w' := by
  go_enter Try.func34, Try.ntmps34
  go_wp2
  go_loop [5] (fun iv => ∃ i : Nat, i ≤ X.length ∧ iv = .int .i64 i) (fun iv => X.length - (intOf iv).toNat)
  case atStart => exact ⟨0, by omega, rfl⟩
  case round =>
    obtain ⟨i, hi, rfl⟩ := hrel
    by_cases hlt : i < X.length
    · obtain ⟨ba, oa, rfl, hba, hca0⟩ := hX.get hlt
      obtain ⟨x, hx⟩ : ∃ x : Nat, w.cell? ⟨ba, oa + i, none⟩ = some (.int .u8 (x : Int)) := ⟨_, hca0⟩
      clear hca0
      by_cases h15 : (15 : Int) < x
      · go_wp2
        go_ret
        exact ⟨ok_no X B, Below.refl _ _⟩
      · go_wp2
        go_round
        case rel => exact ⟨i + 1, by omega, by go_num⟩
        case measure => simp [intOf]; omega
    · go_wp2_with fail
      refine (readNibs B b cap1 X.length _ hB bB lB lX).mono ?_
      rintro e w1 ⟨rfl | ⟨a', rfl, hs, hn⟩, hb1⟩
      · go_wp2
        go_ret
        exact ⟨ok_no X B, hb1⟩
      · have HN : Hid ((X.length + 1) / 2 ≤ B.length) := hn
        have HL : Hid ((nibs B X.length).length = X.length) := nibs_len _ _
        have HS : Hid (SegAt w1 a' (nibs B X.length)) := hs
        clear hn hs
        go_wp2_with fail
        refine (eq11 (nibs B X.length) X _ _ _ _ _ HS.out (SegAt.below hX hb1) (by rw [HL.out]; exact lX) lX).mono ?_
        rintro e w2 ⟨⟨c, rfl, hc⟩, n, rfl⟩
        have HC : Hid (c = true ↔ nibs B X.length = X) := hc
        clear hc
        go_wp2
        go_ret
        exact ⟨⟨c, rfl, fun h => ⟨HN.out, (HC.out.1 h).symm⟩⟩, hb1.trans (bd _ _ _)⟩
end Go.Proofs.Qxb6003407a.Cmp
