import Derived.Test.Qxb6003407aCopy
import Derived.Test.Qxb6003407aP0
import Derived.Deep.DeepCutAuto
set_option linter.unusedVariables false
namespace Go.Proofs.Qxb6003407a.Cmp
open Go.ChangeShapes Go.WideShapes Go.ChangeAt Go.RowKit

set_option maxHeartbeats 8000000 in
set_option maxRecDepth 100000 in
theorem law8 (KA KB X XB Y YB Z ZB : List Nat) (a0 a1 a2 a3 a4 a5 a6 a7 : Option Addr) (c0 c1 c2 c3 c4 c5 c6 c7 : Nat) (w : World) (h0 : SegAt w a0 KA) (h1 : SegAt w a1 KB) (h2 : SegAt w a2 X) (h3 : SegAt w a3 XB) (h4 : SegAt w a4 Y) (h5 : SegAt w a5 YB) (h6 : SegAt w a6 Z) (h7 : SegAt w a7 ZB) (bKA : Bytes KA) (bKB : Bytes KB) (bX : Bytes X) (bXB : Bytes XB) (bY : Bytes Y) (bYB : Bytes YB) (bZ : Bytes Z) (bZB : Bytes ZB) (nKA : a0 = none → KA = [] ∧ c0 = 0) (nKB : a1 = none → KB = [] ∧ c1 = 0) :
    Calls Try.prog 4 #[.slice a0 KA.length c0, .slice a1 KB.length c1, .slice a2 X.length c2, .slice a3 XB.length c3, .slice a4 Y.length c4, .slice a5 YB.length c5, .slice a6 Z.length c6, .slice a7 ZB.length c7] w fun e w' => e = .returned (.bool true) ∧ Below w.heap.size w w' := by
  obtain ⟨i0, hi, hz0, hz1, hz2⟩ := info_parts Try.info5
  have HnKA : Hid (a0 = none → KA = [] ∧ c0 = 0) := nKA
  have HnKB : Hid (a1 = none → KB = [] ∧ c1 = 0) := nKB
  clear nKA nKB
  have hnil0 := fun wx => run_neq_slice_nil_any (P := Try.prog) wx 22 5 a0 KA.length c0 0 0 Try.underlying22
  have hnil1 := fun wx => run_neq_slice_nil_any (P := Try.prog) wx 22 5 a1 KB.length c1 0 0 Try.underlying22
  go_enter Try.func4, Try.ntmps4
  go_wp2_with fail
  refine (bytes21 a0 a1 a2 a3 a4 a5 a6 a7 KA.length KB.length X.length XB.length Y.length YB.length Z.length ZB.length c0 c1 c2 c3 c4 c5 c6 c7 _).mono ?_
  rintro e w' ⟨⟨c, rfl⟩, rfl⟩
  cases c with
  | false =>
    go_wp2
    go_ret
    exact ⟨rfl, Below.refl _ _⟩
  | true =>
    go_wp2_with fail
    refine (outside KA KB X XB Y YB Z ZB a0 a1 a2 a3 a4 a5 a6 a7 c0 c1 c2 c3 c4 c5 c6 c7 _ h2 h3 h4 h5 h6 h7 bXB bYB bZB).mono ?_
    rintro e w1 ⟨⟨c, rfl, hin⟩, hb1⟩
    cases c with
    | true =>
      clear hin
      go_wp2
      go_ret
      exact ⟨rfl, hb1⟩
    | false =>
      have HI : Hid (Inside KA KB X XB Y YB Z ZB) := hin rfl
      clear hin
      have hk1 := HI.out.lKA
      have hk2 := HI.out.lKB
      have H0 : Hid (SegAt w1 a0 KA) := SegAt.below h0 hb1
      have H1 : Hid (SegAt w1 a1 KB) := SegAt.below h1 hb1
      go_upto_if 52 with fail
      go_cut [0, 17] (fun kv zv wc => ∃ a' cap', kv = .slice a' KA.length cap' ∧ Hid (SegAt wc a' KA) ∧ Below w1.heap.size w1 wc)
      case first =>
        cases a0 with
        | none =>
          obtain ⟨rfl, rfl⟩ := HnKA.out rfl
          go_wp2
          go_meet
          case rel => exact ⟨none, 0, rfl, .inl rfl, Below.refl _ _⟩
        | some x =>
          have HS : Hid (SegAt w1 (some x) KA) := H0.out
          go_upto_region 7 with (first
            | (at_make; refine wpList_make_full _ rfl _ _ 22 rfl w1.heap.size 5 i0 (.int .u8 0) 1 Try.underlying22 hi hz0 hz1 .i64 .i64 _ _ KA.length rfl rfl (by omega) (by omega) (by rw [hz2]; omega) (by unfold maxLen; omega) (Nat.le_refl _) ?_; intro w0 hown0 hgrow0))
          have hbz : Below w1.heap.size w1 w0 := (Below.refl _ _).grown hgrow0 (Nat.le_refl _) (fun k h => by cases h)
          obtain ⟨w9, hcp, HS9, hb9⟩ := copy_run hown0 (SegAt.below HS.out hbz) c0 hbz (Nat.le_refl _)
          clear hown0 hgrow0 hbz
          go_wp2
          go_meet
          case rel => exact ⟨_, _, rfl, HS9.out, hb9⟩
      case rest =>
        obtain ⟨p0, capp0, rfl, HSp0, hbp0⟩ := hcut

        generalize wc = wA at *
        have H1b : Hid (SegAt wA a1 KB) := SegAt.below H1.out hbp0
        have HBA : Hid (Below w.heap.size w wA) := hb1.trans (hbp0.mono hb1.size)
        clear hbp0
        go_upto_if 61 with fail
        go_cut [1, 18] (fun kv zv wc => ∃ a' cap', kv = .slice a' KB.length cap' ∧ Hid (SegAt wc a' KB) ∧ Below wA.heap.size wA wc)
        case first =>
          cases a1 with
          | none =>
            obtain ⟨rfl, rfl⟩ := HnKB.out rfl
            go_wp2
            go_meet
            case rel => exact ⟨none, 0, rfl, .inl rfl, Below.refl _ _⟩
          | some x =>
            have HS : Hid (SegAt wA (some x) KB) := H1b.out
            go_upto_region 11 with (first
              | (at_make; refine wpList_make_full _ rfl _ _ 22 rfl wA.heap.size 5 i0 (.int .u8 0) 1 Try.underlying22 hi hz0 hz1 .i64 .i64 _ _ KB.length rfl rfl (by omega) (by omega) (by rw [hz2]; omega) (by unfold maxLen; omega) (Nat.le_refl _) ?_; intro w0 hown0 hgrow0))
            have hbz : Below wA.heap.size wA w0 := (Below.refl _ _).grown hgrow0 (Nat.le_refl _) (fun k h => by cases h)
            obtain ⟨w9, hcp, HS9, hb9⟩ := copy_run hown0 (SegAt.below HS.out hbz) c1 hbz (Nat.le_refl _)
            clear hown0 hgrow0 hbz
            go_wp2
            go_meet
            case rel => exact ⟨_, _, rfl, HS9.out, hb9⟩
        case rest =>
          obtain ⟨p1, capp1, rfl, HSp1, hbp1⟩ := hcut
          generalize wc = wB at *
          have HBB : Below w.heap.size w wB := HBA.out.trans (hbp1.mono HBA.out.size)
          rename_i K hK
          refine hK _ _ ?_
          exact part0 KA KB X XB Y YB Z ZB p0 p1 a2 a3 a4 a5 a6 a7 capp0 capp1 c2 c3 c4 c5 c6 c7 _ w.heap.size w _ _ _ _ _ _ _ _ _ _ _ _ _ _ _ _ _ _ _ _ _ _ _ _ _ _ _ _ _ _ _ _ _ _ _ _ _ _ _ _ _ _ _ _ _ _ _ _ _ _ _ _ _ _ _ _ _ _ _ _ _ _ _ _ _ _ _ _ _ _ _ _ _ _ _ _ _ _ _ _ _ _ _ _ _ _ _ _ _ _ _ _ _ _ _ _ _ _ _ _ _ _ _ _ _ _ _ _ _ _ _ _ _ _ _ _ _ _ _ _ _ _ _ _ _ _ _ _ _ _ _ _ _ _ _ _ _ _ _ _ _ _ _ _ _ _ _ _ _ _ _ _ _ _ _ _ _ _ _ _ _ _ _ _ _ _ _ _ _ _ _ _ _ _ _ _ _ _ _ _ _ _ _ _ _ _ _ _ _ _ _ _ _ _ _ _ _ _ _ _ _ _ _ _ _ _ _ _ _ _ _ _ _ _ _ _ _ _ _ _ _ _ _ _ (SegAt.below HSp0.out hbp1) HSp1 (SegAt.below h2 HBB) (SegAt.below h3 HBB) (SegAt.below h4 HBB) (SegAt.below h5 HBB) (SegAt.below h6 HBB) (SegAt.below h7 HBB) bXB bYB bZB HI HBB HBB.size bKA bKB (by omega) (by omega)
end Go.Proofs.Qxb6003407a.Cmp
