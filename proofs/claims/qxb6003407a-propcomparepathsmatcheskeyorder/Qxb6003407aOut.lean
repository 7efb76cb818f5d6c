import Derived.Test.Qxb6003407aNibs
set_option linter.unusedVariables false
namespace Go.Proofs.Qxb6003407a.Cmp
open Go.ChangeShapes Go.WideShapes Go.ChangeAt Go.RowKit

/-- some bool -/
def AnyBool (e : Ending) : Prop := ∃ c : Bool, e = .returned (.bool c)

set_option maxHeartbeats 2000000 in
set_option maxRecDepth 100000 in
theorem bytes21 (a0 a1 a2 a3 a4 a5 a6 a7 : Option Addr) (n0 n1 n2 n3 n4 n5 n6 n7 c0 c1 c2 c3 c4 c5 c6 c7 : Nat) (w : World) :
    Calls Try.prog 21 #[.slice a0 n0 c0, .slice a1 n1 c1, .slice a2 n2 c2, .slice a3 n3 c3, .slice a4 n4 c4, .slice a5 n5 c5, .slice a6 n6 c6, .slice a7 n7 c7] w fun e w' => AnyBool e ∧ w = w' := by
  go_enter Try.func21, Try.ntmps21
  go_wp2
  all_goals
    go_ret
    exact ⟨⟨_, rfl⟩, rfl⟩

/-- what the law asks of its arguments -/
structure Inside (KA KB X XB Y YB Z ZB : List Nat) : Prop where
  lKA : KA.length ≤ 32768
  lKB : KB.length ≤ 32768
  lX : X.length ≤ 65536
  lY : Y.length ≤ 65536
  lZ : Z.length ≤ 65536
  lXB : XB.length ≤ 1048576
  lYB : YB.length ≤ 1048576
  lZB : ZB.length ≤ 1048576
  rX : (X.length + 1) / 2 ≤ XB.length ∧ X = nibs XB X.length
  rY : (Y.length + 1) / 2 ≤ YB.length ∧ Y = nibs YB Y.length
  rZ : (Z.length + 1) / 2 ≤ ZB.length ∧ Z = nibs ZB Z.length

/-- what c2OutsideCompare answers -/
def OutSays (KA KB X XB Y YB Z ZB : List Nat) (e : Ending) : Prop := ∃ c : Bool, e = .returned (.bool c) ∧ (c = false → Inside KA KB X XB Y YB Z ZB)
theorem out_yes (KA KB X XB Y YB Z ZB : List Nat) : OutSays KA KB X XB Y YB Z ZB (.returned (.bool true)) := ⟨true, rfl, fun h => by cases h⟩

set_option maxHeartbeats 4000000 in
set_option maxRecDepth 100000 in
theorem outside (KA KB X XB Y YB Z ZB : List Nat) (a0 a1 a2 a3 a4 a5 a6 a7 : Option Addr) (c0 c1 c2 c3 c4 c5 c6 c7 : Nat) (w : World) (h2 : SegAt w a2 X) (h3 : SegAt w a3 XB) (h4 : SegAt w a4 Y) (h5 : SegAt w a5 YB) (h6 : SegAt w a6 Z) (h7 : SegAt w a7 ZB) (bXB : Bytes XB) (bYB : Bytes YB) (bZB : Bytes ZB) :
    Calls Try.prog 22 #[.slice a0 KA.length c0, .slice a1 KB.length c1, .slice a2 X.length c2, .slice a3 XB.length c3, .slice a4 Y.length c4, .slice a5 YB.length c5, .slice a6 Z.length c6, .slice a7 ZB.length c7] w fun e w' => OutSays KA KB X XB Y YB Z ZB e ∧ Below w.heap.size w w' := by
  by_cases gKA : (32768 : Int) < KA.length
  · go_enter Try.func22, Try.ntmps22
    go_wp2
    go_ret
    exact ⟨out_yes _ _ _ _ _ _ _ _, Below.refl _ _⟩
  · by_cases gKB : (32768 : Int) < KB.length
    · go_enter Try.func22, Try.ntmps22
      go_wp2
      go_ret
      exact ⟨out_yes _ _ _ _ _ _ _ _, Below.refl _ _⟩
    · by_cases gX : (65536 : Int) < X.length
      · go_enter Try.func22, Try.ntmps22
        go_wp2
        go_ret
        exact ⟨out_yes _ _ _ _ _ _ _ _, Below.refl _ _⟩
      · by_cases gY : (65536 : Int) < Y.length
        · go_enter Try.func22, Try.ntmps22
          go_wp2
          go_ret
          exact ⟨out_yes _ _ _ _ _ _ _ _, Below.refl _ _⟩
        · by_cases gZ : (65536 : Int) < Z.length
          · go_enter Try.func22, Try.ntmps22
            go_wp2
            go_ret
            exact ⟨out_yes _ _ _ _ _ _ _ _, Below.refl _ _⟩
          · by_cases gXB : (1048576 : Int) < XB.length
            · go_enter Try.func22, Try.ntmps22
              go_wp2
              go_ret
              exact ⟨out_yes _ _ _ _ _ _ _ _, Below.refl _ _⟩
            · by_cases gYB : (1048576 : Int) < YB.length
              · go_enter Try.func22, Try.ntmps22
                go_wp2
                go_ret
                exact ⟨out_yes _ _ _ _ _ _ _ _, Below.refl _ _⟩
              · by_cases gZB : (1048576 : Int) < ZB.length
                · go_enter Try.func22, Try.ntmps22
                  go_wp2
                  go_ret
                  exact ⟨out_yes _ _ _ _ _ _ _ _, Below.refl _ _⟩
                · go_enter Try.func22, Try.ntmps22
                  go_wp2_with fail
                  refine (reprOK X XB a2 a3 c2 c3 _ h2 h3 bXB (by omega) (by omega)).mono ?_
                  rintro e w1 ⟨⟨x, rfl, hx⟩, hb1⟩
                  cases x with
                  | false =>
                    clear hx
                    go_wp2
                    go_ret
                    exact ⟨out_yes _ _ _ _ _ _ _ _, hb1⟩
                  | true =>
                    have HX : Hid _ := hx rfl
                    clear hx
                    have H4 : Hid (SegAt w1 a4 Y) := SegAt.below h4 hb1
                    have H5 : Hid (SegAt w1 a5 YB) := SegAt.below h5 hb1
                    have H6 : Hid (SegAt w1 a6 Z) := SegAt.below h6 hb1
                    have H7 : Hid (SegAt w1 a7 ZB) := SegAt.below h7 hb1
                    go_wp2_with fail
                    refine (reprOK Y YB a4 a5 c4 c5 _ H4.out H5.out bYB (by omega) (by omega)).mono ?_
                    rintro e w2 ⟨⟨y, rfl, hy⟩, hb2⟩
                    have HB2 : Hid (Below w.heap.size w w2) := hb1.trans (hb2.mono hb1.size)
                    cases y with
                    | false =>
                      clear hy hb1 hb2
                      go_wp2
                      go_ret
                      exact ⟨out_yes _ _ _ _ _ _ _ _, HB2.out⟩
                    | true =>
                      have HY : Hid _ := hy rfl
                      clear hy
                      have G6 : Hid (SegAt w2 a6 Z) := SegAt.below H6.out hb2
                      have G7 : Hid (SegAt w2 a7 ZB) := SegAt.below H7.out hb2
                      clear hb1 hb2
                      go_wp2_with fail
                      refine (reprOK Z ZB a6 a7 c6 c7 _ G6.out G7.out bZB (by omega) (by omega)).mono ?_
                      rintro e w3 ⟨⟨z, rfl, hz⟩, hb3⟩
                      have HB3 : Hid (Below w.heap.size w w3) := HB2.out.trans (hb3.mono HB2.out.size)
                      clear hb3
                      cases z with
                      | false =>
                        clear hz
                        go_wp2
                        go_ret
                        exact ⟨out_yes _ _ _ _ _ _ _ _, HB3.out⟩
                      | true =>
                        have HZ : Hid _ := hz rfl
                        clear hz
                        go_wp2
                        go_ret
                        exact ⟨⟨false, rfl, fun _ => ⟨by omega, by omega, by omega, by omega, by omega, by omega, by omega, by omega, HX.out, HY.out, HZ.out⟩⟩, HB3.out⟩
end Go.Proofs.Qxb6003407a.Cmp
