import Derived.Test.Qxb6003407aP1
import Derived.Deep.DeepCutAuto
set_option linter.unusedVariables false
namespace Go.Proofs.Qxb6003407a.Cmp
open Go.ChangeShapes Go.WideShapes Go.ChangeAt Go.RowKit

set_option maxHeartbeats 8000000 in
set_option maxRecDepth 100000 in
theorem part0 (KA KB X XB Y YB Z ZB : List Nat) (p0 p1 a2 a3 a4 a5 a6 a7 : Option Addr) (q0 q1 c2 c3 c4 c5 c6 c7 : Nat) (w : World) (B : Nat) (w0 : World) (u8 u9 u10 u11 u12 u13 u14 u15 u17 u18 u19 u20 u21 u22 u23 u24 u25 u26 u27 u28 u29 u30 u31 u32 u33 u34 u35 u36 u37 u38 u39 u40 u41 u42 u43 u44 u45 u46 u47 u48 u49 u50 u51 u52 u53 u54 u55 u56 u57 u58 u59 u60 u61 u62 u63 u64 u65 u66 u67 u68 u69 u70 u71 u72 u73 u74 u75 u76 u77 u78 u79 u80 u81 u82 u83 u84 u85 u86 u87 u88 u89 u90 u91 u92 u93 u94 u95 u96 u97 u98 u99 u100 u101 u102 u103 u104 u105 u106 u107 u108 u109 u110 u111 u112 u113 u114 u115 u116 u117 u118 u119 u120 u121 u122 u123 u124 u125 u126 u127 u128 u129 u130 u131 u132 u133 u134 u135 u136 u137 u138 u139 u140 u141 u142 u143 u144 u145 u146 u147 u148 u149 u150 u151 u152 u153 u154 u155 u156 u157 u158 u159 u160 u161 u162 u163 u164 u165 u166 u167 u168 u169 u170 u171 u172 u173 u174 u175 u176 u177 u178 u179 u180 u181 u182 u183 u184 u185 u186 u187 u188 u189 u190 u191 u192 u193 u194 u195 u196 u197 u198 u199 u200 u201 u202 u203 u204 u205 u206 u207 u208 u209 u210 u211 u212 u213 u214 u215 u216 u217 u218 u219 u220 u221 u222 u223 u224 u225 u226 u227 u228 u229 u230 u231 u232 : Value)
    (s0 : Hid (SegAt w p0 KA)) (s1 : Hid (SegAt w p1 KB)) (s2 : Hid (SegAt w a2 X)) (s3 : Hid (SegAt w a3 XB)) (s4 : Hid (SegAt w a4 Y)) (s5 : Hid (SegAt w a5 YB)) (s6 : Hid (SegAt w a6 Z)) (s7 : Hid (SegAt w a7 ZB)) (bXB : Bytes XB) (bYB : Bytes YB) (bZB : Bytes ZB)
    (HI : Hid (Inside KA KB X XB Y YB Z ZB)) (HB0 : Hid (Below B w0 w)) (hBw : B ≤ w.heap.size) (bKA : Bytes KA) (bKB : Bytes KB) (lKA : KA.length ≤ 32768) (lKB : KB.length ≤ 32768) :
    Code.wp Try.prog (tailN 5 (Try.f4.body.getD .skip)) (bodyPost Try.prog Try.f4 (fun e w' => e = .returned (.bool true) ∧ Below B w0 w')) ⟨#[.slice p0 KA.length q0, .slice p1 KB.length q1, .slice a2 X.length c2, .slice a3 XB.length c3, .slice a4 Y.length c4, .slice a5 YB.length c5, .slice a6 Z.length c6, .slice a7 ZB.length c7, u8, u9, u10, u11, u12, u13, u14, u15, .bool false, u17, u18, u19, u20, u21, u22, u23, u24, u25, u26, u27, u28, u29, u30, u31, u32, u33, u34, u35, u36, u37, u38, u39, u40, u41, u42, u43, u44, u45, u46, u47, u48, u49, u50, u51, u52, u53, u54, u55, u56, u57, u58, u59, u60, u61, u62, u63, u64, u65, u66, u67, u68, u69, u70, u71, u72, u73, u74, u75, u76, u77, u78, u79, u80, u81, u82, u83, u84, u85, u86, u87, u88, u89, u90, u91, u92, u93, u94, u95, u96, u97, u98, u99, u100, u101, u102, u103, u104, u105, u106, u107, u108, u109, u110, u111, u112, u113, u114, u115, u116, u117, u118, u119, u120, u121, u122, u123, u124, u125, u126, u127, u128, u129, u130, u131, u132, u133, u134, u135, u136, u137, u138, u139, u140, u141, u142, u143, u144, u145, u146, u147, u148, u149, u150, u151, u152, u153, u154, u155, u156, u157, u158, u159, u160, u161, u162, u163, u164, u165, u166, u167, u168, u169, u170, u171, u172, u173, u174, u175, u176, u177, u178, u179, u180, u181, u182, u183, u184, u185, u186, u187, u188, u189, u190, u191, u192, u193, u194, u195, u196, u197, u198, u199, u200, u201, u202, u203, u204, u205, u206, u207, u208, u209, u210, u211, u212, u213, u214, u215, u216, u217, u218, u219, u220, u221, u222, u223, u224, u225, u226, u227, u228, u229, u230, u231, u232], []⟩ w := by
  conv => arg 2; whnf
  go_wp2_with fail
  refine (zzKeyPath p0 KA.length q0 _ (by omega)).mono ?_
  rintro e wC ⟨rfl, hbC⟩
  have HBC : Hid (Below w.heap.size w wC) := hbC
  clear hbC
  go_wp2_with fail
  refine (zzKeyPath p1 KB.length q1 _ (by omega)).mono ?_
  rintro e wD ⟨rfl, hbD⟩
  have HBD : Hid (Below w.heap.size w wD) := HBC.out.trans (hbD.mono HBC.out.size)
  have HA4 : Hid (SegAt wD p0 KA) := SegAt.below s0.out HBD.out
  have HB4 : Hid (SegAt wD p1 KB) := SegAt.below s1.out HBD.out
  clear hbD HBC
  go_wp2_with fail
  rename_i K2 k2 K1 k1 K0 k0
  have HK : Hid (∀ a w, Code.wp Try.prog (tailN 8 (Try.f4.body.getD .skip)) (bodyPost Try.prog Try.f4 (fun e w' => e = .returned (.bool true) ∧ Below B w0 w')) a w → K2 a w) := k2
  clear k2
  refine (zzCompareInt KA KB p0 p1 q0 q1 _ _ (2 * KA.length) (2 * KB.length) _ HA4.out HB4.out bKA bKB (by omega) (by omega) (by omega) (by omega) (by omega) (by omega)).mono ?_
  rintro e wE ⟨⟨r, rfl, hr⟩, hbE⟩
  have Hr : Hid (sgn r = cmpL (nibs KA (2 * KA.length)) (nibs KB (2 * KB.length))) := hr
  have HA5 : Hid (SegAt wE p0 KA) := SegAt.below HA4.out hbE
  have HB5 : Hid (SegAt wE p1 KB) := SegAt.below HB4.out hbE
  have HBE : Hid (Below w.heap.size w wE) := HBD.out.trans (hbE.mono HBD.out.size)
  clear hbE hr HA4 HB4 HBD
  go_wp2_with fail
  refine (sign r _).mono ?_
  rintro e wX ⟨rfl, rfl⟩
  go_wp2_with fail
  refine (cmp25 KA KB p0 p1 q0 q1 _ HA5.out HB5.out (by omega) (by omega)).mono ?_
  rintro e wX ⟨rfl, nE, rfl⟩
  go_wp2_with fail
  refine (sign (cmpL KA KB) _).mono ?_
  rintro e wX ⟨rfl, rfl⟩
  have hs0 : sgn r = sgn (cmpL KA KB) := by
    rw [Hr.out, nibs_key, nibs_key, cmp_key]
    exact (sgn_of (cmpL_range KA KB) (x := r) (by rw [Hr.out, nibs_key, nibs_key, cmp_key])).symm
  rw [hs0]
  clear hs0
  go_wp2_with fail
  have HF : Below w.heap.size w (wE.drewN nE) := HBE.out.trans (bd _ _ _)
  refine HK.out _ _ ?_
  exact part1 KA KB X XB Y YB Z ZB p0 p1 a2 a3 a4 a5 a6 a7 q0 q1 c2 c3 c4 c5 c6 c7 _ B w0 _ _ _ _ _ _ _ _ _ _ _ _ _ _ _ _ _ _ _ _ _ _ _ _ _ _ _ _ _ _ _ _ _ _ _ _ _ _ _ _ _ _ _ _ _ _ _ _ _ _ _ _ _ _ _ _ _ _ _ _ _ _ _ _ _ _ _ _ _ _ _ _ _ _ _ _ _ _ _ _ _ _ _ _ _ _ _ _ _ _ _ _ _ _ _ _ _ _ _ _ _ _ _ _ _ _ _ _ _ _ _ _ _ _ _ _ _ _ _ _ _ _ _ _ _ _ _ _ _ _ _ _ _ _ _ _ _ _ _ _ _ _ _ _ _ _ _ _ _ _ _ _ _ _ _ _ _ _ _ _ _ _ _ _ _ _ _ _ _ _ _ _ _ _ _ _ _ _ _ _ _ _ _ _ _ _ _ _ _ _ _ _ _ _ _ _ _ _ _ _ _ _ _ _ _ _ _ _ _ _ _ _ _ _ _ _ _ _ _ _ (SegAt.below s0.out HF) (SegAt.below s1.out HF) (SegAt.below s2.out HF) (SegAt.below s3.out HF) (SegAt.below s4.out HF) (SegAt.below s5.out HF) (SegAt.below s6.out HF) (SegAt.below s7.out HF) bXB bYB bZB HI (HB0.out.trans (HF.mono hBw)) (Nat.le_trans hBw HF.size) bKA bKB lKA lKB
end Go.Proofs.Qxb6003407a.Cmp
