import Derived.Test.Qxb6003407aP2
import Derived.Test.Qxb6003407aP3
import Derived.Deep.DeepCutAuto
set_option linter.unusedVariables false
namespace Go.Proofs.Qxb6003407a.Cmp
open Go.ChangeShapes Go.WideShapes Go.ChangeAt Go.RowKit

def tv (x0 x1 x2 x3 x4 : Value) : Nat → Value
  | 0 => x0
  | 1 => x1
  | 2 => x2
  | 3 => x3
  | _ => x4
def ti (x0 x1 x2 x3 x4 : Int) : Nat → Int
  | 0 => x0
  | 1 => x1
  | 2 => x2
  | 3 => x3
  | _ => x4
def tl (x0 x1 x2 x3 x4 : List Nat) : Nat → List Nat
  | 0 => x0
  | 1 => x1
  | 2 => x2
  | 3 => x3
  | _ => x4
theorem five {p : Nat → Prop} (h0 : p 0) (h1 : p 1) (h2 : p 2) (h3 : p 3) (h4 : p 4) : ∀ i, i < 5 → p i
  | 0, _ => h0
  | 1, _ => h1
  | 2, _ => h2
  | 3, _ => h3
  | 4, _ => h4
  | n + 5, h => absurd h (by omega)

theorem zeros25 : ∀ j, j < 25 → (#[Value.int .i64 0, .int .i64 0, .int .i64 0, .int .i64 0, .int .i64 0, .int .i64 0, .int .i64 0, .int .i64 0, .int .i64 0, .int .i64 0, .int .i64 0, .int .i64 0, .int .i64 0, .int .i64 0, .int .i64 0, .int .i64 0, .int .i64 0, .int .i64 0, .int .i64 0, .int .i64 0, .int .i64 0, .int .i64 0, .int .i64 0, .int .i64 0, .int .i64 0])[j]? = some (.int .i64 0) := by
  intro j hj
  have e : (#[Value.int .i64 0, .int .i64 0, .int .i64 0, .int .i64 0, .int .i64 0, .int .i64 0, .int .i64 0, .int .i64 0, .int .i64 0, .int .i64 0, .int .i64 0, .int .i64 0, .int .i64 0, .int .i64 0, .int .i64 0, .int .i64 0, .int .i64 0, .int .i64 0, .int .i64 0, .int .i64 0, .int .i64 0, .int .i64 0, .int .i64 0, .int .i64 0, .int .i64 0]) = Array.replicate 25 (Value.int .i64 0) := by rfl
  rw [e, Array.getElem?_replicate, if_pos hj]

theorem tab_mk {D : World} {P : Nat} {vb : Nat → Value} {vn : Nat → Int} {vs : Nat → Value} (hb : ∀ i, i < 5 → D.cell? ⟨P, i, none⟩ = some (vb i)) (hn : ∀ i, i < 5 → D.cell? ⟨P + 1, i, none⟩ = some (.int .i64 (vn i)))
    (hs : ∀ i, i < 5 → D.cell? ⟨P + 1 + 1, i, none⟩ = some (vs i)) {C : Nat} (hC : C = D.heap.size) (hP : P + 1 + 1 < C) : Tab (D.alloc (.cells #[.int .i64 0, .int .i64 0, .int .i64 0, .int .i64 0, .int .i64 0, .int .i64 0, .int .i64 0, .int .i64 0, .int .i64 0, .int .i64 0, .int .i64 0, .int .i64 0, .int .i64 0, .int .i64 0, .int .i64 0, .int .i64 0, .int .i64 0, .int .i64 0, .int .i64 0, .int .i64 0, .int .i64 0, .int .i64 0, .int .i64 0, .int .i64 0, .int .i64 0] 42)) P C vb vn vs := by
  subst hC
  have old : ∀ b o, b < D.heap.size → (D.alloc (.cells #[.int .i64 0, .int .i64 0, .int .i64 0, .int .i64 0, .int .i64 0, .int .i64 0, .int .i64 0, .int .i64 0, .int .i64 0, .int .i64 0, .int .i64 0, .int .i64 0, .int .i64 0, .int .i64 0, .int .i64 0, .int .i64 0, .int .i64 0, .int .i64 0, .int .i64 0, .int .i64 0, .int .i64 0, .int .i64 0, .int .i64 0, .int .i64 0, .int .i64 0] 42)).cell? ⟨b, o, none⟩ = D.cell? ⟨b, o, none⟩ := fun b o h => World.cell?_alloc_past _ _ _ (by exact h)
  refine ⟨fun i hi => (old _ _ (by omega)).trans (hb i hi), fun i hi => (old _ _ (by omega)).trans (hn i hi), fun i hi => (old _ _ (by omega)).trans (hs i hi), fun j hj => ⟨0, ?_⟩, fun j hj => ?_, hP, by simp⟩
  · rw [World.cell?_alloc_new]; exact zeros25 j hj
  · simp

theorem row_mk {D : World} {a : Option Addr} {Z : List Nat} {c n : Nat} {vn : Int} {a' : Option Addr} {N : List Nat} {c' : Nat} (sb : SegAt D a Z) (by_ : Bytes Z) (lb : Z.length ≤ 1048576) (en : vn = (n : Int)) (nb : (n + 1) / 2 ≤ Z.length) (eN : N = nibs Z n) (ss : SegAt D a' N) (ls : N.length ≤ 1048576) :
    ∃ a0 Z0 c0 n0 a0' c0', Row D (.slice a Z.length c) vn (.slice a' N.length c') N a0 Z0 c0 n0 a0' c0' :=
  ⟨a, Z, c, n, a', c', rfl, sb, by_, lb, en, nb, eN, rfl, ss, ls⟩

/-- a store into another block -/
theorem SegAt.set {w : World} {a : Option Addr} {Z : List Nat} {b off : Nat} (h : SegAt w a Z) (ha : a = some ⟨b, off, none⟩) {p : Nat} (hp : p ≠ b) (o : Nat) (v : Value) : SegAt (w.setCell ⟨p, o, none⟩ v) a Z := by
  rcases h with h | ⟨b', off', h1, h2, h3⟩
  · exact .inl h
  · rw [h1] at ha
    cases ha
    refine .inr ⟨b, off, h1, by simpa [World.setCell] using h2, fun i hi => ?_⟩
    rw [World.cell?_setCell_other _ _ _ _ (fun e => hp (by cases e; rfl))]
    exact h3 i hi

set_option maxHeartbeats 8000000 in
set_option maxRecDepth 100000 in
theorem part1 (KA KB X XB Y YB Z ZB : List Nat) (p0 p1 a2 a3 a4 a5 a6 a7 : Option Addr) (q0 q1 c2 c3 c4 c5 c6 c7 : Nat) (w : World) (B : Nat) (w0 : World) (u8 u9 u10 u11 u12 u13 u14 u15 u17 u18 u23 u24 u25 u26 u27 u28 u29 u30 u31 u32 u33 u34 u35 u36 u37 u38 u39 u40 u41 u42 u43 u44 u45 u46 u47 u48 u49 u50 u51 u52 u53 u54 u55 u56 u57 u58 u59 u60 u61 u62 u63 u64 u65 u66 u67 u68 u69 u70 u71 u72 u73 u74 u75 u76 u77 u78 u79 u80 u81 u82 u83 u84 u85 u86 u87 u88 u89 u90 u91 u92 u93 u94 u95 u96 u97 u98 u99 u100 u101 u102 u103 u104 u105 u106 u107 u108 u109 u110 u111 u112 u113 u114 u115 u116 u117 u118 u119 u120 u121 u122 u123 u124 u125 u126 u127 u128 u129 u130 u131 u132 u133 u134 u135 u136 u137 u138 u139 u140 u141 u142 u143 u144 u145 u146 u147 u148 u149 u150 u151 u152 u153 u154 u155 u156 u157 u158 u159 u160 u161 u162 u163 u164 u165 u166 u167 u168 u169 u170 u171 u172 u173 u174 u175 u176 u177 u178 u179 u180 u181 u182 u183 u184 u185 u186 u187 u188 u189 u190 u191 u192 u193 u194 u195 u196 u197 u198 u199 u200 u201 u202 u203 u204 u205 u206 u207 u208 u209 u210 u211 u212 u213 u214 u215 u216 u217 u218 u219 u220 u221 u222 u223 u224 u225 u226 u227 u228 u229 u230 u231 u232 : Value)
    (s0 : Hid (SegAt w p0 KA)) (s1 : Hid (SegAt w p1 KB)) (s2 : Hid (SegAt w a2 X)) (s3 : Hid (SegAt w a3 XB)) (s4 : Hid (SegAt w a4 Y)) (s5 : Hid (SegAt w a5 YB)) (s6 : Hid (SegAt w a6 Z)) (s7 : Hid (SegAt w a7 ZB)) (bXB : Bytes XB) (bYB : Bytes YB) (bZB : Bytes ZB)
    (HI : Hid (Inside KA KB X XB Y YB Z ZB)) (HB0 : Hid (Below B w0 w)) (hBw : B ≤ w.heap.size) (bKA : Bytes KA) (bKB : Bytes KB) (lKA : KA.length ≤ 32768) (lKB : KB.length ≤ 32768) :
    Code.wp Try.prog (tailN 8 (Try.f4.body.getD .skip)) (bodyPost Try.prog Try.f4 (fun e w' => e = .returned (.bool true) ∧ Below B w0 w')) ⟨#[.slice p0 KA.length q0, .slice p1 KB.length q1, .slice a2 X.length c2, .slice a3 XB.length c3, .slice a4 Y.length c4, .slice a5 YB.length c5, .slice a6 Z.length c6, .slice a7 ZB.length c7, u8, u9, u10, u11, u12, u13, u14, u15, .bool false, u17, u18, .slice p0 KA.length q0, .int .i64 (2 * (KA.length : Int)), .slice p1 KB.length q1, .int .i64 (2 * (KB.length : Int)), u23, u24, u25, u26, u27, u28, u29, u30, u31, u32, u33, u34, u35, u36, u37, u38, u39, u40, u41, u42, u43, u44, u45, u46, u47, u48, u49, u50, u51, u52, u53, u54, u55, u56, u57, u58, u59, u60, u61, u62, u63, u64, u65, u66, u67, u68, u69, u70, u71, u72, u73, u74, u75, u76, u77, u78, u79, u80, u81, u82, u83, u84, u85, u86, u87, u88, u89, u90, u91, u92, u93, u94, u95, u96, u97, u98, u99, u100, u101, u102, u103, u104, u105, u106, u107, u108, u109, u110, u111, u112, u113, u114, u115, u116, u117, u118, u119, u120, u121, u122, u123, u124, u125, u126, u127, u128, u129, u130, u131, u132, u133, u134, u135, u136, u137, u138, u139, u140, u141, u142, u143, u144, u145, u146, u147, u148, u149, u150, u151, u152, u153, u154, u155, u156, u157, u158, u159, u160, u161, u162, u163, u164, u165, u166, u167, u168, u169, u170, u171, u172, u173, u174, u175, u176, u177, u178, u179, u180, u181, u182, u183, u184, u185, u186, u187, u188, u189, u190, u191, u192, u193, u194, u195, u196, u197, u198, u199, u200, u201, u202, u203, u204, u205, u206, u207, u208, u209, u210, u211, u212, u213, u214, u215, u216, u217, u218, u219, u220, u221, u222, u223, u224, u225, u226, u227, u228, u229, u230, u231, u232], []⟩ w := by
  conv => arg 2; whnf
  go_wp2_with fail
  refine (keyNibs KA p0 q0 _ (SegAt.below s0.out (by repeat (first | exact Below.refl _ _ | refine Below.trans ?_ (bd _ _ _) | refine Below.alloc ?_ (by first | omega | (simp; done) | (simp; omega)) _))) bKA (by omega)).mono ?_
  rintro e w1 ⟨m0, rfl, hs1, hb1⟩
  have en : (((w.alloc (.cells #[.slice a3 XB.length c3, .slice a5 YB.length c5, .slice a7 ZB.length c7, .slice p0 KA.length q0, .slice none 0 0] 40)).alloc (.cells #[.int .i64 X.length, .int .i64 Y.length, .int .i64 Z.length, .int .i64 (2 * (KA.length : Int)), .int .i64 0] 41)).alloc (.cells #[.slice a2 X.length c2, .slice a4 Y.length c4, .slice a6 Z.length c6, .slice none 0 0, .slice none 0 0] 40)).heap.size = w.heap.size + 1 + 1 + 1 := by simp
  rw [en] at hs1
  rw [en]
  obtain ⟨n0, hn0⟩ : ∃ n0 : Option Addr, n0 = some ⟨w.heap.size + 1 + 1 + 1, 0, none⟩ := ⟨_, rfl⟩
  rw [← hn0] at hs1
  rw [← hn0]
  have N0 : Hid (n0 = some ⟨w.heap.size + 1 + 1 + 1, 0, none⟩) := hn0
  have S1 : Hid (SegAt w1 n0 (keyN KA)) := hs1
  have eb0 : w1.cell? ⟨w.heap.size, 0, none⟩ = some (.slice a3 XB.length c3) := (hb1.cell (by first | (simp; done) | (simp; omega))).trans (by go_simp)
  have en0 : w1.cell? ⟨w.heap.size + 1, 0, none⟩ = some (.int .i64 (X.length : Int)) := (hb1.cell (by first | (simp; done) | (simp; omega))).trans (by go_simp)
  have es0 : w1.cell? ⟨w.heap.size + 1 + 1, 0, none⟩ = some (.slice a2 X.length c2) := (hb1.cell (by first | (simp; done) | (simp; omega))).trans (by go_simp)
  have eb1 : w1.cell? ⟨w.heap.size, 1, none⟩ = some (.slice a5 YB.length c5) := (hb1.cell (by first | (simp; done) | (simp; omega))).trans (by go_simp)
  have en1 : w1.cell? ⟨w.heap.size + 1, 1, none⟩ = some (.int .i64 (Y.length : Int)) := (hb1.cell (by first | (simp; done) | (simp; omega))).trans (by go_simp)
  have es1 : w1.cell? ⟨w.heap.size + 1 + 1, 1, none⟩ = some (.slice a4 Y.length c4) := (hb1.cell (by first | (simp; done) | (simp; omega))).trans (by go_simp)
  have eb2 : w1.cell? ⟨w.heap.size, 2, none⟩ = some (.slice a7 ZB.length c7) := (hb1.cell (by first | (simp; done) | (simp; omega))).trans (by go_simp)
  have en2 : w1.cell? ⟨w.heap.size + 1, 2, none⟩ = some (.int .i64 (Z.length : Int)) := (hb1.cell (by first | (simp; done) | (simp; omega))).trans (by go_simp)
  have es2 : w1.cell? ⟨w.heap.size + 1 + 1, 2, none⟩ = some (.slice a6 Z.length c6) := (hb1.cell (by first | (simp; done) | (simp; omega))).trans (by go_simp)
  have eb3 : w1.cell? ⟨w.heap.size, 3, none⟩ = some (.slice p0 KA.length q0) := (hb1.cell (by first | (simp; done) | (simp; omega))).trans (by go_simp)
  have en3 : w1.cell? ⟨w.heap.size + 1, 3, none⟩ = some (.int .i64 (2 * (KA.length : Int))) := (hb1.cell (by first | (simp; done) | (simp; omega))).trans (by go_simp)
  have es3 : w1.cell? ⟨w.heap.size + 1 + 1, 3, none⟩ = some (.slice none 0 0) := (hb1.cell (by first | (simp; done) | (simp; omega))).trans (by go_simp)
  have eb4 : w1.cell? ⟨w.heap.size, 4, none⟩ = some (.slice none 0 0) := (hb1.cell (by first | (simp; done) | (simp; omega))).trans (by go_simp)
  have en4 : w1.cell? ⟨w.heap.size + 1, 4, none⟩ = some (.int .i64 0) := (hb1.cell (by first | (simp; done) | (simp; omega))).trans (by go_simp)
  have es4 : w1.cell? ⟨w.heap.size + 1 + 1, 4, none⟩ = some (.slice none 0 0) := (hb1.cell (by first | (simp; done) | (simp; omega))).trans (by go_simp)
  have f0 : w1.frozen? ⟨w.heap.size, 4, none⟩ = false := (hb1.frozen (by first | (simp; done) | (simp; omega))).trans (by go_simp)
  have f1 : w1.frozen? ⟨w.heap.size + 1, 4, none⟩ = false := (hb1.frozen (by first | (simp; done) | (simp; omega))).trans (by go_simp)
  have f2 : w1.frozen? ⟨w.heap.size + 1 + 1, 3, none⟩ = false := (hb1.frozen (by first | (simp; done) | (simp; omega))).trans (by go_simp)
  have f3 : w1.frozen? ⟨w.heap.size + 1 + 1, 4, none⟩ = false := (hb1.frozen (by first | (simp; done) | (simp; omega))).trans (by go_simp)
  have HW1 : Hid (Below w.heap.size w w1) := Below.trans (by repeat (first | exact Below.refl _ _ | refine Below.trans ?_ (bd _ _ _) | refine Below.alloc ?_ (by first | omega | (simp; done) | (simp; omega)) _)) (hb1.mono (by first | (simp; done) | (simp; omega)))
  have hz1 : w.heap.size + 1 + 1 + 1 ≤ w1.heap.size := by have := hb1.size; simp at this; omega
  clear hb1 hs1 hn0 en
  have HX1 : Hid (Below w.heap.size w (((w1.setCell ⟨w.heap.size + 1 + 1, 3, none⟩ (.slice n0 (keyN KA).length m0)).setCell ⟨w.heap.size, 4, none⟩ (.slice p1 KB.length q1)).setCell ⟨w.heap.size + 1, 4, none⟩ (.int .i64 (2 * (KB.length : Int))))) := Below.setCell (Below.setCell (Below.setCell HW1.out (by first | (simp; done) | (simp; omega)) _) (by first | (simp; done) | (simp; omega)) _) (by first | (simp; done) | (simp; omega)) _
  have SX1 : Hid (SegAt (((w1.setCell ⟨w.heap.size + 1 + 1, 3, none⟩ (.slice n0 (keyN KA).length m0)).setCell ⟨w.heap.size, 4, none⟩ (.slice p1 KB.length q1)).setCell ⟨w.heap.size + 1, 4, none⟩ (.int .i64 (2 * (KB.length : Int)))) n0 (keyN KA)) := ((S1.out.set N0.out (by first | (simp; done) | (simp; omega)) _ _).set N0.out (by first | (simp; done) | (simp; omega)) _ _).set N0.out (by first | (simp; done) | (simp; omega)) _ _
  have hzx : (((w1.setCell ⟨w.heap.size + 1 + 1, 3, none⟩ (.slice n0 (keyN KA).length m0)).setCell ⟨w.heap.size, 4, none⟩ (.slice p1 KB.length q1)).setCell ⟨w.heap.size + 1, 4, none⟩ (.int .i64 (2 * (KB.length : Int)))).heap.size = w1.heap.size := by simp [World.setCell]
  go_wp2_with fail
  refine (keyNibs KB p1 q1 _ (SegAt.below s1.out HX1.out) bKB (by omega)).mono ?_
  rintro e w2 ⟨m1, rfl, hs2, hb2⟩
  rw [hzx] at hs2
  rw [hzx]
  obtain ⟨n1, hn1⟩ : ∃ n1 : Option Addr, n1 = some ⟨w1.heap.size, 0, none⟩ := ⟨_, rfl⟩
  rw [← hn1] at hs2
  rw [← hn1]
  have N1 : Hid (n1 = some ⟨w1.heap.size, 0, none⟩) := hn1
  have S2 : Hid (SegAt w2 n1 (keyN KB)) := hs2
  have S2a : Hid (SegAt w2 n0 (keyN KA)) := SegAt.below SX1.out hb2
  have gb0 : w2.cell? ⟨w.heap.size, 0, none⟩ = some (.slice a3 XB.length c3) := (hb2.cell (by first | (simp; done) | (simp; omega))).trans (by go_simp)
  have gn0 : w2.cell? ⟨w.heap.size + 1, 0, none⟩ = some (.int .i64 (X.length : Int)) := (hb2.cell (by first | (simp; done) | (simp; omega))).trans (by go_simp)
  have gs0 : w2.cell? ⟨w.heap.size + 1 + 1, 0, none⟩ = some (.slice a2 X.length c2) := (hb2.cell (by first | (simp; done) | (simp; omega))).trans (by go_simp)
  have gb1 : w2.cell? ⟨w.heap.size, 1, none⟩ = some (.slice a5 YB.length c5) := (hb2.cell (by first | (simp; done) | (simp; omega))).trans (by go_simp)
  have gn1 : w2.cell? ⟨w.heap.size + 1, 1, none⟩ = some (.int .i64 (Y.length : Int)) := (hb2.cell (by first | (simp; done) | (simp; omega))).trans (by go_simp)
  have gs1 : w2.cell? ⟨w.heap.size + 1 + 1, 1, none⟩ = some (.slice a4 Y.length c4) := (hb2.cell (by first | (simp; done) | (simp; omega))).trans (by go_simp)
  have gb2 : w2.cell? ⟨w.heap.size, 2, none⟩ = some (.slice a7 ZB.length c7) := (hb2.cell (by first | (simp; done) | (simp; omega))).trans (by go_simp)
  have gn2 : w2.cell? ⟨w.heap.size + 1, 2, none⟩ = some (.int .i64 (Z.length : Int)) := (hb2.cell (by first | (simp; done) | (simp; omega))).trans (by go_simp)
  have gs2 : w2.cell? ⟨w.heap.size + 1 + 1, 2, none⟩ = some (.slice a6 Z.length c6) := (hb2.cell (by first | (simp; done) | (simp; omega))).trans (by go_simp)
  have gb3 : w2.cell? ⟨w.heap.size, 3, none⟩ = some (.slice p0 KA.length q0) := (hb2.cell (by first | (simp; done) | (simp; omega))).trans (by go_simp)
  have gn3 : w2.cell? ⟨w.heap.size + 1, 3, none⟩ = some (.int .i64 (2 * (KA.length : Int))) := (hb2.cell (by first | (simp; done) | (simp; omega))).trans (by go_simp)
  have gs3 : w2.cell? ⟨w.heap.size + 1 + 1, 3, none⟩ = some (.slice n0 (keyN KA).length m0) := (hb2.cell (by first | (simp; done) | (simp; omega))).trans (by go_simp)
  have gb4 : w2.cell? ⟨w.heap.size, 4, none⟩ = some (.slice p1 KB.length q1) := (hb2.cell (by first | (simp; done) | (simp; omega))).trans (by go_simp)
  have gn4 : w2.cell? ⟨w.heap.size + 1, 4, none⟩ = some (.int .i64 (2 * (KB.length : Int))) := (hb2.cell (by first | (simp; done) | (simp; omega))).trans (by go_simp)
  have gs4 : w2.cell? ⟨w.heap.size + 1 + 1, 4, none⟩ = some (.slice none 0 0) := (hb2.cell (by first | (simp; done) | (simp; omega))).trans (by go_simp)
  have h3 : w2.frozen? ⟨w.heap.size + 1 + 1, 4, none⟩ = false := (hb2.frozen (by first | (simp; done) | (simp; omega))).trans (by go_simp)
  have HW2 : Hid (Below w.heap.size w w2) := HX1.out.trans (hb2.mono (by first | (rw [hzx]; omega) | (simp; omega)))
  have hz2 : w1.heap.size ≤ w2.heap.size := by have := hb2.size; rw [hzx] at this; exact this
  clear hb2 hs2 hn1 hzx SX1 HX1
  clear eb0 en0 es0 eb1 en1 es1 eb2 en2 es2 eb3 en3 es3 eb4 en4 es4 f0 f1 f2 f3
  have hzD : (w2.setCell ⟨w.heap.size + 1 + 1, 4, none⟩ (.slice n1 (keyN KB).length m1)).heap.size = w2.heap.size := by simp [World.setCell]
  have HWD : Below w.heap.size w (w2.setCell ⟨w.heap.size + 1 + 1, 4, none⟩ (.slice n1 (keyN KB).length m1)) := Below.setCell HW2.out (by first | (simp; done) | (simp; omega)) _
  have db0 : (w2.setCell ⟨w.heap.size + 1 + 1, 4, none⟩ (.slice n1 (keyN KB).length m1)).cell? ⟨w.heap.size, 0, none⟩ = some (.slice a3 XB.length c3) := by go_simp
  have dn0 : (w2.setCell ⟨w.heap.size + 1 + 1, 4, none⟩ (.slice n1 (keyN KB).length m1)).cell? ⟨w.heap.size + 1, 0, none⟩ = some (.int .i64 (X.length : Int)) := by go_simp
  have ds0 : (w2.setCell ⟨w.heap.size + 1 + 1, 4, none⟩ (.slice n1 (keyN KB).length m1)).cell? ⟨w.heap.size + 1 + 1, 0, none⟩ = some (.slice a2 X.length c2) := by go_simp
  have db1 : (w2.setCell ⟨w.heap.size + 1 + 1, 4, none⟩ (.slice n1 (keyN KB).length m1)).cell? ⟨w.heap.size, 1, none⟩ = some (.slice a5 YB.length c5) := by go_simp
  have dn1 : (w2.setCell ⟨w.heap.size + 1 + 1, 4, none⟩ (.slice n1 (keyN KB).length m1)).cell? ⟨w.heap.size + 1, 1, none⟩ = some (.int .i64 (Y.length : Int)) := by go_simp
  have ds1 : (w2.setCell ⟨w.heap.size + 1 + 1, 4, none⟩ (.slice n1 (keyN KB).length m1)).cell? ⟨w.heap.size + 1 + 1, 1, none⟩ = some (.slice a4 Y.length c4) := by go_simp
  have db2 : (w2.setCell ⟨w.heap.size + 1 + 1, 4, none⟩ (.slice n1 (keyN KB).length m1)).cell? ⟨w.heap.size, 2, none⟩ = some (.slice a7 ZB.length c7) := by go_simp
  have dn2 : (w2.setCell ⟨w.heap.size + 1 + 1, 4, none⟩ (.slice n1 (keyN KB).length m1)).cell? ⟨w.heap.size + 1, 2, none⟩ = some (.int .i64 (Z.length : Int)) := by go_simp
  have ds2 : (w2.setCell ⟨w.heap.size + 1 + 1, 4, none⟩ (.slice n1 (keyN KB).length m1)).cell? ⟨w.heap.size + 1 + 1, 2, none⟩ = some (.slice a6 Z.length c6) := by go_simp
  have db3 : (w2.setCell ⟨w.heap.size + 1 + 1, 4, none⟩ (.slice n1 (keyN KB).length m1)).cell? ⟨w.heap.size, 3, none⟩ = some (.slice p0 KA.length q0) := by go_simp
  have dn3 : (w2.setCell ⟨w.heap.size + 1 + 1, 4, none⟩ (.slice n1 (keyN KB).length m1)).cell? ⟨w.heap.size + 1, 3, none⟩ = some (.int .i64 (2 * (KA.length : Int))) := by go_simp
  have ds3 : (w2.setCell ⟨w.heap.size + 1 + 1, 4, none⟩ (.slice n1 (keyN KB).length m1)).cell? ⟨w.heap.size + 1 + 1, 3, none⟩ = some (.slice n0 (keyN KA).length m0) := by go_simp
  have db4 : (w2.setCell ⟨w.heap.size + 1 + 1, 4, none⟩ (.slice n1 (keyN KB).length m1)).cell? ⟨w.heap.size, 4, none⟩ = some (.slice p1 KB.length q1) := by go_simp
  have dn4 : (w2.setCell ⟨w.heap.size + 1 + 1, 4, none⟩ (.slice n1 (keyN KB).length m1)).cell? ⟨w.heap.size + 1, 4, none⟩ = some (.int .i64 (2 * (KB.length : Int))) := by go_simp
  have ds4 : (w2.setCell ⟨w.heap.size + 1 + 1, 4, none⟩ (.slice n1 (keyN KB).length m1)).cell? ⟨w.heap.size + 1 + 1, 4, none⟩ = some (.slice n1 (keyN KB).length m1) := by go_simp
  have TAB : Hid (Tab ((w2.setCell ⟨w.heap.size + 1 + 1, 4, none⟩ (.slice n1 (keyN KB).length m1)).alloc (.cells #[.int .i64 0, .int .i64 0, .int .i64 0, .int .i64 0, .int .i64 0, .int .i64 0, .int .i64 0, .int .i64 0, .int .i64 0, .int .i64 0, .int .i64 0, .int .i64 0, .int .i64 0, .int .i64 0, .int .i64 0, .int .i64 0, .int .i64 0, .int .i64 0, .int .i64 0, .int .i64 0, .int .i64 0, .int .i64 0, .int .i64 0, .int .i64 0, .int .i64 0] 42)) w.heap.size w2.heap.size (tv (.slice a3 XB.length c3) (.slice a5 YB.length c5) (.slice a7 ZB.length c7) (.slice p0 KA.length q0) (.slice p1 KB.length q1)) (ti ((X.length : Int)) ((Y.length : Int)) ((Z.length : Int)) ((2 * (KA.length : Int))) ((2 * (KB.length : Int)))) (tv (.slice a2 X.length c2) (.slice a4 Y.length c4) (.slice a6 Z.length c6) (.slice n0 (keyN KA).length m0) (.slice n1 (keyN KB).length m1))) :=
    tab_mk (five db0 db1 db2 db3 db4) (five dn0 dn1 dn2 dn3 dn4) (five ds0 ds1 ds2 ds3 ds4) hzD.symm (by omega)
  have DAT : Hid (Data (w2.setCell ⟨w.heap.size + 1 + 1, 4, none⟩ (.slice n1 (keyN KB).length m1)) (tv (.slice a3 XB.length c3) (.slice a5 YB.length c5) (.slice a7 ZB.length c7) (.slice p0 KA.length q0) (.slice p1 KB.length q1)) (ti ((X.length : Int)) ((Y.length : Int)) ((Z.length : Int)) ((2 * (KA.length : Int))) ((2 * (KB.length : Int)))) (tv (.slice a2 X.length c2) (.slice a4 Y.length c4) (.slice a6 Z.length c6) (.slice n0 (keyN KA).length m0) (.slice n1 (keyN KB).length m1)) (tl X Y Z (keyN KA) (keyN KB))) := by
    refine five ?_ ?_ ?_ ?_ ?_
    · exact row_mk (n := X.length) (SegAt.below s3.out HWD) bXB HI.out.lXB rfl HI.out.rX.1 HI.out.rX.2 (SegAt.below s2.out HWD) (by have := HI.out.lX; omega)
    · exact row_mk (n := Y.length) (SegAt.below s5.out HWD) bYB HI.out.lYB rfl HI.out.rY.1 HI.out.rY.2 (SegAt.below s4.out HWD) (by have := HI.out.lY; omega)
    · exact row_mk (n := Z.length) (SegAt.below s7.out HWD) bZB HI.out.lZB rfl HI.out.rZ.1 HI.out.rZ.2 (SegAt.below s6.out HWD) (by have := HI.out.lZ; omega)
    · exact row_mk (n := 2 * KA.length) (SegAt.below s0.out HWD) bKA (by omega) (by show (2 * (KA.length : Int)) = _; omega) (by omega) (nibs_key KA).symm (S2a.out.set N0.out (by omega) _ _) (by rw [keyN_len]; omega)
    · exact row_mk (n := 2 * KB.length) (SegAt.below s1.out HWD) bKB (by omega) (by show (2 * (KB.length : Int)) = _; omega) (by omega) (nibs_key KB).symm (S2.out.set N1.out (by omega) _ _) (by rw [keyN_len]; omega)
  have BD : Hid (Below w2.heap.size (w2.setCell ⟨w.heap.size + 1 + 1, 4, none⟩ (.slice n1 (keyN KB).length m1)) ((w2.setCell ⟨w.heap.size + 1 + 1, 4, none⟩ (.slice n1 (keyN KB).length m1)).alloc (.cells #[.int .i64 0, .int .i64 0, .int .i64 0, .int .i64 0, .int .i64 0, .int .i64 0, .int .i64 0, .int .i64 0, .int .i64 0, .int .i64 0, .int .i64 0, .int .i64 0, .int .i64 0, .int .i64 0, .int .i64 0, .int .i64 0, .int .i64 0, .int .i64 0, .int .i64 0, .int .i64 0, .int .i64 0, .int .i64 0, .int .i64 0, .int .i64 0, .int .i64 0] 42))) := (Below.refl _ _).alloc (by rw [hzD]; exact Nat.le_refl _) _
  have HBD : Hid (Below B w0 (w2.setCell ⟨w.heap.size + 1 + 1, 4, none⟩ (.slice n1 (keyN KB).length m1))) := HB0.out.trans (HWD.mono hBw)
  clear db0 dn0 ds0 db1 dn1 ds1 db2 dn2 ds2 db3 dn3 ds3 db4 dn4 ds4
  have HzD : Hid ((w2.setCell ⟨w.heap.size + 1 + 1, 4, none⟩ (.slice n1 (keyN KB).length m1)).heap.size = w2.heap.size) := hzD
  clear hzD HWD
  go_wp2_with fail
  rename_i K hK
  refine part2 _ _ _ _ _ _ _ _ _ _ _ _ _ _ _ _ _ _ _ _ _ _ _ _ _ _ _ _ _ _ _ _ _ _ _ _ _ _ _ _ _ _ _ _ _ _ _ _ _ _ _ _ _ _ _ _ _ _ _ _ _ _ _ _ _ _ _ _ _ _ _ _ _ _ _ _ _ _ _ _ _ _ _ _ _ _ _ _ _ _ _ _ _ _ _ _ _ _ _ _ _ _ _ _ _ _ _ _ _ _ _ _ _ _ _ _ _ _ _ _ _ _ _ _ _ _ _ _ _ _ _ _ _ _ _ _ _ _ _ _ _ _ _ _ _ _ _ _ _ _ _ _ _ _ _ _ _ _ _ _ _ _ _ _ _ _ _ _ _ _ _ _ _ _ _ _ _ _ _ _ _ _ _ _ _ _ _ _ _ _ _ _ _ _ _ _ _ _ _ _ _ _ _ _ _ _ _ _ _ _ _ _ _ _ _ _ _ _ _ _ _ _ _ _ _ _ _ _ _ _ _ _ _ _ _ _ TAB.out DAT.out BD.out (Nat.le_of_eq HzD.out) ?_
  intro v27 v28 v125 v126 v127 v128 v129 v130 v131 v132 v133 v134 v135 v136 v137 v138 v139 v140 v141 v142 v143 v144 v145 v146 v147 v148 v149 wr ht hb hm
  refine hK _ _ ?_
  exact part3 _ _ _ _ _ _ _ _ _ _ _ _ _ _ _ _ _ _ _ _ _ _ _ _ _ _ _ _ _ _ _ _ _ _ _ _ _ _ _ _ _ _ _ _ _ _ _ _ _ _ _ _ _ _ _ _ _ _ _ _ _ _ _ _ _ _ _ _ _ _ _ _ _ _ _ _ _ _ _ _ _ _ _ _ _ _ _ _ _ _ _ _ _ _ _ _ _ _ _ _ _ _ _ _ _ _ _ _ _ _ _ _ _ _ _ _ _ _ _ _ _ _ _ _ _ _ _ _ _ _ _ _ _ _ _ _ _ _ _ _ _ _ _ _ _ _ _ _ _ _ _ _ _ _ _ _ _ _ _ _ _ _ _ _ _ _ _ _ _ _ _ _ _ _ _ _ _ _ _ _ _ _ _ _ _ _ _ _ _ _ _ _ _ _ _ _ _ _ _ _ _ _ _ _ _ _ _ _ _ _ _ _ _ _ _ _ _ _ _ _ _ _ _ _ _ _ _ _ _ _ _ _ _ _ _ _ _ _ ht DAT.out hb (Nat.le_of_eq HzD.out) hm (HBD.out.trans (hb.mono (by omega)))
end Go.Proofs.Qxb6003407a.Cmp
