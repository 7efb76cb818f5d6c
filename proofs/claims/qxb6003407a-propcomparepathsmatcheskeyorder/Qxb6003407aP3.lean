import Derived.Test.Qxb6003407aTab
set_option linter.unusedVariables false
namespace Go.Proofs.Qxb6003407a.Cmp
open Go.ChangeShapes Go.WideShapes Go.ChangeAt Go.RowKit

theorem mat_fun {w : World} {C : Nat} {N : Nat → List Nat} (h : Mat w C N (fun x _ => x < 5)) : ∃ R : Nat → Nat → Int, ∀ x y, x < 5 → y < 5 → w.cell? ⟨C, x * 5 + y, none⟩ = some (.int .i64 (R x y)) ∧ sgn (R x y) = cmpL (N x) (N y) := by
  refine ⟨fun x y => if hh : x < 5 ∧ y < 5 then Classical.choose (h x y hh.1 hh.2 hh.1) else 0, fun x y hx hy => ?_⟩
  have e : (if hh : x < 5 ∧ y < 5 then Classical.choose (h x y hh.1 hh.2 hh.1) else 0) = Classical.choose (h x y hx hy hx) := dif_pos ⟨hx, hy⟩
  show _ = some (Value.int .i64 (if hh : x < 5 ∧ y < 5 then Classical.choose (h x y hh.1 hh.2 hh.1) else 0)) ∧ sgn (if hh : x < 5 ∧ y < 5 then Classical.choose (h x y hh.1 hh.2 hh.1) else 0) = _
  rw [e]
  exact Classical.choose_spec (h x y hx hy hx)

theorem tr3 {a b c : Int} {x y z : List Nat} (h1 : sgn a = cmpL x y) (h2 : sgn b = cmpL y z) (h3 : sgn c = cmpL x z) (ha : a ≤ 0) (hb : b ≤ 0) : c ≤ 0 := by
  rw [← sgn_le, h3]
  rw [← sgn_le, h1] at ha
  rw [← sgn_le, h2] at hb
  exact cmpL_trans x y z ha hb

def eqB (A B : List Nat) : Bool := decide (A = B)

theorem sign_q (x : Int) (w : World) (n m : Nat) : Calls Try.prog 23 #[.int .i64 x] (w.drewN (n + m)) fun e w'' => e = .returned (.int .i64 (sgn x)) ∧ ∃ k, w'' = w.drewN (n + k) :=
  (sign x _).mono fun e w' h => ⟨h.1, m, h.2.symm⟩
theorem cmp_q (A B : List Nat) (a b : Option Addr) (cap cap1 : Nat) (w : World) (n m : Nat) (hA : SegAt w a A) (hB : SegAt w b B) (lA : A.length ≤ 1048576) (lB : B.length ≤ 1048576) :
    Calls Try.prog 25 #[.slice a A.length cap, .slice b B.length cap1] (w.drewN (n + m)) fun e w'' => e = .returned (.int .i64 (cmpL A B)) ∧ ∃ k, w'' = w.drewN (n + k) :=
  (cmp25 A B a b cap cap1 (w.drewN (n + m)) hA.drewN hB.drewN lA lB).mono fun e w' h => ⟨h.1, by obtain ⟨k, hk⟩ := h.2; exact ⟨m + k, by rw [hk, World.drewN_drewN, Nat.add_assoc]⟩⟩
theorem eq_q (A B : List Nat) (a b : Option Addr) (cap cap1 : Nat) (w : World) (n m : Nat) (hA : SegAt w a A) (hB : SegAt w b B) (lA : A.length ≤ 1048576) (lB : B.length ≤ 1048576) :
    Calls Try.prog 11 #[.slice a A.length cap, .slice b B.length cap1] (w.drewN (n + m)) fun e w'' => e = .returned (.bool (eqB A B)) ∧ ∃ k, w'' = w.drewN (n + k) := by
  refine (eq11 A B a b cap cap1 (w.drewN (n + m)) hA.drewN hB.drewN lA lB).mono ?_
  rintro e w' ⟨⟨c, rfl, hc⟩, k, rfl⟩
  refine ⟨?_, m + k, by rw [World.drewN_drewN, Nat.add_assoc]⟩
  have : c = eqB A B := Bool.eq_iff_iff.2 (hc.trans (by simp [eqB]))
  rw [this]

set_option maxHeartbeats 8000000 in
set_option maxRecDepth 100000 in
theorem part3 (P C B : Nat) (vb : Nat → Value) (vn : Nat → Int) (vs : Nat → Value) (N : Nat → List Nat) (w2 w0 w : World) (u0 u1 u2 u3 u4 u5 u6 u7 u8 u9 u10 u11 u12 u13 u14 u15 u17 u18 u19 u20 u21 u22 u27 u28 u29 u30 u31 u32 u33 u34 u35 u36 u37 u38 u39 u40 u41 u42 u43 u44 u45 u46 u47 u48 u49 u50 u51 u52 u53 u54 u55 u56 u57 u58 u59 u60 u61 u62 u63 u64 u65 u66 u67 u68 u69 u70 u71 u72 u73 u74 u75 u76 u77 u78 u79 u80 u81 u82 u83 u84 u85 u86 u87 u88 u89 u90 u91 u92 u93 u94 u95 u96 u97 u98 u99 u100 u101 u102 u103 u104 u105 u106 u107 u108 u109 u110 u111 u112 u113 u114 u115 u116 u117 u118 u119 u120 u121 u122 u123 u124 u125 u126 u127 u128 u129 u130 u131 u132 u133 u134 u135 u136 u137 u138 u139 u140 u141 u142 u143 u144 u145 u146 u147 u148 u149 u150 u151 u152 u153 u154 u155 u156 u157 u158 u159 u160 u161 u162 u163 u164 u165 u166 u167 u168 u169 u170 u171 u172 u173 u174 u175 u176 u177 u178 u179 u180 u181 u182 u183 u184 u185 u186 u187 u188 u189 u190 u191 u192 u193 u194 u195 u196 u197 u198 u199 u200 u201 u202 u203 u204 u205 u206 u207 u208 u209 u210 u211 u212 u213 u214 u215 u216 u217 u218 u219 u220 u221 u222 u223 u224 u225 u226 u227 u228 u229 u230 u231 u232 : Value)
    (ht : Tab w P C vb vn vs) (hd : Data w2 vb vn vs N) (hb : Below C w2 w) (h2C : w2.heap.size ≤ C) (hm : Mat w C N (fun x y => x < 5)) (hB : Below B w0 w) :
    Code.wp Try.prog (tailN 28 (Try.f4.body.getD .skip)) (bodyPost Try.prog Try.f4 (fun e w' => e = .returned (.bool true) ∧ Below B w0 w')) ⟨#[u0, u1, u2, u3, u4, u5, u6, u7, u8, u9, u10, u11, u12, u13, u14, u15, .bool false, u17, u18, u19, u20, u21, u22, .pointer (some ⟨P, 0, none⟩), .pointer (some ⟨P + 1, 0, none⟩), .pointer (some ⟨P + 1 + 1, 0, none⟩), .pointer (some ⟨C, 0, none⟩), u27, u28, u29, u30, u31, u32, u33, u34, u35, u36, u37, u38, u39, u40, u41, u42, u43, u44, u45, u46, u47, u48, u49, u50, u51, u52, u53, u54, u55, u56, u57, u58, u59, u60, u61, u62, u63, u64, u65, u66, u67, u68, u69, u70, u71, u72, u73, u74, u75, u76, u77, u78, u79, u80, u81, u82, u83, u84, u85, u86, u87, u88, u89, u90, u91, u92, u93, u94, u95, u96, u97, u98, u99, u100, u101, u102, u103, u104, u105, u106, u107, u108, u109, u110, u111, u112, u113, u114, u115, u116, u117, u118, u119, u120, u121, u122, u123, u124, u125, u126, u127, u128, u129, u130, u131, u132, u133, u134, u135, u136, u137, u138, u139, u140, u141, u142, u143, u144, u145, u146, u147, u148, u149, u150, u151, u152, u153, u154, u155, u156, u157, u158, u159, u160, u161, u162, u163, u164, u165, u166, u167, u168, u169, u170, u171, u172, u173, u174, u175, u176, u177, u178, u179, u180, u181, u182, u183, u184, u185, u186, u187, u188, u189, u190, u191, u192, u193, u194, u195, u196, u197, u198, u199, u200, u201, u202, u203, u204, u205, u206, u207, u208, u209, u210, u211, u212, u213, u214, u215, u216, u217, u218, u219, u220, u221, u222, u223, u224, u225, u226, u227, u228, u229, u230, u231, u232], []⟩ w := by
  obtain ⟨R, hR⟩ := mat_fun hm
  have HR : Hid (∀ x y, x < 5 → y < 5 → w.cell? ⟨C, x * 5 + y, none⟩ = some (.int .i64 (R x y)) ∧ sgn (R x y) = cmpL (N x) (N y)) := hR
  have HD : Hid (Data w vb vn vs N) := hd.below (hb.mono h2C)
  have HT : Hid (Tab w P C vb vn vs) := ht
  have HBB : Hid (Below B w0 w) := hB
  clear hR hm hd ht hb hB
  conv => arg 2; whnf
  go_wp2
  go_loopw [29] (fun iv wr => ∃ i : Nat, i ≤ 5 ∧ iv = .int .i64 i ∧ ∃ n, wr = w.drewN n) (fun iv _ => 5 - (intOf iv).toNat)
  case atStart => exact ⟨0, by omega, rfl, 0, rfl⟩
  case round =>
    obtain ⟨i, hi, rfl, n, rfl⟩ := hrel
    by_cases hlt : i < 5
    · have hdi : decide ((i : Int) < 5) = true := by simp; omega
      have i1 : (i : Int) < 5 := by omega
      have cii : w.cell? ⟨C, i * 5 + i, none⟩ = some (.int .i64 0) := by
        obtain ⟨h1, h2⟩ := HR.out i i hlt hlt
        rw [cmpL_self, sgn_zero] at h2
        rw [h1, h2]
      go_wp2
      go_loopw [30] (fun jv wr => ∃ j : Nat, j ≤ 5 ∧ jv = .int .i64 j ∧ ∃ n, wr = w.drewN n) (fun jv _ => 5 - (intOf jv).toNat)
      case atStart => exact ⟨0, by omega, rfl, n, rfl⟩
      case round =>
        clear cii
        obtain ⟨j, hj, rfl, n, rfl⟩ := hrel
        by_cases hjt : j < 5
        · have hdj : decide ((j : Int) < 5) = true := by simp; omega
          have j1 : (j : Int) < 5 := by omega
          obtain ⟨a1, Z1, c1, n1, a1', c1', hr1⟩ := HD.out i hlt
          obtain ⟨a2, Z2, c2, n2, a2', c2', hr2⟩ := HD.out j hjt
          obtain ⟨Ni, eNi⟩ : ∃ x, x = N i := ⟨_, rfl⟩
          obtain ⟨Nj, eNj⟩ : ∃ x, x = N j := ⟨_, rfl⟩
          obtain ⟨rij, eij⟩ : ∃ x, x = R i j := ⟨_, rfl⟩
          obtain ⟨rji, eji⟩ : ∃ x, x = R j i := ⟨_, rfl⟩
          have cij : w.cell? ⟨C, i * 5 + j, none⟩ = some (.int .i64 rij) := by rw [eij]; exact (HR.out i j hlt hjt).1
          have cji : w.cell? ⟨C, j * 5 + i, none⟩ = some (.int .i64 rji) := by rw [eji]; exact (HR.out j i hjt hlt).1
          have si : w.cell? ⟨P + 1 + 1, i, none⟩ = some (.slice a1' Ni.length c1') := by rw [eNi, ← hr1.es]; exact HT.out.s i hlt
          have sj : w.cell? ⟨P + 1 + 1, j, none⟩ = some (.slice a2' Nj.length c2') := by rw [eNj, ← hr2.es]; exact HT.out.s j hjt
          have S1 : Hid (SegAt w a1' Ni ∧ Ni.length ≤ 1048576) := by rw [eNi]; exact ⟨hr1.ss, hr1.ls⟩
          have S2 : Hid (SegAt w a2' Nj ∧ Nj.length ≤ 1048576) := by rw [eNj]; exact ⟨hr2.ss, hr2.ls⟩
          have hsij : sgn rij = cmpL Ni Nj := by rw [eij, eNi, eNj]; exact (HR.out i j hlt hjt).2
          have hsji : sgn rji = cmpL Nj Ni := by rw [eji, eNi, eNj]; exact (HR.out j i hjt hlt).2
          have t1 : (sgn rij != sgn (cmpL Ni Nj)) = false := by
            rw [← hsij, hsij, sgn_of (cmpL_range Ni Nj) hsij]; simp
          have t2 : (sgn rij != -(sgn rji)) = false := by
            rw [hsij, hsji, cmpL_neg Ni Nj]; simp
          have t3 : (rij == 0) = eqB Ni Nj := by
            unfold eqB
            rw [Bool.eq_iff_iff]
            simp
            rw [← sgn_zero rij, hsij, cmpL_zero]
          have b1 : (-1 : Int) ≤ sgn rji := by rcases sgn_range rji with e | e | e <;> omega
          have b2 : sgn rji ≤ 1 := by rcases sgn_range rji with e | e | e <;> omega
          have HIJ : Hid (rij = R i j) := eij
          clear hr1 hr2 eNi eNj eij eji hsij hsji
          go_wp2
          go_quiet ((first | (go_at_call 23; exact sign_q _ w n _) | (go_at_call 25; exact cmp_q Ni Nj a1' a2' c1' c2' w n _ S1.out.1 S2.out.1 S1.out.2 S2.out.2)))
          go_wp2
          go_quiet ((first | (go_at_call 23; exact sign_q _ w _ _)))
          go_wp2
          go_quiet ((first | (go_at_call 11; exact eq_q Ni Nj a1' a2' c1' c2' w _ _ S1.out.1 S2.out.1 S1.out.2 S2.out.2)))
          go_wp2
          clear t1 t2 t3 b1 b2 si sj cji
          go_loop [31] (fun lv => ∃ l : Nat, l ≤ 5 ∧ lv = .int .i64 l) (fun lv => 5 - (intOf lv).toNat)
          case atStart => exact ⟨0, by omega, rfl⟩
          case round =>
            obtain ⟨l, hl, rfl⟩ := hrel
            by_cases hlt2 : l < 5
            · have hdl : decide ((l : Int) < 5) = true := by simp; omega
              have l1 : (l : Int) < 5 := by omega
              obtain ⟨rjl, ejl⟩ : ∃ x, x = R j l := ⟨_, rfl⟩
              obtain ⟨ril, eil⟩ : ∃ x, x = R i l := ⟨_, rfl⟩
              have cjl : w.cell? ⟨C, j * 5 + l, none⟩ = some (.int .i64 rjl) := by rw [ejl]; exact (HR.out j l hjt hlt2).1
              have cil : w.cell? ⟨C, i * 5 + l, none⟩ = some (.int .i64 ril) := by rw [eil]; exact (HR.out i l hlt hlt2).1
              have htr : rij ≤ 0 → rjl ≤ 0 → ril ≤ 0 := by
                rw [HIJ.out, ejl, eil]
                exact tr3 (HR.out i j hlt hjt).2 (HR.out j l hjt hlt2).2 (HR.out i l hlt hlt2).2
              have HTR : Hid (rij ≤ 0 → rjl ≤ 0 → ril ≤ 0) := htr
              clear htr ejl eil
              by_cases q1 : rij ≤ 0
              · by_cases q2 : rjl ≤ 0
                · have q3 : ¬ 0 < ril := by have := HTR.out q1 q2; omega
                  go_wp2
                  go_round
                  case rel => exact ⟨l + 1, by omega, by go_num⟩
                  case measure => simp [intOf]; omega
                · go_wp2
                  go_round
                  case rel => exact ⟨l + 1, by omega, by go_num⟩
                  case measure => simp [intOf]; omega
              · go_wp2
                go_round
                case rel => exact ⟨l + 1, by omega, by go_num⟩
                case measure => simp [intOf]; omega
            · go_wp2
              go_roundw
              case rel => first | exact ⟨j + 1, by omega, by go_num, _, rfl⟩ | ((repeat apply Exists.intro); refine ⟨⟨j + 1, by omega, ?_, _, rfl⟩, rfl⟩; go_num)
              case measure => simp [intOf]; omega
        · go_wp2
          go_roundw
          case rel => first | exact ⟨i + 1, by omega, by go_num, _, rfl⟩ | ((repeat apply Exists.intro); refine ⟨⟨i + 1, by omega, ?_, _, rfl⟩, rfl⟩; go_num)
          case measure => simp [intOf]; omega
    · go_wp2
      go_ret
      exact ⟨rfl, HBB.out.trans (bd _ _ _)⟩
end Go.Proofs.Qxb6003407a.Cmp
