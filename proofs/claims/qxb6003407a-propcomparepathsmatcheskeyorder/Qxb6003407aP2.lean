import Derived.Test.Qxb6003407aTab
set_option linter.unusedVariables false
namespace Go.Proofs.Qxb6003407a.Cmp
open Go.ChangeShapes Go.WideShapes Go.ChangeAt Go.RowKit
attribute [local go_sem ↓] Go.wp_at_zero Go.wp_at_succ

/-- the loop of a `for` statement -/
def loopOf : Code → Code
  | .seq _ (.block _ l) => l
  | c => c

theorem after_call {wr w5 : World} {P C i j : Nat} {vb : Nat → Value} {vn : Nat → Int} {vs : Nat → Value} {vbi vbj : Value} {vni vnj old : Int} (ht : Tab wr P C vb vn vs) (hbb : Below wr.heap.size wr w5) (hi : i < 5) (hj : j < 5)
    (E : vbi = vb i ∧ vbj = vb j ∧ vni = vn i ∧ vnj = vn j) (hold : wr.cell? ⟨C, i * 5 + j, none⟩ = some (.int .i64 old)) :
    w5.cell? ⟨P, i, none⟩ = some vbi ∧ w5.cell? ⟨P, j, none⟩ = some vbj ∧ w5.cell? ⟨P + 1, i, none⟩ = some (.int .i64 vni) ∧ w5.cell? ⟨P + 1, j, none⟩ = some (.int .i64 vnj) ∧ w5.cell? ⟨C, i * 5 + j, none⟩ = some (.int .i64 old) ∧ w5.frozen? ⟨C, i * 5 + j, none⟩ = false ∧ Hid (Below wr.heap.size wr w5) := by
  have t := Tab.below ht hbb
  obtain ⟨rfl, rfl, rfl, rfl⟩ := E
  exact ⟨t.b i hi, t.b j hj, t.n i hi, t.n j hj, (hbb.cell (by exact ht.cw)).trans hold, t.f _ (by omega), hbb⟩

theorem round_end {wr w5 w2 : World} {P C i j : Nat} {vb : Nat → Value} {vn : Nat → Int} {vs : Nat → Value} {N : Nat → List Nat} {r : Int} (ht : Tab wr P C vb vn vs) (hb : Below C w2 wr) (hm : Mat wr C N (fun x y => x < i ∨ (x = i ∧ y < j)))
    (h5 : Below wr.heap.size wr w5) (hi : i < 5) (hj : j < 5) (hr : sgn r = cmpL (N i) (N j)) :
    Tab (w5.setCell ⟨C, i * 5 + j, none⟩ (.int .i64 r)) P C vb vn vs ∧ Below C w2 (w5.setCell ⟨C, i * 5 + j, none⟩ (.int .i64 r)) ∧ Mat (w5.setCell ⟨C, i * 5 + j, none⟩ (.int .i64 r)) C N (fun x y => x < i ∨ (x = i ∧ y < j + 1)) := by
  have t5 := Tab.below ht h5
  obtain ⟨v, hv⟩ := t5.c (i * 5 + j) (by omega)
  exact ⟨t5.store _ (by omega) r, (hb.trans (h5.mono (Nat.le_of_lt ht.cw))).setCell (Nat.le_refl _) _, (hm.below ht.cw h5).store hi hj hv hr⟩

set_option maxHeartbeats 4000000 in
set_option maxRecDepth 100000 in
theorem part2 (P C : Nat) (vb : Nat → Value) (vn : Nat → Int) (vs : Nat → Value) (N : Nat → List Nat) (w2 w : World) (Q : Exit → Act → World → Prop) (u0 u1 u2 u3 u4 u5 u6 u7 u8 u9 u10 u11 u12 u13 u14 u15 u17 u18 u19 u20 u21 u22 u28 u29 u30 u31 u32 u33 u34 u35 u36 u37 u38 u39 u40 u41 u42 u43 u44 u45 u46 u47 u48 u49 u50 u51 u52 u53 u54 u55 u56 u57 u58 u59 u60 u61 u62 u63 u64 u65 u66 u67 u68 u69 u70 u71 u72 u73 u74 u75 u76 u77 u78 u79 u80 u81 u82 u83 u84 u85 u86 u87 u88 u89 u90 u91 u92 u93 u94 u95 u96 u97 u98 u99 u100 u101 u102 u103 u104 u105 u106 u107 u108 u109 u110 u111 u112 u113 u114 u115 u116 u117 u118 u119 u120 u121 u122 u123 u124 u125 u126 u127 u128 u129 u130 u131 u132 u133 u134 u135 u136 u137 u138 u139 u140 u141 u142 u143 u144 u145 u146 u147 u148 u149 u150 u151 u152 u153 u154 u155 u156 u157 u158 u159 u160 u161 u162 u163 u164 u165 u166 u167 u168 u169 u170 u171 u172 u173 u174 u175 u176 u177 u178 u179 u180 u181 u182 u183 u184 u185 u186 u187 u188 u189 u190 u191 u192 u193 u194 u195 u196 u197 u198 u199 u200 u201 u202 u203 u204 u205 u206 u207 u208 u209 u210 u211 u212 u213 u214 u215 u216 u217 u218 u219 u220 u221 u222 u223 u224 u225 u226 u227 u228 u229 u230 u231 u232 : Value)
    (ht : Tab w P C vb vn vs) (hd : Data w2 vb vn vs N) (hb : Below C w2 w) (h2C : w2.heap.size ≤ C)
    (hQ : Hid (∀ (v27 v28 v125 v126 v127 v128 v129 v130 v131 v132 v133 v134 v135 v136 v137 v138 v139 v140 v141 v142 v143 v144 v145 v146 v147 v148 v149 : Value) (wr : World), Tab wr P C vb vn vs → Below C w2 wr → Mat wr C N (fun x y => x < 5) → Q .normal ⟨#[u0, u1, u2, u3, u4, u5, u6, u7, u8, u9, u10, u11, u12, u13, u14, u15, .bool false, u17, u18, u19, u20, u21, u22, .pointer (some ⟨P, 0, none⟩), .pointer (some ⟨P + 1, 0, none⟩), .pointer (some ⟨P + 1 + 1, 0, none⟩), .pointer (some ⟨C, 0, none⟩), v27, v28, u29, u30, u31, u32, u33, u34, u35, u36, u37, u38, u39, u40, u41, u42, u43, u44, u45, u46, u47, u48, u49, u50, u51, u52, u53, u54, u55, u56, u57, u58, u59, u60, u61, u62, u63, u64, u65, u66, u67, u68, u69, u70, u71, u72, u73, u74, u75, u76, u77, u78, u79, u80, u81, u82, u83, u84, u85, u86, u87, u88, u89, u90, u91, u92, u93, u94, u95, u96, u97, u98, u99, u100, u101, u102, u103, u104, u105, u106, u107, u108, u109, u110, u111, u112, u113, u114, u115, u116, u117, u118, u119, u120, u121, u122, u123, u124, v125, v126, v127, v128, v129, v130, v131, v132, v133, v134, v135, v136, v137, v138, v139, v140, v141, v142, v143, v144, v145, v146, v147, v148, v149, u150, u151, u152, u153, u154, u155, u156, u157, u158, u159, u160, u161, u162, u163, u164, u165, u166, u167, u168, u169, u170, u171, u172, u173, u174, u175, u176, u177, u178, u179, u180, u181, u182, u183, u184, u185, u186, u187, u188, u189, u190, u191, u192, u193, u194, u195, u196, u197, u198, u199, u200, u201, u202, u203, u204, u205, u206, u207, u208, u209, u210, u211, u212, u213, u214, u215, u216, u217, u218, u219, u220, u221, u222, u223, u224, u225, u226, u227, u228, u229, u230, u231, u232], []⟩ wr)) :
    Code.wp Try.prog (loopOf (itemN 27 (Try.f4.body.getD .skip))) (Exit.inBlock 0 Q) ⟨#[u0, u1, u2, u3, u4, u5, u6, u7, u8, u9, u10, u11, u12, u13, u14, u15, .bool false, u17, u18, u19, u20, u21, u22, .pointer (some ⟨P, 0, none⟩), .pointer (some ⟨P + 1, 0, none⟩), .pointer (some ⟨P + 1 + 1, 0, none⟩), .pointer (some ⟨C, 0, none⟩), .int .i64 0, u28, u29, u30, u31, u32, u33, u34, u35, u36, u37, u38, u39, u40, u41, u42, u43, u44, u45, u46, u47, u48, u49, u50, u51, u52, u53, u54, u55, u56, u57, u58, u59, u60, u61, u62, u63, u64, u65, u66, u67, u68, u69, u70, u71, u72, u73, u74, u75, u76, u77, u78, u79, u80, u81, u82, u83, u84, u85, u86, u87, u88, u89, u90, u91, u92, u93, u94, u95, u96, u97, u98, u99, u100, u101, u102, u103, u104, u105, u106, u107, u108, u109, u110, u111, u112, u113, u114, u115, u116, u117, u118, u119, u120, u121, u122, u123, u124, u125, u126, u127, u128, u129, u130, u131, u132, u133, u134, u135, u136, u137, u138, u139, u140, u141, u142, u143, u144, u145, u146, u147, u148, u149, u150, u151, u152, u153, u154, u155, u156, u157, u158, u159, u160, u161, u162, u163, u164, u165, u166, u167, u168, u169, u170, u171, u172, u173, u174, u175, u176, u177, u178, u179, u180, u181, u182, u183, u184, u185, u186, u187, u188, u189, u190, u191, u192, u193, u194, u195, u196, u197, u198, u199, u200, u201, u202, u203, u204, u205, u206, u207, u208, u209, u210, u211, u212, u213, u214, u215, u216, u217, u218, u219, u220, u221, u222, u223, u224, u225, u226, u227, u228, u229, u230, u231, u232], []⟩ w := by
  have Hd : Hid (Data w2 vb vn vs N) := hd
  clear hd
  conv => arg 2; whnf
  dsimp only
  go_loopw [27] (fun iv wr => ∃ i : Nat, i ≤ 5 ∧ iv = .int .i64 i ∧ Hid (Tab wr P C vb vn vs) ∧ Hid (Below C w2 wr) ∧ Hid (Mat wr C N (fun x y => x < i))) (fun iv _ => 5 - (intOf iv).toNat)
  case atStart => exact ⟨0, by omega, rfl, ht, hb, fun x y _ _ h => absurd h (by omega)⟩
  case round =>
    clear ht hb
    obtain ⟨i, hi, rfl, Ht, Hb, Hm⟩ := hrel
    by_cases hlt : i < 5
    · have hdi : decide ((i : Int) < 5) = true := by simp; omega
      have i1 : (i : Int) < 5 := by omega
      go_wp2
      go_loopw [28] (fun jv wr => ∃ j : Nat, j ≤ 5 ∧ jv = .int .i64 j ∧ Hid (Tab wr P C vb vn vs) ∧ Hid (Below C w2 wr) ∧ Hid (Mat wr C N (fun x y => x < i ∨ (x = i ∧ y < j)))) (fun jv _ => 5 - (intOf jv).toNat)
      case atStart => exact ⟨0, by omega, rfl, Ht, Hb, fun x y hx hy h => Hm.out x y hx hy (by omega)⟩
      case round =>
        clear Ht Hb Hm
        obtain ⟨j, hj, rfl, Ht, Hb, Hm⟩ := hrel
        by_cases hjt : j < 5
        · obtain ⟨a1, Z1, c1, n1, a1', c1', hr1⟩ := Hd.out i hlt
          obtain ⟨a2, Z2, c2, n2, a2', c2', hr2⟩ := Hd.out j hjt
          obtain ⟨vbi, e1⟩ : ∃ x, x = vb i := ⟨_, rfl⟩
          obtain ⟨vbj, e2⟩ : ∃ x, x = vb j := ⟨_, rfl⟩
          obtain ⟨vni, e3⟩ : ∃ x, x = vn i := ⟨_, rfl⟩
          obtain ⟨vnj, e4⟩ : ∃ x, x = vn j := ⟨_, rfl⟩
          have R1 : Hid (Row w2 vbi vni (vs i) (N i) a1 Z1 c1 n1 a1' c1') := by rw [e1, e3]; exact hr1
          have R2 : Hid (Row w2 vbj vnj (vs j) (N j) a2 Z2 c2 n2 a2' c2') := by rw [e2, e4]; exact hr2
          have cb1 : wr.cell? ⟨P, i, none⟩ = some vbi := by rw [e1]; exact Ht.out.b i hlt
          have cb2 : wr.cell? ⟨P, j, none⟩ = some vbj := by rw [e2]; exact Ht.out.b j hjt
          have cn1 : wr.cell? ⟨P + 1, i, none⟩ = some (.int .i64 vni) := by rw [e3]; exact Ht.out.n i hlt
          have cn2 : wr.cell? ⟨P + 1, j, none⟩ = some (.int .i64 vnj) := by rw [e4]; exact Ht.out.n j hjt
          obtain ⟨old, hold⟩ := Ht.out.c (i * 5 + j) (by omega)
          have hpc := Ht.out.pc
          have hcw := Ht.out.cw
          have np1 : ¬ C = P := by omega
          have np2 : ¬ C = P + 1 := by omega
          have E : Hid (vbi = vb i ∧ vbj = vb j ∧ vni = vn i ∧ vnj = vn j) := ⟨e1, e2, e3, e4⟩
          clear e1 e2 e3 e4 hr1 hr2
          have i0 : (0 : Int) ≤ (i : Int) := by omega
          have j0 : (0 : Int) ≤ (j : Int) := by omega
          have j1 : (j : Int) < 5 := by omega
          go_wp2
          go_region_held3 (fun w' => w'.cell? ⟨P, i, none⟩ = some vbi ∧ w'.cell? ⟨P, j, none⟩ = some vbj ∧ w'.cell? ⟨P + 1, i, none⟩ = some (.int .i64 vni) ∧ w'.cell? ⟨P + 1, j, none⟩ = some (.int .i64 vnj)) (go_keep)
            (first
              | (go_at_call 24; refine (compareRows _ w2 vbi vbj vni vnj (vs i) (vs j) (N i) (N j) R1.out R2.out (Hb.out.mono h2C).drew).mono ?_; (rintro e w5 ⟨⟨r, rfl, hr⟩, hb5⟩; obtain ⟨k1, k2, k3, k4, k5, k6, HB5⟩ := after_call Ht.out (show Below wr.heap.size wr w5 from ⟨hb5.os, hb5.tape, hb5.output, hb5.size, hb5.block⟩) hlt hjt E.out hold; have Hr : Hid (sgn r = cmpL (N i) (N j)) := hr; clear hr hb5)))
          clear k1 k2 k3 k4 k5 k6 cb1 cb2 cn1 cn2 hold
          go_wp2
          go_roundw
          case rel =>
            have RE := round_end Ht.out Hb.out Hm.out HB5.out hlt hjt Hr.out
            first | exact ⟨j + 1, by omega, by go_num, RE.1, RE.2.1, RE.2.2⟩ | ((repeat apply Exists.intro); refine ⟨⟨j + 1, by omega, ?_, RE.1, RE.2.1, RE.2.2⟩, rfl⟩; go_num)
          case measure => simp [intOf]; omega
        · go_wp2
          go_roundw
          case rel => exact ⟨i + 1, by omega, by go_num, Ht, Hb, fun x y hx hy h => Hm.out x y hx hy (by omega)⟩
          case measure => simp [intOf]; omega
    · go_wp2
      exact hQ.out _ _ _ _ _ _ _ _ _ _ _ _ _ _ _ _ _ _ _ _ _ _ _ _ _ _ _ _ Ht.out Hb.out (fun x y hx hy h => Hm.out x y hx hy (by omega))
end Go.Proofs.Qxb6003407a.Cmp
