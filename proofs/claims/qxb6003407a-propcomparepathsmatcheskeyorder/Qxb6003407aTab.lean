import Derived.Test.Qxb6003407aCopy
set_option linter.unusedVariables false
namespace Go.Proofs.Qxb6003407a.Cmp
open Go.ChangeShapes Go.WideShapes Go.ChangeAt Go.RowKit

/-- what stands behind the first n statements -/
def tailN : Nat → Code → Code
  | 0, c => c
  | n + 1, .seq _ b => tailN n b
  | _ + 1, c => c
/-- the statement behind the first n -/
def itemN (n : Nat) (c : Code) : Code := match tailN n c with
  | .seq a _ => a
  | c => c

/-- the three tables of the law and its matrix: blocks P, P + 1, P + 1 + 1 and C -/
structure Tab (w : World) (P C : Nat) (vb : Nat → Value) (vn : Nat → Int) (vs : Nat → Value) : Prop where
  b : ∀ i, i < 5 → w.cell? ⟨P, i, none⟩ = some (vb i)
  n : ∀ i, i < 5 → w.cell? ⟨P + 1, i, none⟩ = some (.int .i64 (vn i))
  s : ∀ i, i < 5 → w.cell? ⟨P + 1 + 1, i, none⟩ = some (vs i)
  c : ∀ j, j < 25 → ∃ v : Int, w.cell? ⟨C, j, none⟩ = some (.int .i64 v)
  f : ∀ j, j < 25 → w.frozen? ⟨C, j, none⟩ = false
  pc : P + 1 + 1 < C
  cw : C < w.heap.size

/-- what stands in row i of the tables -/
structure Row (w : World) (vb : Value) (vn : Int) (vs : Value) (N : List Nat) (a : Option Addr) (Z : List Nat) (c n : Nat) (a' : Option Addr) (c' : Nat) : Prop where
  eb : vb = .slice a Z.length c
  sb : SegAt w a Z
  by_ : Bytes Z
  lb : Z.length ≤ 1048576
  en : vn = (n : Int)
  nb : (n + 1) / 2 ≤ Z.length
  eN : N = nibs Z n
  es : vs = .slice a' N.length c'
  ss : SegAt w a' N
  ls : N.length ≤ 1048576

def Data (w : World) (vb : Nat → Value) (vn : Nat → Int) (vs : Nat → Value) (N : Nat → List Nat) : Prop := ∀ i, i < 5 → ∃ a Z c n a' c', Row w (vb i) (vn i) (vs i) (N i) a Z c n a' c'

theorem Row.below {w w' : World} {vb : Value} {vn : Int} {vs : Value} {N : List Nat} {a : Option Addr} {Z : List Nat} {c n : Nat} {a' : Option Addr} {c' : Nat} (h : Row w vb vn vs N a Z c n a' c') (hb : Below w.heap.size w w') : Row w' vb vn vs N a Z c n a' c' :=
  ⟨h.eb, h.sb.below hb, h.by_, h.lb, h.en, h.nb, h.eN, h.es, h.ss.below hb, h.ls⟩
theorem Data.below {w w' : World} {vb : Nat → Value} {vn : Nat → Int} {vs : Nat → Value} {N : Nat → List Nat} (h : Data w vb vn vs N) (hb : Below w.heap.size w w') : Data w' vb vn vs N := by
  intro i hi
  obtain ⟨a, Z, c, n, a', c', hr⟩ := h i hi
  exact ⟨a, Z, c, n, a', c', hr.below hb⟩
theorem Tab.below {w w' : World} {P C : Nat} {vb : Nat → Value} {vn : Nat → Int} {vs : Nat → Value} (h : Tab w P C vb vn vs) (hb : Below w.heap.size w w') : Tab w' P C vb vn vs := by
  have h1 := h.pc
  have h2 := h.cw
  refine ⟨fun i hi => (hb.cell (by show P < _; omega)).trans (h.b i hi), fun i hi => (hb.cell (by show P + 1 < _; omega)).trans (h.n i hi), fun i hi => (hb.cell (by show P + 1 + 1 < _; omega)).trans (h.s i hi), fun j hj => ?_, fun j hj => (hb.frozen (by show C < _; omega)).trans (h.f j hj), h1, Nat.lt_of_lt_of_le h2 hb.size⟩
  obtain ⟨v, hv⟩ := h.c j hj
  exact ⟨v, (hb.cell (by show C < _; omega)).trans hv⟩

/-- a store into the matrix turns neither the tables nor their rows -/
theorem Tab.store {w : World} {P C : Nat} {vb : Nat → Value} {vn : Nat → Int} {vs : Nat → Value} (h : Tab w P C vb vn vs) (k : Nat) (hk : k < 25) (r : Int) : Tab (w.setCell ⟨C, k, none⟩ (.int .i64 r)) P C vb vn vs := by
  have h1 := h.pc
  have ne : ∀ b o, b ≠ C → (w.setCell ⟨C, k, none⟩ (.int .i64 r)).cell? ⟨b, o, none⟩ = w.cell? ⟨b, o, none⟩ := fun b o hb => World.cell?_setCell_other _ _ _ _ (fun e => hb (by cases e; rfl))
  refine ⟨fun i hi => (ne _ _ (by omega)).trans (h.b i hi), fun i hi => (ne _ _ (by omega)).trans (h.n i hi), fun i hi => (ne _ _ (by omega)).trans (h.s i hi), fun j hj => ?_, fun j hj => by rw [World.frozen?_setCell]; exact h.f j hj, h1, by simpa [World.setCell] using h.cw⟩
  obtain ⟨v, hv⟩ := h.c j hj
  by_cases e : j = k
  · subst e; exact ⟨r, World.cell?_setCell_same _ _ _ hv⟩
  · exact ⟨v, (World.cell?_setCell_other _ _ _ _ (fun e2 => e (by cases e2; rfl))).trans hv⟩

/-- the matrix' cells of which R speaks -/
def Mat (w : World) (C : Nat) (N : Nat → List Nat) (R : Nat → Nat → Prop) : Prop := ∀ x y, x < 5 → y < 5 → R x y → ∃ r : Int, w.cell? ⟨C, x * 5 + y, none⟩ = some (.int .i64 r) ∧ sgn r = cmpL (N x) (N y)

theorem Mat.below {w w' : World} {C : Nat} {N : Nat → List Nat} {R : Nat → Nat → Prop} (h : Mat w C N R) (hC : C < w.heap.size) (hb : Below w.heap.size w w') : Mat w' C N R := by
  intro x y hx hy hR
  obtain ⟨r, h1, h2⟩ := h x y hx hy hR
  exact ⟨r, (hb.cell (by exact hC)).trans h1, h2⟩

theorem Mat.store {w : World} {C i j : Nat} {N : Nat → List Nat} (h : Mat w C N (fun x y => x < i ∨ (x = i ∧ y < j))) (hi : i < 5) (hj : j < 5) {old : Value} (hc : w.cell? ⟨C, i * 5 + j, none⟩ = some old) {r : Int} (hr : sgn r = cmpL (N i) (N j)) :
    Mat (w.setCell ⟨C, i * 5 + j, none⟩ (.int .i64 r)) C N (fun x y => x < i ∨ (x = i ∧ y < j + 1)) := by
  intro x y hx hy hR
  by_cases e : x = i ∧ y = j
  · obtain ⟨rfl, rfl⟩ := e
    exact ⟨r, World.cell?_setCell_same _ _ _ hc, hr⟩
  · obtain ⟨r', h1, h2⟩ := h x y hx hy (by omega)
    refine ⟨r', (World.cell?_setCell_other _ _ _ _ (fun e2 => ?_)).trans h1, h2⟩
    have : i * 5 + j = x * 5 + y := congrArg Addr.off e2
    omega

theorem zzCompareInt (A B : List Nat) (a b : Option Addr) (cap cap1 : Nat) (xa xb : Int) (na nb : Nat) (w : World) (hA : SegAt w a A) (hB : SegAt w b B) (bA : Bytes A) (bB : Bytes B) (lA : A.length ≤ 1048576) (lB : B.length ≤ 1048576)
    (nA : (na + 1) / 2 ≤ A.length) (nB : (nb + 1) / 2 ≤ B.length) (ea : xa = (na : Int)) (eb : xb = (nb : Int)) :
    Calls Try.prog 24 #[.slice a A.length cap, .int .i64 xa, .slice b B.length cap1, .int .i64 xb] w fun e w' => CmpSays A na B nb e ∧ Below w.heap.size w w' := by
  subst ea; subst eb
  exact zzComparePaths A B a b cap cap1 na nb w hA hB bA bB lA lB nA nB

/-- ZZComparePaths on two rows of the tables -/
theorem compareRows (w w0 : World) (vb1 vb2 : Value) (vn1 vn2 : Int) (vs1 vs2 : Value) (N1 N2 : List Nat) {a1 : Option Addr} {Z1 : List Nat} {c1 n1 : Nat} {a1' : Option Addr} {c1' : Nat} {a2 : Option Addr} {Z2 : List Nat} {c2 n2 : Nat} {a2' : Option Addr} {c2' : Nat}
    (h1 : Row w0 vb1 vn1 vs1 N1 a1 Z1 c1 n1 a1' c1') (h2 : Row w0 vb2 vn2 vs2 N2 a2 Z2 c2 n2 a2' c2') (hb : Below w0.heap.size w0 w) :
    Calls Try.prog 24 #[vb1, .int .i64 vn1, vb2, .int .i64 vn2] w fun e w' => (∃ r : Int, e = .returned (.int .i64 r) ∧ sgn r = cmpL N1 N2) ∧ Below w.heap.size w w' := by
  rw [h1.eb, h2.eb, h1.eN, h2.eN]
  exact zzCompareInt Z1 Z2 a1 a2 c1 c2 vn1 vn2 n1 n2 w (h1.sb.below hb) (h2.sb.below hb) h1.by_ h2.by_ h1.lb h2.lb h1.nb h2.nb h1.en h2.en

end Go.Proofs.Qxb6003407a.Cmp
