import Derived.Test.Qxb6003407aLaw
import Derived.OpenShut
set_option linter.unusedVariables false
namespace Go.Proofs.Qxb6003407a.Cmp
open Go.ChangeShapes Go.WideShapes Go.ChangeAt Go.RowKit

/-- a slice of bytes that came in, as all walks ask it -/
theorem view {w : World} {a : Option Addr} {len cap : Nat} {zs : List Int}
    (h : (a = none ∧ len = 0 ∧ cap = 0 ∧ zs = []) ∨
      ∃ x, a = some x ∧ len ≤ cap ∧ cap ≤ maxLen ∧ zs.length = cap ∧ (∀ i, i < zs.length → w.cell? (x.add i) = some (.int .u8 (zs.getD i 0))) ∧ ∀ n ∈ zs, (Lit.int .u8 n).wf = true) :
    len ≤ maxLen ∧ ∃ Z : List Nat, Z.length = len ∧ SegAt w a Z ∧ Bytes Z ∧ (a = none → Z = [] ∧ cap = 0) := by
  rcases h with ⟨rfl, rfl, rfl, rfl⟩ | ⟨x, rfl, h1, h2, h3, h4, h5⟩
  · exact ⟨by unfold maxLen; omega, [], rfl, .inl rfl, fun i => by simp, fun _ => ⟨rfl, rfl⟩⟩
  · have hr := range_u8 h5
    have hg : ∀ i, i < len → ((((zs.take len).map Int.toNat).getD i 0 : Nat) : Int) = zs.getD i 0 := by
      intro i hi
      have := hr i
      rw [List.getD_eq_getElem?_getD, List.getElem?_map, List.getElem?_take, if_pos hi, List.getD_eq_getElem?_getD]
      rw [List.getElem?_eq_getElem (show i < zs.length by omega)] at this ⊢
      simp at this ⊢
      omega
    have hlen : ((zs.take len).map Int.toNat).length = len := by simp; omega
    refine ⟨by omega, (zs.take len).map Int.toNat, hlen, ?_, ?_, fun e => by cases e⟩
    · by_cases e : len = 0
      · left; rw [e]; rfl
      · right
        obtain ⟨b, off, rfl, hc⟩ := ints_at h4 (by omega)
        refine ⟨b, off, rfl, World.block_lt_of_cell? _ _ (hc 0 (by omega)), fun i hi => ?_⟩
        rw [hc i (by omega), hg i (by omega)]
    · intro i
      by_cases hi : i < len
      · have h6 := hg i hi
        have h7 := hr i
        rw [← List.getD_eq_getElem?_getD] at h7
        omega
      · rw [List.getD_eq_getElem?_getD, List.getElem?_eq_none (by omega)]; simp


theorem law (a0 : Option Addr) (len0 cap0 : Nat) (z0 : List Int) (a1 : Option Addr) (len1 cap1 : Nat) (z1 : List Int) (a2 : Option Addr) (len2 cap2 : Nat) (z2 : List Int) (a3 : Option Addr) (len3 cap3 : Nat) (z3 : List Int) (a4 : Option Addr) (len4 cap4 : Nat) (z4 : List Int) (a5 : Option Addr) (len5 cap5 : Nat) (z5 : List Int) (a6 : Option Addr) (len6 cap6 : Nat) (z6 : List Int) (a7 : Option Addr) (len7 cap7 : Nat) (z7 : List Int) (w : World)
    (w0 : ((a0 = none ∧ len0 = 0 ∧ cap0 = 0 ∧ z0 = []) ∨ ∃ x, a0 = some x ∧ len0 ≤ cap0 ∧ cap0 ≤ maxLen ∧ z0.length = cap0 ∧ (∀ j, j < z0.length → w.cell? (x.add j) = some (.int .u8 (z0.getD j 0))) ∧ ∀ n ∈ z0, (Lit.int .u8 n).wf = true)) (w1 : ((a1 = none ∧ len1 = 0 ∧ cap1 = 0 ∧ z1 = []) ∨ ∃ x, a1 = some x ∧ len1 ≤ cap1 ∧ cap1 ≤ maxLen ∧ z1.length = cap1 ∧ (∀ j, j < z1.length → w.cell? (x.add j) = some (.int .u8 (z1.getD j 0))) ∧ ∀ n ∈ z1, (Lit.int .u8 n).wf = true)) (w2 : ((a2 = none ∧ len2 = 0 ∧ cap2 = 0 ∧ z2 = []) ∨ ∃ x, a2 = some x ∧ len2 ≤ cap2 ∧ cap2 ≤ maxLen ∧ z2.length = cap2 ∧ (∀ j, j < z2.length → w.cell? (x.add j) = some (.int .u8 (z2.getD j 0))) ∧ ∀ n ∈ z2, (Lit.int .u8 n).wf = true)) (w3 : ((a3 = none ∧ len3 = 0 ∧ cap3 = 0 ∧ z3 = []) ∨ ∃ x, a3 = some x ∧ len3 ≤ cap3 ∧ cap3 ≤ maxLen ∧ z3.length = cap3 ∧ (∀ j, j < z3.length → w.cell? (x.add j) = some (.int .u8 (z3.getD j 0))) ∧ ∀ n ∈ z3, (Lit.int .u8 n).wf = true)) (w4 : ((a4 = none ∧ len4 = 0 ∧ cap4 = 0 ∧ z4 = []) ∨ ∃ x, a4 = some x ∧ len4 ≤ cap4 ∧ cap4 ≤ maxLen ∧ z4.length = cap4 ∧ (∀ j, j < z4.length → w.cell? (x.add j) = some (.int .u8 (z4.getD j 0))) ∧ ∀ n ∈ z4, (Lit.int .u8 n).wf = true)) (w5 : ((a5 = none ∧ len5 = 0 ∧ cap5 = 0 ∧ z5 = []) ∨ ∃ x, a5 = some x ∧ len5 ≤ cap5 ∧ cap5 ≤ maxLen ∧ z5.length = cap5 ∧ (∀ j, j < z5.length → w.cell? (x.add j) = some (.int .u8 (z5.getD j 0))) ∧ ∀ n ∈ z5, (Lit.int .u8 n).wf = true)) (w6 : ((a6 = none ∧ len6 = 0 ∧ cap6 = 0 ∧ z6 = []) ∨ ∃ x, a6 = some x ∧ len6 ≤ cap6 ∧ cap6 ≤ maxLen ∧ z6.length = cap6 ∧ (∀ j, j < z6.length → w.cell? (x.add j) = some (.int .u8 (z6.getD j 0))) ∧ ∀ n ∈ z6, (Lit.int .u8 n).wf = true)) (w7 : ((a7 = none ∧ len7 = 0 ∧ cap7 = 0 ∧ z7 = []) ∨ ∃ x, a7 = some x ∧ len7 ≤ cap7 ∧ cap7 ≤ maxLen ∧ z7.length = cap7 ∧ (∀ j, j < z7.length → w.cell? (x.add j) = some (.int .u8 (z7.getD j 0))) ∧ ∀ n ∈ z7, (Lit.int .u8 n).wf = true)) :
    Calls Try.prog 4 #[.slice a0 len0 cap0, .slice a1 len1 cap1, .slice a2 len2 cap2, .slice a3 len3 cap3, .slice a4 len4 cap4, .slice a5 len5 cap5, .slice a6 len6 cap6, .slice a7 len7 cap7] w fun e w' => e = .returned (.bool true) ∧ Below w.heap.size w w' := by
  obtain ⟨_, Z0, rfl, s0, b0, n0⟩ := view w0
  obtain ⟨_, Z1, rfl, s1, b1, n1⟩ := view w1
  obtain ⟨_, Z2, rfl, s2, b2, n2⟩ := view w2
  obtain ⟨_, Z3, rfl, s3, b3, n3⟩ := view w3
  obtain ⟨_, Z4, rfl, s4, b4, n4⟩ := view w4
  obtain ⟨_, Z5, rfl, s5, b5, n5⟩ := view w5
  obtain ⟨_, Z6, rfl, s6, b6, n6⟩ := view w6
  obtain ⟨_, Z7, rfl, s7, b7, n7⟩ := view w7
  exact law8 Z0 Z1 Z2 Z3 Z4 Z5 Z6 Z7 a0 a1 a2 a3 a4 a5 a6 a7 cap0 cap1 cap2 cap3 cap4 cap5 cap6 cap7 w s0 s1 s2 s3 s4 s5 s6 s7 b0 b1 b2 b3 b4 b5 b6 b7 n0 n1
end Go.Proofs.Qxb6003407a.Cmp
