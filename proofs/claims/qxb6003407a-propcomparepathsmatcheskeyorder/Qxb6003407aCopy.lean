import Derived.Test.Qxb6003407aOut
import Derived.Lib.SliceRun
import Derived.Laws.CopyOwn
set_option linter.unusedVariables false
namespace Go.Proofs.Qxb6003407a.Cmp
open Go.ChangeShapes Go.WideShapes Go.ChangeAt Go.RowKit

theorem own_block {w : World} {B g n : Nat} {xs : List Value} (h : w.ownsRow B 5 1 (.slice (some ⟨g, 0, none⟩) n n) n xs) : ∃ cur : List Value, w.heap[g]? = some (.cells cur.toArray 5 (0, 0)) ∧ cur.length = n := by
  rcases h.2 with ⟨h', _⟩ | ⟨g', cap', cur, h', hb, hg, hnc, hcm, hcs, htake⟩
  · simp at h'
  · simp only [Value.slice.injEq, Option.some.injEq, Addr.mk.injEq, and_true, true_and] at h'
    obtain ⟨rfl, rfl⟩ := h'
    exact ⟨cur.toList, by simpa using hg, by simpa using hcs⟩

theorem seg_copied {w : World} {g : Nat} {K : List Nat} {cur : List Value} (hl : cur.length = K.length) (h : w.heap[g]? = some (.cells (splice cur 0 (K.map bv)).toArray 5 (0, 0))) : SegAt w (some ⟨g, 0, none⟩) K := by
  by_cases hK : K = []
  · exact .inl hK
  · right
    have e : splice cur 0 (K.map bv) = K.map bv := by
      unfold splice
      rw [List.drop_of_length_le (by simp; omega)]; simp
    rw [e] at h
    have hc : ∀ i, i < K.length → w.cell? ⟨g, i, none⟩ = some (.int .u8 ((K.getD i 0 : Nat) : Int)) := by
      intro i hi
      simp only [World.cell?, h]
      rw [List.getElem?_toArray, List.getElem?_map, List.getD_eq_getElem?_getD, List.getElem?_eq_getElem hi]; rfl
    refine ⟨g, 0, rfl, World.block_lt_of_cell? w ⟨g, 0, none⟩ (hc 0 (by cases K with | nil => exact absurd rfl hK | cons a t => simp)), fun i hi => ?_⟩
    rw [Nat.zero_add]; exact hc i hi

theorem copy_src {w : World} {x : Addr} {K : List Nat} (h : SegAt w (some x) K) (h0 : 0 < K.length) : ∀ j v, (K.map bv)[j]? = some v → w.cell? (x.add j) = some v := by
  rcases h with rfl | ⟨b, off, h1, h2, h3⟩
  · simp at h0
  · cases h1
    intro j v hv
    have hj : j < K.length := by
      rcases Nat.lt_or_ge j K.length with e | e
      · exact e
      · rw [List.getElem?_eq_none (by simpa using e)] at hv; cases hv
    rw [Go.WideShapes.add_plain, h3 j hj]
    rw [List.getElem?_map, List.getElem?_eq_getElem hj] at hv
    rw [← Option.some.inj hv, List.getD_eq_getElem?_getD, List.getElem?_eq_getElem hj]; rfl

theorem info5s : (Try.prog.info? 5).map (·.size) = some 1 := by kernel_rfl

/-- 'copy(zzc, k)' into a row that the call has just made, as long as k -/
theorem copy_run {w1 w0 : World} {g B : Nat} {K : List Nat} {xs : List Value} {x : Addr} (h : w0.ownsRow B 5 1 (.slice (some ⟨g, 0, none⟩) K.length K.length) K.length xs) (hK : SegAt w0 (some x) K) (c : Nat)
    {B1 : Nat} (hb : Below B1 w1 w0) (hB : B1 ≤ g) :
    ∃ w9, (Builtin.copy_ #[22, 22] 3 #[.slice (some ⟨g, 0, none⟩) K.length K.length, .slice (some x) K.length c]).run Try.prog w0 = .ok (.int .i64 (K.length : Nat)) w9 ∧ Hid (SegAt w9 (some ⟨g, 0, none⟩) K) ∧ Below B1 w1 w9 := by
  obtain ⟨cur, hg, hcl⟩ := own_block h
  by_cases hn : K.length = 0
  · obtain rfl : K = [] := List.eq_nil_of_length_eq_zero hn
    exact ⟨w0, run_copy_none (P := Try.prog) w0 22 22 3 5 _ _ 0 0 0 c Try.underlying22 info5s rfl, .inl rfl, hb⟩
  · have hsrc := copy_src hK (by omega)
    have hrun := run_copy_row (P := Try.prog) w0 22 22 3 5 g 0 K.length K.length x K.length c cur.toArray 5 (K.map bv) Try.underlying22 info5s hg (by simp) hsrc (by simp; omega) (by intro v hv; obtain ⟨y, _, rfl⟩ := List.mem_map.1 hv; rfl)
    have e : (cur.toArray.toList.take 0 ++ K.map bv ++ cur.toArray.toList.drop (0 + (K.map bv).length)) = splice cur 0 (K.map bv) := by
      unfold splice; simp
    rw [e] at hrun
    refine ⟨w0.setRow g (splice cur 0 (K.map bv)).toArray, ?_, seg_copied hcl (setRow_heap w0 g _ _ 5 _ hg), below_setRow hb hB _⟩
    rw [hrun, List.length_map]; rfl

end Go.Proofs.Qxb6003407a.Cmp
