import Derived.Test.Qxb6603886aKeep
import Derived.Lib.SliceRun
set_option linter.unusedVariables false
namespace Go.Proofs.Qxb6603886a.Kept
open Go.ChangeShapes Go.WideShapes Go.ChangeAt Go.RowKit

theorem Try.info33 : (Try.prog.info? 33).map (fun i => (i.zero, i.size, i.bytes)) = some (some (.int .u64 0), 1, 8) := by kernel_rfl
theorem Try.info39 : (Try.prog.info? 39).map (fun i => (i.zero, i.size, i.bytes)) = some (some (.agg #[.int .u64 0, .int .u16 0, .int .u16 0, .int .u16 0, .int .u8 0, .int .i32 0]), 6, 24) := by kernel_rfl

def uv (n : Nat) : Value := .int .u64 (n : Int)

/-- the first k of the cells 'xs', each 'size' cells apart, hold the first k of Z -/
def Filled (xs : List Value) (Z : List Nat) (size k : Nat) : Prop := ∀ i, i < k → xs[i * size]? = some (uv (Z.getD i 0))

theorem Filled.next {xs : List Value} {Z : List Nat} {size k : Nat} (h : Filled xs Z size k) (hs : 0 < size) (hk : k * size < xs.length) : Filled (xs.set (k * size) (uv (Z.getD k 0))) Z size (k + 1) := by
  intro i hi
  by_cases e : i = k
  · subst e; rw [List.getElem?_set_self hk]
  · rw [List.getElem?_set_ne]
    · exact h i (by omega)
    · intro e2
      exact e (Nat.eq_of_mul_eq_mul_right hs e2.symm)

theorem seg_of_own {w : World} {B g n : Nat} {Z : List Nat} {xs : List Value} (h : w.ownsRow B 33 1 (.slice (some ⟨g, 0, none⟩) Z.length n) Z.length xs) (hf : Filled xs Z 1 Z.length) : SegAt w (some ⟨g, 0, none⟩) Z := by
  right
  refine ⟨g, 0, rfl, (h.lt g rfl).2, fun i hi => ?_⟩
  have := h.cellAt i (by omega)
  rw [Nat.zero_add, this]
  have f := hf i hi
  rw [Nat.mul_one] at f
  exact f

set_option maxHeartbeats 1000000 in
theorem copyWords_full (Z : List Nat) (b off cap : Nat) (w : World) (hb : b < w.heap.size) (hc : ∀ i, i < Z.length → w.cell? ⟨b, off + i, none⟩ = some (.int .u64 ((Z.getD i 0 : Nat) : Int))) (hl : Z.length ≤ 1048576) :
    Calls Try.prog 16 #[.slice (some ⟨b, off, none⟩) Z.length cap] w fun e w' => e = .returned (.slice (some ⟨w.heap.size, 0, none⟩) Z.length Z.length) ∧ SegAt w' (some ⟨w.heap.size, 0, none⟩) Z ∧ Below w.heap.size w w' := by
  obtain ⟨i0, hi, hz0, hz1, hz2⟩ := info_parts Try.info33
  have hnil := fun wx => Lib.run_eql_slice_nil (P := Try.prog) wx 25 33 (some ⟨b, off, none⟩) Z.length cap 0 0 Try.underlying25
  have Hc : Hid _ := hc
  clear hc
  go_enter Try.func16, Try.ntmps16
  go_wp2_with (first
    | (at_make; refine wpList_make_full _ rfl _ _ 25 rfl w.heap.size 33 i0 (.int .u64 0) 1 Try.underlying25 hi hz0 hz1 .i64 .i64 _ _ Z.length rfl rfl (by omega) (by omega) (by rw [hz2]; omega) (by unfold maxLen; omega) (Nat.le_refl _) ?_; intro w0 hown0 hgrow0))
  go_loopw [4] (fun kv wr => ∃ (k : Nat) (xs : List Value), k ≤ Z.length ∧ kv = .int .i64 k ∧ wr.ownsRow w.heap.size 33 1 (.slice (some ⟨w.heap.size, 0, none⟩) Z.length Z.length) Z.length xs ∧ Below w.heap.size w wr ∧ Hid (Filled xs Z 1 k))
    (fun kv _ => Z.length - (intOf kv).toNat)
  case atStart => exact ⟨0, _, by omega, by go_num, hown0, (Below.refl _ _).grown hgrow0 (Nat.le_refl _) (fun k h => by cases h), fun i hi => absurd hi (by omega)⟩
  case round =>
    obtain ⟨k, xs, hk, rfl, hown, hnx, Hf⟩ := hrel
    by_cases hlt : k < Z.length
    · obtain ⟨m, hcx, Hm⟩ : ∃ m : Nat, wr.cell? ⟨b, off + k, none⟩ = some (.int .u64 (m : Int)) ∧ Hid (m = Z.getD k 0) := ⟨_, (hnx.cell (by exact hb)).trans (Hc.out k hlt), rfl⟩
      have hfz : wr.frozen? ⟨w.heap.size, k, none⟩ = false := hown.frozenAt k
      obtain ⟨old, hold⟩ : ∃ old, wr.cell? ⟨w.heap.size, k, none⟩ = some old := by
        rw [hown.cellAt k (by omega)]
        exact ⟨_, List.getElem?_eq_getElem (by rw [hown.1]; omega)⟩
      have Hst : Hid _ := hown.stored k (uv m)
      have Hlen : Hid _ := hown.1
      have Hsz := hnx.size
      go_wp2
      go_roundw
      case rel =>
        have F := Filled.next Hf.out (by decide) (by rw [Hlen.out]; omega)
        rw [← Hm.out, Nat.mul_one] at F
        exact ⟨k + 1, xs.set k (uv m), by omega, by go_num, Hst.out.1, hnx.grown Hst.out.2 Hsz (fun j hj => by cases hj; exact Nat.le_refl _), F⟩
      case measure => simp [intOf]; omega
    · have hkz : Hid (k = Z.length) := by show k = Z.length; omega
      have Hown : Hid _ := hown
      clear hown
      go_wp2
      go_ret
      exact ⟨rfl, seg_of_own Hown.out (by have := Hf.out; rw [hkz.out] at this; exact this), hnx⟩

set_option maxHeartbeats 400000 in
theorem copyWords_nil (w : World) :
    Calls Try.prog 16 #[.slice none 0 0] w fun e w' => e = .returned (.slice none 0 0) ∧ w = w' := by
  have hnil := fun wx => Lib.run_eql_slice_nil (P := Try.prog) wx 25 33 none 0 0 0 0 Try.underlying25
  go_enter Try.func16, Try.ntmps16
  go_wp2
  go_ret
  exact ⟨rfl, rfl⟩

set_option maxHeartbeats 400000 in
theorem copyWords_empty (x : Addr) (cap : Nat) (w : World) :
    Calls Try.prog 16 #[.slice (some x) 0 cap] w fun e w' => e = .returned (.slice (some ⟨w.heap.size, 0, none⟩) 0 0) ∧ Below w.heap.size w w' := by
  obtain ⟨i0, hi, hz0, hz1, hz2⟩ := info_parts Try.info33
  have hnil := fun wx => Lib.run_eql_slice_nil (P := Try.prog) wx 25 33 (some x) 0 cap 0 0 Try.underlying25
  go_enter Try.func16, Try.ntmps16
  go_wp2_with (first
    | (at_make; refine wpList_make_full _ rfl _ _ 25 rfl w.heap.size 33 i0 (.int .u64 0) 1 Try.underlying25 hi hz0 hz1 .i64 .i64 _ _ 0 rfl rfl (by omega) (by omega) (by rw [hz2]; omega) (by unfold maxLen; omega) (Nat.le_refl _) ?_; intro w0 hown0 hgrow0))
  refine wp_loop_rounds 1 ?_
  rw [rounds_succ]
  go_wp2
  go_ret
  exact ⟨rfl, (Below.refl _ _).grown hgrow0 (Nat.le_refl _) (fun k h => by cases h)⟩

/-- copyWords, whatever slice that came in: what it gives back holds the same words, in new memory -/
theorem copyWords (Z : List Nat) (a : Option Addr) (cap : Nat) (w : World) (hn : a = none → Z = [] ∧ cap = 0) (hZ : SegAt w a Z) (hl : Z.length ≤ 1048576) :
    Calls Try.prog 16 #[.slice a Z.length cap] w fun e w' => ∃ a' cap', e = .returned (.slice a' Z.length cap') ∧ SegAt w' a' Z ∧ Below w.heap.size w w' := by
  cases a with
  | none =>
    obtain ⟨rfl, rfl⟩ := hn rfl
    refine (copyWords_nil w).mono ?_
    rintro e w' ⟨rfl, rfl⟩
    exact ⟨none, 0, rfl, .inl rfl, Below.refl _ _⟩
  | some x =>
    rcases hZ with rfl | ⟨b, off, h1, h2, h3⟩
    · refine (copyWords_empty x cap w).mono ?_
      rintro e w' ⟨rfl, hb⟩
      exact ⟨_, 0, rfl, .inl rfl, hb⟩
    · cases h1
      refine (copyWords_full Z b off cap w h2 h3 hl).mono ?_
      rintro e w' ⟨rfl, hs, hb⟩
      exact ⟨_, _, rfl, hs, hb⟩

/-- a path has been laid in new memory -/
def Laid (w : World) (e : Ending) (w' : World) (Z : List Nat) (a1 : Option Addr) (B : List Nat) (cap1 : Nat) : Prop :=
  ∃ P K, e = .returned (.pointer (some ⟨P, 0, none⟩)) ∧ Path w' P K Z a1 B cap1 ∧ Below w.heap.size w w'

theorem path_made {w wr : World} {Z B : List Nat} {xs : List Value} {a1 : Option Addr} {cap1 : Nat} (hown : wr.ownsRow w.heap.size 39 6 (.slice (some ⟨w.heap.size, 0, none⟩) Z.length Z.length) Z.length xs)
    (hf : Filled xs Z 6 Z.length) (hB : SegAt w a1 B) (hnx : Below w.heap.size w wr) :
    Path (wr.alloc (.cells #[.string ⟨#[]⟩, .int .u8 0, .string ⟨#[]⟩, .bool false, .bool false, .bool false, .int .u64 0, .int .u64 0, .slice none 0 0, .slice (some ⟨w.heap.size, 0, none⟩) Z.length Z.length,
      .slice none 0 0, .slice a1 B.length cap1, .slice none 0 0, .int .u64 0, .slice none 0 0, .pointer none] 46)) wr.heap.size w.heap.size Z a1 B cap1 := by
  have hg := (hown.lt w.heap.size rfl).2
  refine ⟨by simp, by simp; omega, by simp, by simp, fun i hi => ?_, hB.below (hnx.alloc hnx.size _)⟩
  have := hown.cellAt (i * 6) (by omega)
  rw [hf i hi] at this
  rw [World.cell?_alloc_past _ _ _ (by exact hg)]
  exact this

set_option maxHeartbeats 1000000 in
theorem makePath_full (Z B : List Nat) (b off cap cap1 : Nat) (a1 : Option Addr) (w : World) (hb : b < w.heap.size) (hc : ∀ i, i < Z.length → w.cell? ⟨b, off + i, none⟩ = some (.int .u64 ((Z.getD i 0 : Nat) : Int)))
    (hB : SegAt w a1 B) (hl : Z.length ≤ 1048576) :
    Calls Try.prog 17 #[.slice (some ⟨b, off, none⟩) Z.length cap, .slice a1 B.length cap1] w fun e w' => Laid w e w' Z a1 B cap1 := by
  obtain ⟨i0, hi, hz0, hz1, hz2⟩ := info_parts Try.info39
  have Hc : Hid _ := hc
  clear hc
  go_enter Try.func17, Try.ntmps17
  go_wp2_with (first
    | (at_make; refine wpList_make_full _ rfl _ _ 36 rfl w.heap.size 39 i0 (.agg #[.int .u64 0, .int .u16 0, .int .u16 0, .int .u16 0, .int .u8 0, .int .i32 0]) 6 Try.underlying36 hi hz0 hz1 .i64 .i64 _ _ Z.length rfl rfl (by omega) (by omega) (by rw [hz2]; omega) (by unfold maxLen; omega) (Nat.le_refl _) ?_; intro w0 hown0 hgrow0))
  go_loopw [6] (fun kv wr => ∃ (k : Nat) (xs : List Value), k ≤ Z.length ∧ kv = .int .i64 k ∧ wr.ownsRow w.heap.size 39 6 (.slice (some ⟨w.heap.size, 0, none⟩) Z.length Z.length) Z.length xs ∧ Below w.heap.size w wr ∧ Hid (Filled xs Z 6 k))
    (fun kv _ => Z.length - (intOf kv).toNat)
  case atStart => exact ⟨0, _, by omega, by go_num, hown0, (Below.refl _ _).grown hgrow0 (Nat.le_refl _) (fun k h => by cases h), fun i hi => absurd hi (by omega)⟩
  case round =>
    obtain ⟨k, xs, hk, rfl, hown, hnx, Hf⟩ := hrel
    by_cases hlt : k < Z.length
    · obtain ⟨m, hcx, Hm⟩ : ∃ m : Nat, wr.cell? ⟨b, off + k, none⟩ = some (.int .u64 (m : Int)) ∧ Hid (m = Z.getD k 0) := ⟨_, (hnx.cell (by exact hb)).trans (Hc.out k hlt), rfl⟩
      have hfz : wr.frozen? ⟨w.heap.size, k * 6, none⟩ = false := hown.frozenAt (k * 6)
      obtain ⟨old, hold⟩ : ∃ old, wr.cell? ⟨w.heap.size, k * 6, none⟩ = some old := by
        rw [hown.cellAt (k * 6) (by omega)]
        exact ⟨_, List.getElem?_eq_getElem (by rw [hown.1]; omega)⟩
      have Hst : Hid _ := hown.stored (k * 6) (uv m)
      have Hlen : Hid _ := hown.1
      have Hsz := hnx.size
      go_wp2
      go_roundw
      case rel =>
        have F := Filled.next Hf.out (by decide) (by rw [Hlen.out]; omega)
        rw [← Hm.out] at F
        exact ⟨k + 1, xs.set (k * 6) (uv m), by omega, by go_num, Hst.out.1, hnx.grown Hst.out.2 Hsz (fun j hj => by cases hj; exact Nat.le_refl _), F⟩
      case measure => simp [intOf]; omega
    · have hkz : Hid (k = Z.length) := by show k = Z.length; omega
      have Hown : Hid _ := hown
      clear hown
      have Hsz := hnx.size
      go_wp2
      go_ret
      exact ⟨wr.heap.size, w.heap.size, rfl, path_made Hown.out (by have := Hf.out; rw [hkz.out] at this; exact this) hB hnx, hnx.alloc Hsz _⟩

set_option maxHeartbeats 1000000 in
theorem makePath_empty (B : List Nat) (a : Option Addr) (cap cap1 : Nat) (a1 : Option Addr) (w : World) (hB : SegAt w a1 B) :
    Calls Try.prog 17 #[.slice a 0 cap, .slice a1 B.length cap1] w fun e w' => Laid w e w' [] a1 B cap1 := by
  obtain ⟨i0, hi, hz0, hz1, hz2⟩ := info_parts Try.info39
  go_enter Try.func17, Try.ntmps17
  go_wp2_with (first
    | (at_make; refine wpList_make_full _ rfl _ _ 36 rfl w.heap.size 39 i0 (.agg #[.int .u64 0, .int .u16 0, .int .u16 0, .int .u16 0, .int .u8 0, .int .i32 0]) 6 Try.underlying36 hi hz0 hz1 .i64 .i64 _ _ 0 rfl rfl (by omega) (by omega) (by rw [hz2]; omega) (by unfold maxLen; omega) (Nat.le_refl _) ?_; intro w0 hown0 hgrow0))
  refine wp_loop_rounds 1 ?_
  rw [rounds_succ]
  have hnx : Below w.heap.size w w0 := (Below.refl _ _).grown hgrow0 (Nat.le_refl _) (fun k h => by cases h)
  have Hsz := hnx.size
  have HP : Hid _ := path_made (Z := []) (cap1 := cap1) hown0 (fun i hi => absurd hi (by simp)) hB hnx
  clear hown0
  go_wp2
  go_ret
  exact ⟨w0.heap.size, w.heap.size, rfl, HP.out, hnx.alloc Hsz _⟩

/-- ZZMakeRequestPath: the path that it lays holds the masks as its runs' masks, and the blocks' words -/
theorem makePath (Z B : List Nat) (a a1 : Option Addr) (cap cap1 : Nat) (w : World) (hZ : SegAt w a Z) (hB : SegAt w a1 B) (hl : Z.length ≤ 1048576) :
    Calls Try.prog 17 #[.slice a Z.length cap, .slice a1 B.length cap1] w fun e w' => Laid w e w' Z a1 B cap1 := by
  rcases hZ with rfl | ⟨b, off, rfl, h2, h3⟩
  · exact makePath_empty B a cap cap1 a1 w hB
  · exact makePath_full Z B b off cap cap1 a1 w h2 h3 hB hl

set_option maxHeartbeats 400000 in
theorem zzNextKept (P K cap1 : Nat) (Z B : List Nat) (a1 : Option Addr) (i slot : Int) (w : World) (hp : Path w P K Z a1 B cap1) (hZ : Words Z) (hB : Words B) (hl : Z.length ≤ 65536) (hlB : B.length ≤ 65536)
    (hc : Cover Z B) (i0 : 0 ≤ i) (i1 : i ≤ 9223372036854775807) (s0 : 0 ≤ slot) (s1 : slot ≤ 9223372036854775807) :
    Calls Try.prog 18 #[.pointer (some ⟨P, 0, none⟩), .int .i64 i, .int .i64 slot] w fun e w' => ∃ r : Int, e = .returned (.int .i64 r) ∧ First Z slot.toNat i.toNat r ∧ ∃ nq, w' = w.drewN nq := by
  obtain ⟨m, rfl⟩ := Int.eq_ofNat_of_zero_le i0
  obtain ⟨s, rfl⟩ := Int.eq_ofNat_of_zero_le s0
  rw [Int.toNat_natCast, Int.toNat_natCast]
  go_enter Try.func18, Try.ntmps18
  go_wp2_with fail
  refine (nextKept P K cap1 Z B a1 m s _ hp hZ hB hl hlB hc (by omega) (by omega)).mono ?_
  rintro e w' ⟨r, rfl, hr, nq, rfl⟩
  have Hr : Hid _ := hr
  clear hr
  go_wp2
  go_ret
  exact ⟨r, rfl, Hr.out, nq, rfl⟩

end Go.Proofs.Qxb6603886a.Kept
