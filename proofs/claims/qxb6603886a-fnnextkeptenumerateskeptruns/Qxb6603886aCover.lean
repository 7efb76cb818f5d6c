import Derived.Test.Qxb6603886aMake
set_option linter.unusedVariables false
namespace Go.Proofs.Qxb6603886a.Kept
open Go.ChangeShapes Go.WideShapes Go.ChangeAt Go.RowKit

/-- what blocksCover answers -/
def CoverSays (Z B : List Nat) (e : Ending) : Prop := ∃ c : Bool, e = .returned (.bool c) ∧ (c = true → Cover Z B)
theorem coverSays_no (Z B : List Nat) : CoverSays Z B (.returned (.bool false)) := ⟨false, rfl, fun h => by cases h⟩
theorem coverSays_yes {Z B : List Nat} (h : Cover Z B) : CoverSays Z B (.returned (.bool true)) := ⟨true, rfl, fun _ => h⟩

theorem runMask_quiet (Z : List Nat) (a : Option Addr) (cap : Nat) (k : Int) (w : World) (n x : Nat) (hZ : SegAt w a Z) (hl : Z.length ≤ 1048576) (k0 : 0 ≤ k) (k1 : k < Z.length) :
    Calls Try.prog 20 #[.slice a Z.length cap, .int .i64 k] (w.drewN (n + x)) fun e w'' => e = .returned (.int .u64 ((rm Z k.toNat : Nat) : Int)) ∧ ∃ m, w'' = w.drewN (n + m) :=
  (runMask Z a cap k (w.drewN (n + x)) hZ.drewN hl k0 k1).mono fun e w' h => ⟨h.1, x, h.2.symm⟩

/-- the runs below k are covered -/
def CoverTo (Z B : List Nat) (m : Nat) : Prop := ∀ k, k < m → k / 64 < B.length ∧ ∀ t, (rm Z k).testBit t = true → (B.getD (k / 64) 0).testBit t = true
theorem CoverTo.next {Z B : List Nat} {m : Nat} (h : CoverTo Z B m) (h1 : m / 64 < B.length) (h2 : ∀ t, (rm Z m).testBit t = true → (B.getD (m / 64) 0).testBit t = true) : CoverTo Z B (m + 1) := by
  intro k hk
  by_cases e : k = m
  · subst e; exact ⟨h1, h2⟩
  · exact h k (by omega)

set_option maxHeartbeats 1000000 in
theorem blocksCover (Z B : List Nat) (a a1 : Option Addr) (cap cap1 : Nat) (w : World) (hZ : SegAt w a Z) (hB : SegAt w a1 B) (wZ : Words Z) (wB : Words B) (hl : Z.length ≤ 65536) (hlB : B.length ≤ 65536) :
    Calls Try.prog 15 #[.slice a Z.length cap, .slice a1 B.length cap1] w fun e w' => CoverSays Z B e ∧ ∃ n, w' = w.drewN n := by
  have HZ : Hid _ := hZ
  have HB : Hid _ := hB
  clear hZ hB
  go_enter Try.func15, Try.ntmps15
  go_wp2
  go_loopw [6] (fun kv wr => ∃ k : Nat, k ≤ Z.length ∧ kv = .int .i64 k ∧ Hid (CoverTo Z B k) ∧ ∃ n, wr = w.drewN n) (fun kv _ => Z.length - (intOf kv).toNat)
  case atStart => exact ⟨0, Nat.zero_le _, rfl, fun k hk => absurd hk (by omega), 0, rfl⟩
  case round =>
    obtain ⟨k, hk, rfl, Hc, n, rfl⟩ := hrel
    by_cases hlt : k < Z.length
    · by_cases hb : k / 64 < B.length
      · obtain ⟨b, off, rfl, hb2, hcw⟩ : ∃ b off, a1 = some ⟨b, off, none⟩ ∧ b < w.heap.size ∧ ∀ i, i < B.length → w.cell? ⟨b, off + i, none⟩ = some (.int .u64 ((B.getD i 0 : Nat) : Int)) := by
          rcases HB.out with e | e
          · rw [e] at hb; simp at hb
          · exact e
        obtain ⟨bw, hcell, Hbw⟩ : ∃ bw : Nat, w.cell? ⟨b, off + k / 64, none⟩ = some (.int .u64 (bw : Int)) ∧ Hid (bw < 18446744073709551616 ∧ bw = B.getD (k / 64) 0) :=
          ⟨_, hcw (k / 64) hb, wB _, rfl⟩
        clear hcw
        have ix : (0 : Int) ≤ (k : Int) / 64 ∧ (k : Int) / 64 < B.length := by omega
        have ix2 : (k : Int) / 64 < B.length := by omega
        go_wp2
        go_quiet ((go_at_call 20; exact runMask_quiet Z a cap _ w n _ HZ.out (by omega) (by omega) (by omega)))
        go_wp2
        · go_ret
          exact ⟨coverSays_no Z B, n + nq, World.drewN_drewN _ _ _⟩
        · have hz := ‹(bits BinOp.andNot IntKind.u64 ((rm Z k : Nat) : Int) (bw : Int) != 0) = false›
          go_roundw
          case rel =>
            refine ⟨k + 1, by omega, by go_num, CoverTo.next Hc.out hb fun t ht => ?_, _, rfl⟩
            rw [← Hbw.out.2]
            exact andNot_u64 _ _ (wZ _) Hbw.out.1 hz t ht
          case measure => simp [intOf]; omega
      · have ix : (B.length : Int) ≤ (k : Int) / 64 := by omega
        go_wp2
        go_ret
        exact ⟨coverSays_no Z B, _, rfl⟩
    · go_wp2
      go_ret
      refine ⟨coverSays_yes fun t ht => Hc.out t (by omega), _, rfl⟩

/-- a slice of words that came in, as all walks ask it -/
theorem view {w : World} {a : Option Addr} {len cap : Nat} {zs : List Int}
    (h : (a = none ∧ len = 0 ∧ cap = 0 ∧ zs = []) ∨
      ∃ x, a = some x ∧ len ≤ cap ∧ cap ≤ maxLen ∧ zs.length = cap ∧ (∀ i, i < zs.length → w.cell? (x.add i) = some (.int .u64 (zs.getD i 0))) ∧ ∀ n ∈ zs, (Lit.int .u64 n).wf = true) :
    len ≤ maxLen ∧ ∃ Z : List Nat, Z.length = len ∧ SegAt w a Z ∧ Words Z ∧ (a = none → Z = [] ∧ cap = 0) := by
  rcases h with ⟨rfl, rfl, rfl, rfl⟩ | ⟨x, rfl, h1, h2, h3, h4, h5⟩
  · exact ⟨by unfold maxLen; omega, [], rfl, .inl rfl, fun i => by simp, fun _ => ⟨rfl, rfl⟩⟩
  · have hr := range_u64 h5
    have hg : ∀ i, i < len → ((((zs.take len).map Int.toNat).getD i 0 : Nat) : Int) = zs.getD i 0 := by
      intro i hi
      have := hr i
      rw [List.getD_eq_getElem?_getD, List.getElem?_map, List.getElem?_take, if_pos hi, List.getD_eq_getElem?_getD]
      rw [List.getElem?_eq_getElem (show i < zs.length by omega)] at this ⊢
      simp at this ⊢
      omega
    have hlen : ((zs.take len).map Int.toNat).length = len := by simp; omega
    refine ⟨by omega, (zs.take len).map Int.toNat, hlen, ?_, ?_, fun e => by cases e⟩
    · by_cases e : len = 0
      · left; rw [e]; rfl
      · right
        obtain ⟨b, off, rfl, hc⟩ := ints_at h4 (by omega)
        refine ⟨b, off, rfl, World.block_lt_of_cell? _ _ (hc 0 (by omega)), fun i hi => ?_⟩
        rw [hc i (by omega), hg i (by omega)]
    · intro i
      by_cases hi : i < len
      · have h6 := hg i hi
        have h7 := hr i
        rw [← List.getD_eq_getElem?_getD] at h7
        omega
      · rw [List.getD_eq_getElem?_getD, List.getElem?_eq_none (by omega)]; simp

end Go.Proofs.Qxb6603886a.Kept
