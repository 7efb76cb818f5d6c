import Derived.Test.Qxb6603886aRows
import Derived.Test.Qxb6603886aKeptPlain
import Derived.Test.Qxb6603886aBits
import Derived.WalkKit
import Derived.WalkSpells
import Derived.ProofKit
import Derived.OpenShut
import Derived.Deep.QuietTactic
import Derived.BigQuiet
set_option linter.unusedVariables false
namespace Go.Proofs.Qxb6603886a.Kept
open Go.ChangeShapes Go.WideShapes Go.ChangeAt Go.RowKit

/-- every mask is a 64-bit word -/
def Words (Z : List Nat) : Prop := ∀ i, Z.getD i 0 < 18446744073709551616

/-- the cells behind the head 'a' hold the numbers Z -/
def SegAt (w : World) (a : Option Addr) (Z : List Nat) : Prop :=
  Z = [] ∨ ∃ b off, a = some ⟨b, off, none⟩ ∧ b < w.heap.size ∧ ∀ i, i < Z.length → w.cell? ⟨b, off + i, none⟩ = some (.int .u64 ((Z.getD i 0 : Nat) : Int))

theorem SegAt.below {w w' : World} {a : Option Addr} {Z : List Nat} (h : SegAt w a Z) (hb : Below w.heap.size w w') : SegAt w' a Z := by
  rcases h with h | ⟨b, off, h1, h2, h3⟩
  · exact .inl h
  · exact .inr ⟨b, off, h1, Nat.lt_of_lt_of_le h2 hb.size, fun i hi => (hb.cell (p := ⟨b, off + i, none⟩) h2).trans (h3 i hi)⟩
theorem SegAt.drewN {w : World} {n : Nat} {a : Option Addr} {Z : List Nat} (h : SegAt w a Z) : SegAt (w.drewN n) a Z := h

set_option maxHeartbeats 400000 in
theorem keepsSlot (m : Nat) (k : Int) (w : World) (hm : m < 18446744073709551616) (k0 : 0 ≤ k) (k1 : k ≤ 9223372036854775807) :
    Calls Try.prog 19 #[.int .u64 (m : Int), .int .i64 k] w fun e w' => e = .returned (.bool (m.testBit k.toNat)) ∧ w = w' := by
  go_enter Try.func19, Try.ntmps19
  go_wp2
  go_ret
  exact ⟨congrArg (fun b => Ending.returned (.bool b)) (shr_test m k.toNat hm), rfl⟩

set_option maxHeartbeats 400000 in
theorem runMask (Z : List Nat) (a : Option Addr) (cap : Nat) (k : Int) (w : World) (hZ : SegAt w a Z) (hl : Z.length ≤ 1048576) (k0 : 0 ≤ k) (k1 : k < Z.length) :
    Calls Try.prog 20 #[.slice a Z.length cap, .int .i64 k] w fun e w' => e = .returned (.int .u64 ((rm Z k.toNat : Nat) : Int)) ∧ w = w' := by
  obtain ⟨n, rfl⟩ := Int.eq_ofNat_of_zero_le k0
  rcases hZ with rfl | ⟨b, off, rfl, hb, hc⟩
  · simp at k1; omega
  · have hcell := hc (Z.length - 1 - n) (by omega)
    have i1 : (0 : Int) ≤ (Z.length : Int) - 1 - n ∧ (Z.length : Int) - 1 - n < Z.length := by omega
    clear hc
    go_enter Try.func20, Try.ntmps20
    go_wp2
    go_ret
    exact ⟨by simp [rm], rfl⟩

set_option maxHeartbeats 400000 in
theorem run27 (P K n : Nat) (k : Int) (w : World) (k0 : 0 ≤ k) (k1 : k < n) (hn : n ≤ 1048576)
   (hc : w.cell? ⟨P, 9, none⟩ = some (.slice (some ⟨K, 0, none⟩) n n)) :
    Calls Try.prog 27 #[.pointer (some ⟨P, 0, none⟩), .int .i64 k] w fun e w' => e = .returned (.pointer (some ⟨K, (n - 1 - k.toNat) * 6, none⟩)) ∧ ∃ nq, w' = w.drewN nq := by
  obtain ⟨m, rfl⟩ := Int.eq_ofNat_of_zero_le k0
  have i1 : (0 : Int) ≤ (n : Int) - 1 - m ∧ (n : Int) - 1 - m < n := by omega
  go_enter Try.func27, Try.ntmps27
  go_wp2
  go_quiet (fail)
  go_wp2
  go_ret
  exact ⟨by simp, _, rfl⟩

/-- the request path in memory: its block P, its runs' block K, its masks Z, its blocks' words B at 'a1' -/
structure Path (w : World) (P K : Nat) (Z : List Nat) (a1 : Option Addr) (B : List Nat) (cap1 : Nat) : Prop where
  pP : P < w.heap.size
  pK : K < w.heap.size
  kept : w.cell? ⟨P, 9, none⟩ = some (.slice (some ⟨K, 0, none⟩) Z.length Z.length)
  blocks : w.cell? ⟨P, 11, none⟩ = some (.slice a1 B.length cap1)
  runs : ∀ i, i < Z.length → w.cell? ⟨K, i * 6, none⟩ = some (.int .u64 ((Z.getD i 0 : Nat) : Int))
  words : SegAt w a1 B

theorem Path.drewN {w : World} {P K cap1 n : Nat} {Z B : List Nat} {a1 : Option Addr} (h : Path w P K Z a1 B cap1) : Path (w.drewN n) P K Z a1 B cap1 :=
  ⟨h.pP, h.pK, h.kept, h.blocks, h.runs, h.words⟩

theorem seen {Z : List Nat} {slot i j : Nat} (h : ∀ t, i ≤ t → t < j → t < Z.length → keeps Z slot t = false) (h2 : j < Z.length → keeps Z slot j = false) :
    ∀ t, i ≤ t → t < j + 1 → t < Z.length → keeps Z slot t = false := by
  intro t a b c
  by_cases e : t < j
  · exact h t a e c
  · obtain rfl : t = j := by omega
    exact h2 c

theorem seen64 {Z : List Nat} {slot i j : Nat} (h : ∀ t, i ≤ t → t < j → t < Z.length → keeps Z slot t = false) (h2 : ∀ t, j ≤ t → t < j + 64 → t < Z.length → keeps Z slot t = false) :
    ∀ t, i ≤ t → t < j + 64 → t < Z.length → keeps Z slot t = false := by
  intro t a b c
  by_cases e : t < j
  · exact h t a e c
  · exact h2 t (by omega) b c

set_option maxHeartbeats 1000000 in
theorem nextKept (P K cap1 : Nat) (Z B : List Nat) (a1 : Option Addr) (i slot : Nat) (w : World) (hp : Path w P K Z a1 B cap1) (hZ : Words Z) (hB : Words B) (hl : Z.length ≤ 65536) (hlB : B.length ≤ 65536)
    (hc : Cover Z B) (i1 : i ≤ 9223372036854775807) (s1 : slot ≤ 9223372036854775807) :
    Calls Try.prog 25 #[.pointer (some ⟨P, 0, none⟩), .int .i64 i, .int .i64 slot] w fun e w' => ∃ r : Int, e = .returned (.int .i64 r) ∧ First Z slot i r ∧ ∃ nq, w' = w.drewN nq := by
  have ck := hp.kept
  have cb := hp.blocks
  have Hp : Hid _ := hp
  clear hp
  have HC : Hid _ := hc
  clear hc
  go_enter Try.func25, Try.ntmps25
  go_wp2
  go_loopw [1] (fun iv wr => ∃ j : Nat, i ≤ j ∧ j ≤ 9223372036854775807 ∧ iv = .int .i64 j ∧ Hid (∀ t, i ≤ t → t < j → t < Z.length → keeps Z slot t = false) ∧ ∃ n, wr = w.drewN n) (fun iv _ => Z.length - (intOf iv).toNat)
  case atStart => exact ⟨i, Nat.le_refl _, i1, rfl, fun t a b => absurd a (by omega), 0, rfl⟩
  case round =>
    obtain ⟨j, hj1, hj2, rfl, Hs, n, rfl⟩ := hrel
    by_cases hlt : j < Z.length
    · have h64 := (HC.out j hlt).1
      obtain ⟨m, hr, Hm⟩ : ∃ m : Nat, w.cell? ⟨K, (Z.length - 1 - j) * 6, none⟩ = some (.int .u64 (m : Int)) ∧ Hid (m < 18446744073709551616 ∧ m = Z.getD (Z.length - 1 - j) 0) :=
        ⟨_, Hp.out.runs (Z.length - 1 - j) (by omega), hZ _, rfl⟩
      by_cases e64 : j % 64 = 0
      · obtain ⟨b, off, rfl, hb, hcw⟩ : ∃ b off, a1 = some ⟨b, off, none⟩ ∧ b < w.heap.size ∧ ∀ i, i < B.length → w.cell? ⟨b, off + i, none⟩ = some (.int .u64 ((B.getD i 0 : Nat) : Int)) := by
          rcases Hp.out.words with e | e
          · rw [e] at h64; simp at h64
          · exact e
        obtain ⟨bw, hcell, Hbw⟩ : ∃ bw : Nat, w.cell? ⟨b, off + j / 64, none⟩ = some (.int .u64 (bw : Int)) ∧ Hid (bw < 18446744073709551616 ∧ bw = B.getD (j / 64) 0) :=
          ⟨_, hcw (j / 64) h64, hB _, rfl⟩
        have ix : (0 : Int) ≤ (j : Int) / 64 ∧ (j : Int) / 64 < B.length := by omega
        have b64 : ((j : Int) % 64 == 0) = true := by simp; omega
        clear hcw
        cases ht : bw.testBit slot
        · have hz : (bits .and .u64 (bw : Int) (IntKind.u64.wrap (2 ^ min slot 64)) == 0) = true := by rw [shl_eq _ _ Hbw.out.1, ht]; rfl
          have Ht : Hid _ := skip_block (slot := slot) HC.out e64 (by rw [← Hbw.out.2]; exact ht)
          clear ht e64
          go_wp2
          go_roundw
          case rel => exact ⟨j + 64, by omega, by omega, by go_num, seen64 Hs.out Ht.out, _, rfl⟩
          case measure => simp [intOf]; omega
        · have hz : (bits .and .u64 (bw : Int) (IntKind.u64.wrap (2 ^ min slot 64)) == 0) = false := by rw [shl_eq _ _ Hbw.out.1, ht]; rfl
          clear ht e64
          go_wp2_with fail
          refine (run27 P K Z.length _ _ (by omega) (by omega) (by omega) (by exact ck)).mono ?_
          rintro e w' ⟨rfl, nq, rfl⟩
          cases ht : m.testBit slot
          · have hz : (bits .and .u64 (m : Int) (IntKind.u64.wrap (2 ^ min slot 64)) != 0) = false := by rw [shl_ne _ _ Hm.out.1, ht]
            have Ht : Hid (keeps Z slot j = false) := by
              show (rm Z j).testBit slot = false
              rw [rm, ← Hm.out.2]; exact ht
            clear ht
            go_wp2
            go_roundw
            case rel => exact ⟨j + 1, by omega, by omega, by go_num, seen Hs.out fun _ => Ht.out, _, rfl⟩
            case measure => simp [intOf]; omega
          · have hz : (bits .and .u64 (m : Int) (IntKind.u64.wrap (2 ^ min slot 64)) != 0) = true := by rw [shl_ne _ _ Hm.out.1, ht]
            have Ht : Hid (keeps Z slot j = true) := by
              show (rm Z j).testBit slot = true
              rw [rm, ← Hm.out.2]; exact ht
            clear ht
            go_wp2
            go_ret
            exact ⟨j, rfl, .inr ⟨j, rfl, hj1, hlt, Ht.out, fun t a b => Hs.out t a b (by omega)⟩, _, rfl⟩
      · have b64 : ((j : Int) % 64 == 0) = false := by simp; omega
        go_wp2_with fail
        refine (run27 P K Z.length _ _ (by omega) (by omega) (by omega) (by exact ck)).mono ?_
        rintro e w' ⟨rfl, nq, rfl⟩
        cases ht : m.testBit slot
        · have hz : (bits .and .u64 (m : Int) (IntKind.u64.wrap (2 ^ min slot 64)) != 0) = false := by rw [shl_ne _ _ Hm.out.1, ht]
          have Ht : Hid (keeps Z slot j = false) := by
            show (rm Z j).testBit slot = false
            rw [rm, ← Hm.out.2]; exact ht
          clear ht
          go_wp2
          go_roundw
          case rel => exact ⟨j + 1, by omega, by omega, by go_num, seen Hs.out fun _ => Ht.out, _, rfl⟩
          case measure => simp [intOf]; omega
        · have hz : (bits .and .u64 (m : Int) (IntKind.u64.wrap (2 ^ min slot 64)) != 0) = true := by rw [shl_ne _ _ Hm.out.1, ht]
          have Ht : Hid (keeps Z slot j = true) := by
            show (rm Z j).testBit slot = true
            rw [rm, ← Hm.out.2]; exact ht
          clear ht
          go_wp2
          go_ret
          exact ⟨j, rfl, .inr ⟨j, rfl, hj1, hlt, Ht.out, fun t a b => Hs.out t a b (by omega)⟩, _, rfl⟩
    · go_wp2
      go_ret
      exact ⟨-1, rfl, .inl ⟨rfl, fun k a b => Hs.out k a (by omega) b⟩, _, rfl⟩
end Go.Proofs.Qxb6603886a.Kept
