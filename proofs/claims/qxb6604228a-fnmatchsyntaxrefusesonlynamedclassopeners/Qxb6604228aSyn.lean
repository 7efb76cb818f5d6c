import Derived.Test.Qxb6604228aRows
import Derived.Test.Qxb6604228aPlain
import Derived.WalkKit
import Derived.WalkSpells
import Derived.ProofKit
import Derived.Lib.ConvBytes
import Derived.Laws.IdiomStrings
set_option linter.unusedVariables false
namespace Go.Proofs.Qxb6604228a.Syn
open Go.ChangeShapes Go.WideShapes Go.ChangeAt Go.RowKit

/-- block g holds the bytes L, none of them frozen -/
structure Buf (w : World) (g : Nat) (L : List UInt8) : Prop where
  cell : ∀ j, j < L.length → w.cell? ⟨g, j, none⟩ = some (.int .u8 ((L.getD j 0).toNat : Int))
  free : ∀ j, j < L.length → w.frozen? ⟨g, j, none⟩ = false

theorem Buf.set {w : World} {g i : Nat} {L : List UInt8} (h : Buf w g L) (c : UInt8) (hi : i < L.length) : Buf (w.setCell ⟨g, i, none⟩ (.int .u8 (c.toNat : Int))) g (L.set i c) := by
  refine ⟨fun j hj => ?_, fun j hj => ?_⟩
  · rw [List.length_set] at hj
    by_cases e : j = i
    · subst e
      rw [World.cell?_setCell_same _ _ _ (h.cell j hj), List.getD_eq_getElem?_getD, List.getElem?_set_self hj]; rfl
    · rw [World.cell?_setCell_other _ _ _ _ (fun e2 => e (by cases e2; rfl)), List.getD_eq_getElem?_getD, List.getElem?_set_ne (fun e2 => e e2.symm), ← List.getD_eq_getElem?_getD]
      exact h.cell j hj
  · rw [List.length_set] at hj
    rw [World.frozen?_setCell]; exact h.free j hj

theorem Buf.start (w : World) (s : ByteArray) : Buf (Lib.bytesWorld w 5 s) w.heap.size s.data.toList := by
  have hz := Lib.size_eq s
  refine ⟨fun j hj => Lib.bytesWorld_cell w 5 s j (by omega), fun j hj => ?_⟩
  have h1 : (Lib.bytesCells w 5 s).size ≥ s.size := by
    rw [Lib.bytesCells, Array.size_append, Array.size_map]
    show s.data.size + _ ≥ s.data.size
    omega
  simp [World.frozen?, Lib.bytesWorld_at_new]
  omega

theorem below_bytes (w : World) (s : ByteArray) : Below w.heap.size w (Lib.bytesWorld w 5 s) :=
  ⟨rfl, rfl, rfl, by rw [Lib.bytesWorld_size]; omega, fun k hk => Lib.bytesWorld_at_old w 5 s k hk⟩

theorem Buf.back {w : World} {g cap : Nat} {L : List UInt8} (h : Buf w g L) : (convert 26 9 (.slice (some ⟨g, 0, none⟩) L.length cap)).run Try.prog w = .ok (.string ⟨L.toArray⟩) w := by
  refine run_convert_bytes_back w 26 9 5 _ cap L Try.underlying26 Try.underlying5 Try.underlying9 fun j hj => ?_
  have ea : (⟨g, 0, none⟩ : Addr).add j = ⟨g, j, none⟩ := by simp [Addr.add]; intro h; omega
  rw [ea, h.cell j hj, List.getD_eq_getElem?_getD, List.getElem?_eq_getElem hj]; rfl

/-- what matchSyntax answers -/
def Says (s : ByteArray) (e : Ending) : Prop :=
  (e = .returned (.tuple #[.string ⟨#[]⟩, .bool false]) ∧ Pair s 91 58) ∨ ∃ L : List UInt8, e = .returned (.tuple #[.string ⟨L.toArray⟩, .bool true]) ∧ Turned s L ∧ ¬ Opens s

set_option maxHeartbeats 4000000 in
set_option maxRecDepth 100000 in
theorem matchSyntax (s : ByteArray) (w : World) (hs : s.size ≤ 2097152) :
    Calls Try.prog 11 #[.string s] w fun e w' => Says s e ∧ Below w.heap.size w w' := by
  have hcv := Lib.run_convert_string_bytes (P := Try.prog) w 9 26 5 s Try.underlying9 Try.underlying26 Try.underlying5
  go_enter Try.func11, Try.ntmps11
  go_wp2
  go_loopw [5, 6] (fun cv iv wr => ∃ (i : Nat) (c : Bool) (L : List UInt8), i ≤ s.size + 1 ∧ cv = .bool c ∧ iv = .int .i64 i ∧ Buf wr w.heap.size L ∧ Hid (Turned s L) ∧ Hid (Early s i c) ∧ Below w.heap.size w wr)
    (fun _ iv _ => s.size + 1 - (intOf iv).toNat)
  case atStart => exact ⟨0, false, s.data.toList, by omega, rfl, rfl, Buf.start w s, Turned.start s, fun _ => .inl ⟨rfl, rfl⟩, below_bytes w s⟩
  case round =>
    clear hcv
    obtain ⟨i, c, L, hi, rfl, rfl, hbuf, Ht, He, hnx⟩ := hrel
    by_cases hlt : i < s.size
    · obtain ⟨x, hx, Hx⟩ : ∃ x : Nat, wr.cell? ⟨w.heap.size, i, none⟩ = some (.int .u8 (x : Int)) ∧ Hid ((L.getD i 0).toNat = x) := ⟨_, hbuf.cell i (by rw [Ht.out.len]; exact hlt), rfl⟩
      by_cases x92 : (x : Int) = 92
      · go_wp2
        go_roundw
        case rel =>
          refine ⟨i + 2, c, L, by omega, rfl, by go_num, hbuf, Ht.out, fun ho => ?_, hnx⟩
          exfalso
          have h0 := Turned.is Ht.out hlt (Hx.out.trans (show x = 92 by omega)) (by decide)
          rcases He.out ho with ⟨e1, e2⟩ | ⟨e1, e2⟩
          · subst e1; rw [ho.1] at h0; cases h0
          · subst e1; rw [ho.2.1] at h0; cases h0
        case measure => simp [intOf]; omega
      · cases c
        · by_cases x91 : (x : Int) = 91
          · by_cases hn : i + 1 < s.size
            · obtain ⟨y, hy, Hy⟩ : ∃ y : Nat, wr.cell? ⟨w.heap.size, i + 1, none⟩ = some (.int .u8 (y : Int)) ∧ Hid ((L.getD (i + 1) 0).toNat = y) := ⟨_, hbuf.cell (i + 1) (by rw [Ht.out.len]; exact hn), rfl⟩
              have hfz : wr.frozen? ⟨w.heap.size, i + 1, none⟩ = false := hbuf.free (i + 1) (by rw [Ht.out.len]; exact hn)
              have hix : (0 : Int) ≤ (i : Int) + 1 ∧ (i : Int) + 1 < s.size := by omega
              by_cases y33 : (y : Int) = 33
              · have Hb2 : Hid _ := hbuf.set (i := i + 1) 94 (by rw [Ht.out.len]; exact hn)
                have Hb3 : Hid (Below w.heap.size w (wr.setCell ⟨w.heap.size, i + 1, none⟩ (.int .u8 ((94 : UInt8).toNat : Int)))) := hnx.setCell (Nat.le_refl _) _
                go_wp2
                go_roundw
                case rel =>
                  refine ⟨i + 1, true, L.set (i + 1) 94, by omega, rfl, by go_num, Hb2.out, Ht.out.turn hn (Hx.out.trans (by omega)) (Hy.out.trans (by omega)), fun ho => ?_, Hb3.out⟩
                  rcases He.out ho with ⟨e1, e2⟩ | ⟨e1, e2⟩
                  · exact .inr ⟨by omega, rfl⟩
                  · cases e2
                case measure => simp [intOf]; omega
              · go_wp2
                go_roundw
                case rel =>
                  refine ⟨i + 1, true, L, by omega, rfl, by go_num, hbuf, Ht.out, fun ho => ?_, hnx⟩
                  rcases He.out ho with ⟨e1, e2⟩ | ⟨e1, e2⟩
                  · exact .inr ⟨by omega, rfl⟩
                  · cases e2
                case measure => simp [intOf]; omega
            · go_wp2
              go_roundw
              case rel =>
                refine ⟨i + 1, true, L, by omega, rfl, by go_num, hbuf, Ht.out, fun ho => ?_, hnx⟩
                rcases He.out ho with ⟨e1, e2⟩ | ⟨e1, e2⟩
                · exact .inr ⟨by omega, rfl⟩
                · cases e2
              case measure => simp [intOf]; omega
          · go_wp2
            go_roundw
            case rel =>
              refine ⟨i + 1, false, L, by omega, rfl, by go_num, hbuf, Ht.out, fun ho => ?_, hnx⟩
              exfalso
              rcases He.out ho with ⟨e1, e2⟩ | ⟨e1, e2⟩
              · subst e1
                rcases Ht.out.at_ 0 hlt with e | e
                · have := Hx.out; have := ho.1; omega
                · have := ho.1; omega
              · cases e2
            case measure => simp [intOf]; omega
        · by_cases x91 : (x : Int) = 91
          · by_cases hn : i + 1 < s.size
            · obtain ⟨y, hy, Hy⟩ : ∃ y : Nat, wr.cell? ⟨w.heap.size, i + 1, none⟩ = some (.int .u8 (y : Int)) ∧ Hid ((L.getD (i + 1) 0).toNat = y) := ⟨_, hbuf.cell (i + 1) (by rw [Ht.out.len]; exact hn), rfl⟩
              have hix : (0 : Int) ≤ (i : Int) + 1 ∧ (i : Int) + 1 < s.size := by omega
              by_cases y58 : (y : Int) = 58
              · have HP : Hid (Pair s 91 58) := ⟨i, hn, Turned.is Ht.out hlt (Hx.out.trans (by omega)) (by decide), Turned.is Ht.out hn (Hy.out.trans (by omega)) (by decide)⟩
                go_wp2
                go_ret2
                exact ⟨.inl ⟨rfl, HP.out⟩, hnx⟩
              · go_wp2
                go_roundw
                case rel =>
                  refine ⟨i + 1, true, L, by omega, rfl, by go_num, hbuf, Ht.out, fun ho => ?_, hnx⟩
                  exfalso
                  rcases He.out ho with ⟨e1, e2⟩ | ⟨e1, e2⟩
                  · cases e2
                  · subst e1
                    rcases Ht.out.at_ 2 hn with e | e
                    · have h5 : (L.getD 2 0).toNat = y := Hy.out; have := ho.2.2; omega
                    · have := ho.2.2; omega
                case measure => simp [intOf]; omega
            · go_wp2
              go_roundw
              case rel =>
                refine ⟨i + 1, true, L, by omega, rfl, by go_num, hbuf, Ht.out, fun ho => ?_, hnx⟩
                exfalso
                have h3 := ho.size
                rcases He.out ho with ⟨e1, e2⟩ | ⟨e1, e2⟩
                · cases e2
                · omega
              case measure => simp [intOf]; omega
          · by_cases x93 : (x : Int) = 93
            · go_wp2
              go_roundw
              case rel =>
                refine ⟨i + 1, false, L, by omega, rfl, by go_num, hbuf, Ht.out, fun ho => ?_, hnx⟩
                exfalso
                rcases He.out ho with ⟨e1, e2⟩ | ⟨e1, e2⟩
                · cases e2
                · subst e1
                  rcases Ht.out.at_ 1 hlt with e | e
                  · have := Hx.out; have := ho.2.1; omega
                  · have := ho.2.1; omega
              case measure => simp [intOf]; omega
            · have b93 : ((x : Int) != 93) = true := by simp; omega
              go_wp2
              go_roundw
              case rel =>
                refine ⟨i + 1, true, L, by omega, rfl, by go_num, hbuf, Ht.out, fun ho => ?_, hnx⟩
                exfalso
                rcases He.out ho with ⟨e1, e2⟩ | ⟨e1, e2⟩
                · cases e2
                · subst e1
                  rcases Ht.out.at_ 1 hlt with e | e
                  · have := Hx.out; have := ho.2.1; omega
                  · have := ho.2.1; omega
              case measure => simp [intOf]; omega
    · have Hb : Hid _ := hbuf
      have hcv := Buf.back (cap := grownCap w s.size 0 5) hbuf
      rw [Ht.out.len] at hcv
      have Hno : Hid (¬ Opens s) := by
        intro ho
        have h3 := ho.size
        rcases He.out ho with ⟨e1, e2⟩ | ⟨e1, e2⟩ <;> omega
      go_wp2
      go_ret2
      exact ⟨.inr ⟨L, rfl, Ht.out, Hno.out⟩, hnx⟩
end Go.Proofs.Qxb6604228a.Syn
