import Derived.Test.Qxb6603886aRes
import Derived.Maps.AppendAt
import Derived.Laws.IdiomStrings
set_option linter.unusedVariables false
namespace Go.Proofs.Qxb6603886a.Res
open Go.ChangeShapes Go.WideShapes Go.ChangeAt Go.RowKit
open Go.Proofs.Qxb6603886a.Rep (fb fb_at fb_list)

theorem Try.info5 : (Try.prog.info? 5).map (fun i => (i.zero, i.size, i.bytes)) = some (some (.int .u8 0), 1, 1) := by kernel_rfl

def isEsc (f : Nat → Nat) (k : Nat) : Prop := f k = 37 ∧ f (k + 1) = 50 ∧ (f (k + 2) = 69 ∨ f (k + 2) = 101)

theorem fb_pl (s : ByteArray) : fb s = pl s.data.toList := by funext k; exact fb_list s k

theorem drop3 (D : List UInt8) (k : Nat) (h : k + 3 ≤ D.length) : D.drop k = D[k] :: D[k + 1] :: D[k + 2] :: D.drop (k + 3) := by
  rw [List.drop_eq_getElem_cons (show k < D.length by omega), List.drop_eq_getElem_cons (show k + 1 < D.length by omega), List.drop_eq_getElem_cons (show k + 1 + 1 < D.length by omega)]

theorem pl_get (D : List UInt8) (k : Nat) (h : k < D.length) : pl D k = D[k].toNat := by unfold pl; rw [List.getElem?_eq_getElem h]; rfl

theorem pl_ne (D : List UInt8) (k : Nat) (h : pl D k ≠ 0) : k < D.length := by
  rcases Nat.lt_or_ge k D.length with h1 | h1
  · exact h1
  · exact absurd (pl_end D k h1) h

theorem dec_esc (D : List UInt8) (k : Nat) (h : isEsc (pl D) k) : dec (D.drop k) = 46 :: dec (D.drop (k + 3)) := by
  obtain ⟨h0, h1, h2⟩ := h
  have hl := pl_ne D (k + 2) (by omega)
  rw [drop3 D k (by omega), dec, if_pos]
  rw [pl_get D _ (by omega)] at h0 h1
  rw [pl_get D _ hl] at h2
  exact ⟨(toNat_is _ 37 (by decide)).1 h0, (toNat_is _ 50 (by decide)).1 h1, h2.imp (toNat_is _ 69 (by decide)).1 (toNat_is _ 101 (by decide)).1⟩

theorem dec_lit (D : List UInt8) (k : Nat) (hk : k < D.length) (h : ¬ isEsc (pl D) k) : dec (D.drop k) = D[k] :: dec (D.drop (k + 1)) := by
  by_cases hl : k + 3 ≤ D.length
  · have e1 : D.drop (k + 1) = D[k + 1] :: D[k + 2] :: D.drop (k + 3) := by
      rw [List.drop_eq_getElem_cons (show k + 1 < D.length by omega), List.drop_eq_getElem_cons (show k + 1 + 1 < D.length by omega)]
    rw [drop3 D k hl, dec, if_neg, e1]
    rintro ⟨a, b, c⟩
    apply h
    refine ⟨?_, ?_, ?_⟩
    · rw [pl_get D _ hk, a]; rfl
    · rw [pl_get D _ (by omega), b]; rfl
    · rw [pl_get D _ (by omega)]
      rcases c with c | c
      · left; rw [c]; rfl
      · right; rw [c]; rfl
  · rw [List.drop_eq_getElem_cons hk]
    rcases e : D.drop (k + 1) with _ | ⟨b, _ | ⟨c, t⟩⟩
    · rfl
    · rfl
    · have := congrArg List.length e
      simp at this; omega

/-- a byte as the memory holds it -/
def bv (c : UInt8) : Value := .int .u8 (c.toNat : Int)

theorem owned_string {w : World} {B : Nat} {v : Value} {acc : List UInt8} (h : w.ownsRow B 5 1 v acc.length (acc.map bv)) (hv : v ≠ .slice none 0 0) :
    ∃ g cap, v = .slice (some ⟨g, 0, none⟩) acc.length cap ∧ (convert 52 9 (.slice (some ⟨g, 0, none⟩) acc.length cap)).run Try.prog w = .ok (.string ⟨acc.toArray⟩) w := by
  rcases h.2 with ⟨h', _⟩ | ⟨g, cap, cur, rfl, _⟩
  · exact absurd h' hv
  · refine ⟨g, cap, rfl, run_convert_bytes_back w 52 9 5 _ cap acc Try.underlying52 Try.underlying5 Try.underlying9 fun j hj => ?_⟩
    have := h.cellAt j (by omega)
    have ea : (⟨g, 0, none⟩ : Addr).add j = ⟨g, j, none⟩ := by simp [Addr.add]; intro h; omega
    rw [ea, this, List.getElem?_map, List.getElem?_eq_getElem hj]; rfl

theorem decode_rel_esc {D acc : List UInt8} {k : Nat} (h : acc ++ dec (D.drop k) = dec D) (he : isEsc (pl D) k) : (acc ++ [46]) ++ dec (D.drop (k + 3)) = dec D := by
  rw [← h, dec_esc D k he]; simp
theorem decode_rel_lit {s : ByteArray} {acc : List UInt8} {k : Nat} (hk : k < s.size) (h : acc ++ dec (s.data.toList.drop k) = dec s.data.toList) (he : ¬ isEsc (fb s) k) :
    (acc ++ [s[k]]) ++ dec (s.data.toList.drop (k + 1)) = dec s.data.toList := by
  have hl : k < s.data.toList.length := by rw [← Lib.size_eq]; exact hk
  have e := Lib.data_getElem? s k hk
  rw [List.getElem?_eq_getElem hl] at e
  rw [← h, dec_lit s.data.toList k hl (by rw [← fb_pl]; exact he), Option.some.inj e]; simp

theorem owned_snoc {w : World} {B : Nat} {v : Value} {acc : List UInt8} {n : Int} (c : UInt8) (hc : n = (c.toNat : Int)) (h : w.ownsRow B 5 1 v (acc.length + 1) (acc.map bv ++ [.int .u8 n])) :
    w.ownsRow B 5 1 v (acc ++ [c]).length ((acc ++ [c]).map bv) := by
  subst hc
  simpa [bv] using h

set_option maxHeartbeats 2000000 in
set_option maxRecDepth 100000 in
theorem decode (s : ByteArray) (w : World) (hs : s.size ≤ 1048576) :
    Calls Try.prog 26 #[.string s] w fun e w' => e = .returned (.string ⟨(dec s.data.toList).toArray⟩) ∧ Below w.heap.size w w' := by
  obtain ⟨i0, hi, hz0, hz1, hz2⟩ := info_parts Try.info5
  go_enter Try.func26, Try.ntmps26
  go_wp2_with (first
    | (at_make; refine wpList_make_own _ rfl _ _ 52 rfl w.heap.size 5 i0 (.int .u8 0) 1 Try.underlying52 hi hz0 hz1 .i64 .i64 _ s.size rfl rfl (by omega) (by rw [hz2]; omega) (by unfold maxLen; omega) (Nat.le_refl _) ?_; intro w0 hown0 hgrow0))
  go_loopw [3, 4] (fun v kv wr => ∃ (k : Nat) (acc : List UInt8), k ≤ s.size ∧ acc.length ≤ k ∧ kv = .int .i64 k ∧ wr.ownsRow w.heap.size 5 1 v acc.length (acc.map bv) ∧ Below w.heap.size w wr ∧ v ≠ .slice none 0 0 ∧ Hid (acc ++ dec (s.data.toList.drop k) = dec s.data.toList))
    (fun _ kv _ => s.size - (intOf kv).toNat)
  case atStart => exact ⟨0, [], by omega, by simp, by go_num, by simpa using hown0, (Below.refl _ _).grown hgrow0 (Nat.le_refl _) (fun k h => by cases h), by simp, rfl⟩
  case round =>
    obtain ⟨k, acc, hk, hak, rfl, hown, hnx, hnn, Hd⟩ := hrel
    have hsize := hnx.size
    by_cases hlt : k < s.size
    · by_cases e37 : (s[k].toNat : Int) = 37
      · by_cases h3 : k + 3 ≤ s.size
        · have a1 : k + 1 < s.size := by omega
          have a2 : k + 2 < s.size := by omega
          have i1 : (0 : Int) ≤ (k : Int) + 1 ∧ (k : Int) + 1 < s.size := by omega
          have i2 : (0 : Int) ≤ (k : Int) + 2 ∧ (k : Int) + 2 < s.size := by omega
          by_cases e50 : (s[k + 1].toNat : Int) = 50
          · by_cases eE : (s[k + 2].toNat : Int) = 69
            · have hes : Hid (isEsc (pl s.data.toList) k) := by
                show isEsc (pl s.data.toList) k
                rw [← fb_pl]; unfold isEsc; rw [fb_at s k hlt, fb_at s _ a1, fb_at s _ a2]; omega
              go_wp2_with (first
                | (at_builtin; refine wpList_append_own _ rfl (.tmp 44) (.tmp 45) 52 rfl w.heap.size 5 i0 (.int .u8 0) 1 1 Try.underlying52 hi hz0 hz1 hz2 rfl (by decide) _ _ _ rfl (hown.alloc _) ⟨wr.heap.size, 0, none⟩ 1 1 [.int .u8 46] rfl rfl (cell_one_new _ _ _) (by intro u hu; simp at hu; subst hu; rfl) (by unfold maxLen; omega) (by omega) (by simp; omega) ?_; intro v1 w1 hown1 hgrow1 hnil1))
              all_goals
                go_roundw
                case rel =>
                  exact ⟨k + 3, acc ++ [46], by omega, by simp; omega, by go_num, owned_snoc 46 (by decide) hown1, (hnx.alloc (by omega) _).grown hgrow1 (by simp; omega) (fun j hj => (hown.lt j hj).1),
                    fun h => by have := (hnil1.1 h).2; omega, decode_rel_esc Hd.out hes.out⟩
                case measure => simp [intOf]; omega
            · by_cases ee : (s[k + 2].toNat : Int) = 101
              · have hes : Hid (isEsc (pl s.data.toList) k) := by
                  show isEsc (pl s.data.toList) k
                  rw [← fb_pl]; unfold isEsc; rw [fb_at s k hlt, fb_at s _ a1, fb_at s _ a2]; omega
                have b1 : ((s[k + 2].toNat : Int) == 69) = false := by simp; omega
                have b2 : ((s[k + 2].toNat : Int) == 101) = true := by simp; omega
                clear ee eE
                go_wp2_with (first
                  | (at_builtin; refine wpList_append_own _ rfl (.tmp 44) (.tmp 45) 52 rfl w.heap.size 5 i0 (.int .u8 0) 1 1 Try.underlying52 hi hz0 hz1 hz2 rfl (by decide) _ _ _ rfl (hown.alloc _) ⟨wr.heap.size, 0, none⟩ 1 1 [.int .u8 46] rfl rfl (cell_one_new _ _ _) (by intro u hu; simp at hu; subst hu; rfl) (by unfold maxLen; omega) (by omega) (by simp; omega) ?_; intro v1 w1 hown1 hgrow1 hnil1))
                all_goals
                  go_roundw
                  case rel =>
                    exact ⟨k + 3, acc ++ [46], by omega, by simp; omega, by go_num, owned_snoc 46 (by decide) hown1, (hnx.alloc (by omega) _).grown hgrow1 (by simp; omega) (fun j hj => (hown.lt j hj).1),
                      fun h => by have := (hnil1.1 h).2; omega, decode_rel_esc Hd.out hes.out⟩
                  case measure => simp [intOf]; omega
              · have hne : Hid (¬ isEsc (fb s) k) := by
                  show ¬ isEsc (fb s) k
                  unfold isEsc; rw [fb_at s k hlt, fb_at s _ a1, fb_at s _ a2]; omega
                have b1 : ((s[k + 2].toNat : Int) == 69) = false := by simp; omega
                have b2 : ((s[k + 2].toNat : Int) == 101) = false := by simp; omega
                clear ee eE
                go_wp2_with (first
                  | (at_builtin; refine wpList_append_own _ rfl (.tmp 49) (.tmp 53) 52 rfl w.heap.size 5 i0 (.int .u8 0) 1 1 Try.underlying52 hi hz0 hz1 hz2 rfl (by decide) _ _ _ rfl (hown.alloc _) ⟨wr.heap.size, 0, none⟩ 1 1 [.int .u8 37] rfl rfl (cell_one_new _ _ _) (by intro u hu; simp at hu; subst hu; rfl) (by unfold maxLen; omega) (by omega) (by simp; omega) ?_; intro v1 w1 hown1 hgrow1 hnil1))
                all_goals
                  go_roundw
                  case rel =>
                    exact ⟨k + 1, acc ++ [s[k]], by omega, by simp; omega, by go_num, owned_snoc s[k] (by omega) hown1, (hnx.alloc (by omega) _).grown hgrow1 (by simp; omega) (fun j hj => (hown.lt j hj).1),
                      fun h => by have := (hnil1.1 h).2; omega, decode_rel_lit hlt Hd.out hne.out⟩
                  case measure => simp [intOf]; omega
          · have hne : Hid (¬ isEsc (fb s) k) := by
              show ¬ isEsc (fb s) k
              unfold isEsc; rw [fb_at s k hlt, fb_at s _ a1]; omega
            go_wp2_with (first
              | (at_builtin; refine wpList_append_own _ rfl (.tmp 49) (.tmp 53) 52 rfl w.heap.size 5 i0 (.int .u8 0) 1 1 Try.underlying52 hi hz0 hz1 hz2 rfl (by decide) _ _ _ rfl (hown.alloc _) ⟨wr.heap.size, 0, none⟩ 1 1 [.int .u8 37] rfl rfl (cell_one_new _ _ _) (by intro u hu; simp at hu; subst hu; rfl) (by unfold maxLen; omega) (by omega) (by simp; omega) ?_; intro v1 w1 hown1 hgrow1 hnil1))
            all_goals
              go_roundw
              case rel =>
                exact ⟨k + 1, acc ++ [s[k]], by omega, by simp; omega, by go_num, owned_snoc s[k] (by omega) hown1, (hnx.alloc (by omega) _).grown hgrow1 (by simp; omega) (fun j hj => (hown.lt j hj).1),
                  fun h => by have := (hnil1.1 h).2; omega, decode_rel_lit hlt Hd.out hne.out⟩
              case measure => simp [intOf]; omega
        · have hne : Hid (¬ isEsc (fb s) k) := by
            show ¬ isEsc (fb s) k
            unfold isEsc; rw [fb_at s k hlt, fb_past s (k + 2) (by omega)]; omega
          go_wp2_with (first
            | (at_builtin; refine wpList_append_own _ rfl (.tmp 49) (.tmp 53) 52 rfl w.heap.size 5 i0 (.int .u8 0) 1 1 Try.underlying52 hi hz0 hz1 hz2 rfl (by decide) _ _ _ rfl (hown.alloc _) ⟨wr.heap.size, 0, none⟩ 1 1 [.int .u8 37] rfl rfl (cell_one_new _ _ _) (by intro u hu; simp at hu; subst hu; rfl) (by unfold maxLen; omega) (by omega) (by simp; omega) ?_; intro v1 w1 hown1 hgrow1 hnil1))
          all_goals
            go_roundw
            case rel =>
              exact ⟨k + 1, acc ++ [s[k]], by omega, by simp; omega, by go_num, owned_snoc s[k] (by omega) hown1, (hnx.alloc (by omega) _).grown hgrow1 (by simp; omega) (fun j hj => (hown.lt j hj).1),
                fun h => by have := (hnil1.1 h).2; omega, decode_rel_lit hlt Hd.out hne.out⟩
            case measure => simp [intOf]; omega
      · have hne : Hid (¬ isEsc (fb s) k) := by
          show ¬ isEsc (fb s) k
          unfold isEsc; rw [fb_at s k hlt]; omega
        go_wp2_with (first
          | (at_builtin; refine wpList_append_own _ rfl (.tmp 49) (.tmp 53) 52 rfl w.heap.size 5 i0 (.int .u8 0) 1 1 Try.underlying52 hi hz0 hz1 hz2 rfl (by decide) _ _ _ rfl (hown.alloc _) ⟨wr.heap.size, 0, none⟩ 1 1 [.int .u8 (s[k].toNat : Int)] rfl rfl (cell_one_new _ _ _) (by intro u hu; simp at hu; subst hu; rfl) (by unfold maxLen; omega) (by omega) (by simp; omega) ?_; intro v1 w1 hown1 hgrow1 hnil1))
        all_goals
          go_roundw
          case rel =>
            exact ⟨k + 1, acc ++ [s[k]], by omega, by simp; omega, by go_num, owned_snoc s[k] (by omega) hown1, (hnx.alloc (by omega) _).grown hgrow1 (by simp; omega) (fun j hj => (hown.lt j hj).1),
              fun h => by have := (hnil1.1 h).2; omega, decode_rel_lit hlt Hd.out hne.out⟩
          case measure => simp [intOf]; omega
    · obtain ⟨g, cap, rfl, hcv⟩ := owned_string hown hnn
      have hfin : acc = dec s.data.toList := by
        have := Hd.out
        rw [List.drop_of_length_le (by rw [← Lib.size_eq]; omega)] at this
        simpa [dec] using this
      have HF : Hid (acc = dec s.data.toList) := hfin
      clear hfin
      go_wp2
      go_ret
      exact ⟨by rw [← HF.out]; rfl, hnx⟩
end Go.Proofs.Qxb6603886a.Res
