/-
  laws.cut: the parts of a text around a byte.
-/
import Derived.Test.YtcbenidcaaegnaaDoorCutPure
import Derived.Test.YtcbenidcaaegnaaDoorEsc
import Derived.Test.YtcbenidcaaegnaaDoorMapOps
import Derived.Test.YtcbenidcaaegnaaDoorToEnt
import Derived.Deep.AppendLies
namespace Go.Proofs.YtcbenidcaaegnaaDoor
open Go.RowKit
open Uv (Bytes cutB)

def glue (p : Bytes) : List Bytes → List Bytes
  | [] => [p]
  | x :: xs => (p ++ x) :: xs
theorem glue_nil {l : List Bytes} (h : l ≠ []) : glue [] l = l := by
  cases l with
  | nil => exact absurd rfl h
  | cons x xs => rfl
theorem cutB_ne (b : UInt8) (s : Bytes) : cutB b s ≠ [] := by
  cases s with
  | nil => simp [cutB]
  | cons c r =>
    unfold cutB
    split
    · simp
    · split <;> simp
/-- the first i bytes are looked through; the parts l are done, the next one begins at f -/
def CutTo (b : UInt8) (s : Bytes) (i f : Nat) (l : List Bytes) : Prop := cutB b s = l ++ glue ((s.take i).drop f) (cutB b (s.drop i)) ∧ f ≤ i
theorem CutTo.start (b : UInt8) (s : Bytes) : CutTo b s 0 0 [] := ⟨by simp [glue_nil (cutB_ne b s)], Nat.le_refl _⟩
theorem CutTo.skip {b : UInt8} {s : Bytes} {i f : Nat} {l : List Bytes} (h : CutTo b s i f l) (hi : i < s.length) (hb : ¬ s[i] = b) : CutTo b s (i + 1) f l := by
  obtain ⟨h1, h2⟩ := h
  refine ⟨?_, by omega⟩
  rw [h1, List.drop_eq_getElem_cons hi, cutB, if_neg hb, List.take_succ_eq_append_getElem hi, List.drop_append_of_le_length (by simp; omega)]
  congr 1
  cases hc : cutB b (s.drop (i + 1)) with
  | nil => exact absurd hc (cutB_ne _ _)
  | cons x xs => simp [glue]
theorem CutTo.hit {b : UInt8} {s : Bytes} {i f : Nat} {l : List Bytes} (h : CutTo b s i f l) (hi : i < s.length) (hb : s[i] = b) : CutTo b s (i + 1) (i + 1) (l ++ [(s.take i).drop f]) := by
  obtain ⟨h1, h2⟩ := h
  refine ⟨?_, Nat.le_refl _⟩
  rw [h1, List.drop_eq_getElem_cons hi, cutB, if_pos hb]
  have e : (s.take (i + 1)).drop (i + 1) = [] := List.drop_eq_nil_of_le (by simp; omega)
  rw [e, glue_nil (cutB_ne _ _)]
  simp [glue]
theorem CutTo.fin {b : UInt8} {s : Bytes} {f : Nat} {l : List Bytes} (h : CutTo b s s.length f l) : cutB b s = l ++ [(s.take s.length).drop f] := by
  rw [h.1, List.drop_eq_nil_of_le (Nat.le_refl _)]
  simp [glue, cutB]
theorem CutTo.more {b : UInt8} {s : Bytes} {i f : Nat} {l : List Bytes} (h : CutTo b s i f l) : l.length + 1 ≤ (cutB b s).length := by
  rw [h.1, List.length_append]
  have : 1 ≤ (glue ((s.take i).drop f) (cutB b (s.drop i))).length := by cases cutB b (s.drop i) <;> simp [glue]
  omega
/-- 's[f:i]', s a text -/
theorem run_sub (s : Bytes) (f i : Nat) (hf : f ≤ i) (hi : i ≤ s.length) (W : World) : (Instr.slice 9 (encStr s) (some (.int .i64 (f : Int))) (some (.int .i64 (i : Int))) none).run Tryd.prog W = .ok (encStr ((s.take i).drop f)) W := by
  have hu : Tryd.prog.underlying 9 = some .string := by kernel_rfl
  have e : (⟨s.toArray⟩ : ByteArray).size = s.length := by simp [ByteArray.size]
  have h := run_slice_string (P := Tryd.prog) W 9 ⟨s.toArray⟩ .i64 .i64 (f : Int) (i : Int) hu (by omega) (by omega) (by rw [e]; omega)
  rw [Int.toNat_natCast, Int.toNat_natCast, ByteArray.extract_mk, List.take_drop, Nat.add_sub_cancel' hf] at h
  exact h
theorem run_subAt (s : Bytes) (f i : Nat) (hf : f ≤ i) (hi : i ≤ s.length) (W : World) : (Instr.sliceAt 9 (encStr s) (some (.int .i64 (f : Int))) (some (.int .i64 (i : Int))) none).run Tryd.prog W = .ok (encStr ((s.take i).drop f)) W := by
  have hu : Tryd.prog.underlying 9 = some .string := by kernel_rfl
  rw [run_sliceAt_string W _ _ _ _ _ hu]
  exact run_sub s f i hf hi W

theorem cut_app {B : Nat} {w W w2 : World} {u v' : Value} {l k : List Bytes} {n : Nat} {xs : List Value} (h : OStrs (fun g => B ≤ g) w u l) (hc : Chg None w W) (hB : B ≤ W.heap.size) (hs : w2.ownsRow 0 9 1 v' n xs) (hn : n = (l ++ k).length) (hx : xs = (l ++ k).map encStr)
    (hl : v'.ownBlock = u.ownBlock ∨ v'.ownBlock = some W.heap.size) (hg : W.grownBy w2 u.ownBlock) : OStrs (fun g => B ≤ g) w2 v' (l ++ k) ∧ Chg (fun g => B ≤ g) w w2 := by
  subst hn
  subst hx
  refine ⟨⟨hs, fun g hg => ?_⟩, hc.any.trans ((Chg.ofGrown hg).mono (fun k _ hk => h.2 k hk.symm))⟩
  rcases hl with e | e
  · exact h.2 g (e ▸ hg)
  · rw [e] at hg
    injection hg with hg
    omega
set_option maxRecDepth 100000 in
set_option maxHeartbeats 1000000 in
theorem cut_ok (s : Bytes) (b : UInt8) (bv : Int) (hbv : bv = (b.toNat : Int)) (w : World) (hs : s.length ≤ 9000000000000000) (hn : (cutB b s).length * 16 ≤ 140737488355328) :
    Calls Tryd.prog 7 #[encStr s, .int .u8 bv] w (NewTexts (cutB b s) w) := by
  subst hbv
  go_enter Tryd.func7, Tryd.ntmps7
  go_wp2
  go_loopw [5, 6, 7] (fun o fv iv wr => ∃ (k f : Nat) (l : List Bytes), iv = .int .i64 (k : Int) ∧ fv = .int .i64 (f : Int) ∧ OStrs (fun g => w.heap.size ≤ g) wr o l ∧ Chg None w wr ∧ ((k ≤ s.length ∧ CutTo b s k f l) ∨ (k = s.length + 1 ∧ l = cutB b s ∧ f ≤ k))) (fun _ _ iv _ => s.length + 1 - (intOf iv).toNat)
  case atStart => exact ⟨0, 0, [], rfl, rfl, OStrs.nil _ _, Chg.refl _ _, .inl ⟨Nat.zero_le _, CutTo.start b s⟩⟩
  case round =>
    obtain ⟨k, f, l, rfl, rfl, hO, hch, hcase⟩ := hrel
    obtain ⟨ao, co, ho⟩ := ownsRow_shape hO.1
    subst ho
    rcases hcase with ⟨hk, hct⟩ | ⟨hk, hl, hf⟩
    · have hf := hct.2
      have hm := hct.more
      have HC := Lib.hid hct
      have hsub := run_sub s f k hf hk
      clear hct
      by_cases hlt : k < s.length
      · have hix := run_textAt s k hlt
        have hbk : ((k : Int) == (s.length : Int)) = false := by simp; omega
        by_cases he : s[k] = b
        · have hbe : ((s[k].toNat : Int) == (b.toNat : Int)) = true := by simp [he]
          have HH := Lib.hid (HC.out.hit hlt he)
          clear he
          generalize (s.take k).drop f = p at *
          go_wp2_with (at_builtin; refine wpList_app _ elStr rfl _ _ _ rfl (ownsRow_chg hO.1 ((Chg.refl None wr).alloc _) (fun _ _ x => x)) rfl (Src.ofSlice _ elStr.ht ⟨wr.heap.size, 0, none⟩ 1 1 [encStr p] rfl (World.news_of_block (cs := #[encStr p]) (t := 9) (fr := (0, 0)) (heap_alloc_new wr _)) (by simp [Value.oneCell', encStr])) rfl (by unfold maxLen; omega) (by omega) ?_; intro a2 c2 w2 hs2 hg2 hl2; obtain ⟨hO2, hc2⟩ := cut_app (k := [p]) hO ((Chg.refl None wr).alloc _) (by have := hch.size; simp; omega) hs2 (by simp) (by simp) hl2 hg2; clear hs2 hg2 hl2)
          go_roundw
          case rel => exact ⟨k + 1, k + 1, l ++ [p], by go_num, by go_num, hO2, hch.then hc2 (fun i hi e => by omega), .inl ⟨by omega, HH.out⟩⟩
          case measure => simp [intOf]; omega
        · have hbe : ((s[k].toNat : Int) == (b.toNat : Int)) = false := by
            simp only [beq_eq_false_iff_ne, ne_eq]
            exact fun h => he (UInt8.toNat_inj.1 (by omega))
          have HH := Lib.hid (HC.out.skip hlt he)
          clear he
          go_wp2
          go_roundw
          case rel => exact ⟨k + 1, f, l, by go_num, rfl, hO, hch, .inl ⟨by omega, HH.out⟩⟩
          case measure => simp [intOf]; omega
      · obtain rfl : k = s.length := by omega
        have hbk : ((s.length : Int) == (s.length : Int)) = true := by simp
        have HH := Lib.hid HC.out.fin
        generalize (s.take s.length).drop f = p at *
        go_wp2_with (at_builtin; refine wpList_app _ elStr rfl _ _ _ rfl (ownsRow_chg hO.1 ((Chg.refl None wr).alloc _) (fun _ _ x => x)) rfl (Src.ofSlice _ elStr.ht ⟨wr.heap.size, 0, none⟩ 1 1 [encStr p] rfl (World.news_of_block (cs := #[encStr p]) (t := 9) (fr := (0, 0)) (heap_alloc_new wr _)) (by simp [Value.oneCell', encStr])) rfl (by unfold maxLen; omega) (by omega) ?_; intro a2 c2 w2 hs2 hg2 hl2; obtain ⟨hO2, hc2⟩ := cut_app (k := [p]) hO ((Chg.refl None wr).alloc _) (by have := hch.size; simp; omega) hs2 (by simp) (by simp) hl2 hg2; clear hs2 hg2 hl2)
        go_roundw
        case rel => exact ⟨s.length + 1, s.length + 1, l ++ [p], by go_num, by go_num, hO2, hch.then hc2 (fun i hi e => by omega), .inr ⟨rfl, HH.out.symm, Nat.le_refl _⟩⟩
        case measure => simp [intOf]
    · subst hk
      subst hl
      clear hf
      go_wp2
      go_ret
      exact ⟨_, _, rfl, hO, hch⟩
end Go.Proofs.YtcbenidcaaegnaaDoor
