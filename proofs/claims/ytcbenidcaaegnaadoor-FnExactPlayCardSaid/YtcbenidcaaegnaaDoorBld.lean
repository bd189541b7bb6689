/-
  A strings.Builder that the call has made: what it holds; WriteByte, WriteString, Len, String, Grow.
-/
import Derived.Test.YtcbenidcaaegnaaDoorShelf
import Derived.Test.YtcbenidcaaegnaaDoorOBytes
import Derived.Outline
namespace Go.Proofs.YtcbenidcaaegnaaDoor
open Go.RowKit
open Uv (Bytes)

/-- block b is a builder whose own address is p and that holds the bytes l, in blocks from B on -/
def Bld (B b : Nat) (p : Value) (l : Bytes) (w : World) : Prop :=
  B ≤ b ∧ ∃ v, w.heap[b]? = some (.cells #[p, v] 89 (0, 0)) ∧ OBytes (fun g => B ≤ g) w v l ∧ v.ownBlock ≠ some b
/-- .. written or not -/
def IsB (B b : Nat) (l : Bytes) (w : World) : Prop := ∃ p, (p = .pointer none ∨ p = .pointer (some ⟨b, 0, none⟩)) ∧ Bld B b p l w
def ByteRow (w : World) (g : Nat) : Prop := ∃ c fz, w.heap[g]? = some (.cells c 5 fz)
/-- what a builder's methods write: the builder and rows of bytes, from B on -/
def Bfr (B : Nat) (w : World) (b : Nat) (g : Nat) : Prop := B ≤ g ∧ (g = b ∨ ByteRow w g)
theorem Chg.bfr {B b : Nat} {w w1 w2 : World} (h : Chg (Bfr B w b) w w1) (h2 : Chg (Bfr B w1 b) w1 w2) : Chg (Bfr B w b) w w2 :=
  h.then h2 (fun i hi hg => by
    obtain ⟨hB, hg⟩ := hg
    by_cases hr : Bfr B w b i
    · exact hr
    · refine ⟨hB, ?_⟩
      rcases hg with hg | ⟨c, fz, hg⟩
      · exact .inl hg
      · rw [h.block i hi hr] at hg
        exact .inr ⟨c, fz, hg⟩)
theorem Chg.bfrNew {B b : Nat} {w w1 w2 : World} (h : Chg (Bfr B w b) w w1) (h2 : Chg None w1 w2) : Chg (Bfr B w b) w w2 := h.none h2
theorem Chg.bfrBelow {B b : Nat} {w w1 : World} (h : Chg (Bfr B w b) w w1) : Chg (fun g => B ≤ g) w w1 := h.mono (fun _ _ x => x.1)

theorem Bld.lt {B b : Nat} {p : Value} {l : Bytes} {w : World} (h : Bld B b p l w) : b < w.heap.size := by
  obtain ⟨_, v, hb, _⟩ := h
  exact (Array.getElem?_eq_some_iff.1 hb).1
theorem IsB.lt {B b : Nat} {l : Bytes} {w : World} (h : IsB B b l w) : b < w.heap.size := by
  obtain ⟨p, _, h⟩ := h
  exact h.lt
theorem IsB.le {B b : Nat} {l : Bytes} {w : World} (h : IsB B b l w) : B ≤ b := by
  obtain ⟨p, _, h⟩ := h
  exact h.1
theorem Bld.new {B b : Nat} {p : Value} {l : Bytes} {w w' : World} (h : Bld B b p l w) (hc : Chg None w w') : Bld B b p l w' := by
  have hl := h.lt
  obtain ⟨hB, v, hb, hO, hne⟩ := h
  exact ⟨hB, v, (hc.block b hl (fun x => x)).trans hb, hO.new hc, hne⟩
theorem IsB.new {B b : Nat} {l : Bytes} {w w' : World} (h : IsB B b l w) (hc : Chg None w w') : IsB B b l w' := by
  obtain ⟨p, hp, h⟩ := h
  exact ⟨p, hp, h.new hc⟩
theorem IsB.kept {G : Nat → Prop} {B b : Nat} {l : Bytes} {w w' : World} (h : IsB B b l w) (hc : Chg G w w') (hb : ¬ G b) (hr : ∀ g, ByteRow w g → ¬ G g) : IsB B b l w' := by
  obtain ⟨p, hp, h⟩ := h
  have hl := h.lt
  obtain ⟨hB, v, hbk, hO, hne⟩ := h
  refine ⟨p, hp, hB, v, (hc.block b hl hb).trans hbk, hO.kept hc (fun g hg => hr g ?_), hne⟩
  rcases hO.1.2 with ⟨rfl, _⟩ | ⟨g', cap, cur, rfl, _, hgg, _⟩
  · simp [Value.ownBlock] at hg
  · simp [Value.ownBlock] at hg
    subst hg
    exact ⟨_, _, hgg⟩
/-- 'var b strings.Builder' -/
theorem IsB.made (w : World) : IsB w.heap.size w.heap.size [] (w.alloc (.cells #[.pointer none, .slice none 0 0] 89)) :=
  ⟨_, .inl rfl, Nat.le_refl _, _, heap_alloc_new w _, ⟨World.ownsRow_nil _ _ _ _, fun g h => by simp [Value.ownBlock] at h⟩, by simp [Value.ownBlock]⟩

theorem ownsRow_base {w : World} {B : Nat} {e : TypeId} {size : Nat} {v : Value} {n : Nat} {xs : List Value} (h : w.ownsRow 0 e size v n xs) (hB : ∀ g, v.ownBlock = some g → B ≤ g) : w.ownsRow B e size v n xs := by
  refine ⟨h.1, ?_⟩
  rcases h.2 with hn | ⟨g, cap, cur, hv, _, r⟩
  · exact .inl hn
  · exact .inr ⟨g, cap, cur, hv, hB g (by rw [hv]; rfl), r⟩
theorem ownsRow_zero {w : World} {B : Nat} {e : TypeId} {size : Nat} {v : Value} {n : Nat} {xs : List Value} (h : w.ownsRow B e size v n xs) : w.ownsRow 0 e size v n xs ∧ ∀ g, v.ownBlock = some g → B ≤ g := by
  refine ⟨⟨h.1, ?_⟩, fun g hg => (h.lt g hg).1⟩
  rcases h.2 with hn | ⟨g, cap, cur, hv, _, r⟩
  · exact .inl hn
  · exact .inr ⟨g, cap, cur, hv, Nat.zero_le _, r⟩

/-- of an owned row of bytes, as it is written onto, the blocks are what a builder may write -/
theorem row_bfr {B b : Nat} {w : World} {v : Value} {l : Bytes} (h : OBytes (fun g => B ≤ g) w v l) : ∀ g, some g = v.ownBlock → Bfr B w b g := by
  intro g hg
  refine ⟨h.2 g hg.symm, .inr ?_⟩
  rcases h.1.2 with ⟨rfl, _⟩ | ⟨g', cap, cur, rfl, _, hgg, _⟩
  · simp [Value.ownBlock] at hg
  · simp [Value.ownBlock] at hg
    subst hg
    exact ⟨_, _, hgg⟩

theorem run_noEsc (x : Value) (w : World) : (callFunc 85 #[x]).run Tryd.prog w = .ok (.value x) w := by
  rw [run_callFunc_extern Tryd.func85 (by kernel_rfl) (by kernel_rfl) (by kernel_rfl) (e := Extern.AbiNoEscape.same) (by kernel_rfl), Lib.run_noEscape]
  rfl
theorem copyCheck_ok (B b : Nat) (l : Bytes) (w : World) (h : IsB B b l w) :
    Calls Tryd.prog 67 #[.pointer (some ⟨b, 0, none⟩)] w (fun e w' => e = .returned (.tuple #[]) ∧ Bld B b (.pointer (some ⟨b, 0, none⟩)) l w' ∧ Chg (Bfr B w b) w w') := by
  obtain ⟨p, hp, hB, v, hbk, hO, hne⟩ := h
  have c0 : w.cell? ⟨b, 0, none⟩ = some p := by rw [cell_of_row w b 0 _ _ _ hbk]; rfl
  have f0 : w.frozen? ⟨b, 0, none⟩ = false := frozen_of_row w b 0 _ _ hbk
  obtain ⟨j, hj, hjs⟩ := Option.map_eq_some_iff.1 (show (Tryd.prog.info? 89).map (·.size) = some 2 by kernel_rfl)
  have hsh : w.shape? b = some (89, 2) := by simp [World.shape?, hbk]
  have q1 := Lib.run_to_unsafe (P := Tryd.prog) w ⟨b, 0, none⟩ (src := 86) (dst := 123) (by kernel_rfl) (by kernel_rfl) hj (by rw [hjs]; decide) hsh (Nat.zero_lt_succ 1)
  have q2 := fun x => run_noEsc x w
  have q3 := Lib.run_from_unsafe (P := Tryd.prog) w ⟨b, 0, none⟩ (src := 123) (dst := 86) (by kernel_rfl) (by kernel_rfl) hj hsh (by kernel_rfl)
  have q4 := Lib.run_neq_ptr_same (P := Tryd.prog) w ⟨b, 0, none⟩ (tp := 86) (by kernel_rfl) hj
  have HB := Lib.hid hbk
  have HN := Lib.hid hne
  clear hbk hne hj hjs hsh
  rcases hp with rfl | rfl
  · go_enter Tryd.func67, Tryd.ntmps67
    go_wp2
    go_end0
    have hc : Chg (fun g => g = b) w (w.setCell ⟨b, 0, none⟩ (.pointer (some ⟨b, 0, none⟩))) := (Chg.refl (fun g => g = b) w).setCell (p := ⟨b, 0, none⟩) (fun _ => rfl) _
    exact ⟨rfl, ⟨hB, v, heap_setCell_same w b 0 _ _ _ HB.out, hO.kept hc (fun g hg e => HN.out (e ▸ hg)), HN.out⟩, hc.mono (fun k _ hk => ⟨by omega, .inl hk⟩)⟩
  · go_enter Tryd.func67, Tryd.ntmps67
    go_wp2
    go_end0
    exact ⟨rfl, ⟨hB, v, HB.out, hO, HN.out⟩, Chg.refl _ _⟩

/-- behind the append: the new slice is stored in the builder -/
theorem bld_put {B b : Nat} {w w1 W w2 : World} {u v' : Value} {l k : Bytes} {n : Nat} {xs : List Value} (hB : B ≤ b) (hc : Chg (Bfr B w b) w w1) (hbk : w1.heap[b]? = some (.cells #[.pointer (some ⟨b, 0, none⟩), u] 89 (0, 0))) (hO : OBytes (fun g => B ≤ g) w1 u l) (hne : u.ownBlock ≠ some b)
    (hcW : Chg None w1 W) (hs : w2.ownsRow 0 5 1 v' n xs) (hn : n = (l ++ k).length) (hx : xs = (l ++ k).map byteV) (hl : v'.ownBlock = u.ownBlock ∨ v'.ownBlock = some W.heap.size) (hg : W.grownBy w2 u.ownBlock) :
    (w2.heap[b]? = some (.cells #[.pointer (some ⟨b, 0, none⟩), u] 89 (0, 0))) ∧ IsB B b (l ++ k) (w2.setCell ⟨b, 1, none⟩ v') ∧ Chg (Bfr B w b) w (w2.setCell ⟨b, 1, none⟩ v') := by
  have hlt : b < w1.heap.size := (Array.getElem?_eq_some_iff.1 hbk).1
  have hBW : B ≤ W.heap.size := by have := hcW.size; omega
  obtain ⟨hO2, _⟩ := hO.app hcW hBW hs hn hx hl hg
  have hc2 : Chg (fun g => some g = u.ownBlock) w1 w2 := (hcW.any).trans (Chg.ofGrown hg)
  have hb2 := (hc2.block b hlt (fun e => hne e.symm)).trans hbk
  have hne2 : v'.ownBlock ≠ some b := by
    rcases hl with e | e
    · rw [e]; exact hne
    · rw [e]
      intro e2
      injection e2 with e2
      have := hcW.size
      omega
  have hcs : Chg (fun g => g = b) w2 (w2.setCell ⟨b, 1, none⟩ v') := (Chg.refl (fun g => g = b) w2).setCell (p := ⟨b, 1, none⟩) (fun _ => rfl) _
  refine ⟨hb2, ⟨_, .inr rfl, hB, v', heap_setCell_same w2 b 1 _ _ _ hb2, hO2.kept hcs (fun g hg e => hne2 (e ▸ hg)), hne2⟩, hc.bfr ((hc2.mono (fun k _ hk => row_bfr hO k hk)).then hcs (fun i _ e => ⟨by omega, .inl e⟩))⟩

set_option maxHeartbeats 400000 in
theorem bWriteByte_ok (B b : Nat) (l : Bytes) (c : UInt8) (w : World) (h : IsB B b l w) (hl : l.length + 1 ≤ 140737488355328) :
    Calls Tryd.prog 54 #[.pointer (some ⟨b, 0, none⟩), byteV c] w (fun e w' => e = .returned .nilIface ∧ IsB B b (l ++ [c]) w' ∧ Chg (Bfr B w b) w w') := by
  go_enter Tryd.func54, Tryd.ntmps54
  go_wp2_with (go_at_call 67; refine (copyCheck_ok B b l _ h).mono ?_)
  rintro e w1 ⟨rfl, ⟨hB, v, hbk, hO, hne⟩, hc1⟩
  obtain ⟨a1, k1, hv⟩ := hO.shape
  subst hv
  have c1 : w1.cell? ⟨b, 1, none⟩ = some (.slice a1 l.length k1) := by rw [cell_of_row w1 b 1 _ _ _ hbk]; rfl
  have HB := Lib.hid hbk
  clear hbk
  go_wp2_with (at_builtin; refine wpList_app _ elByte rfl _ _ _ rfl (hO.1.alloc _) rfl (Src.ofSlice _ elByte.ht ⟨w1.heap.size, 0, none⟩ 1 1 [byteV c] rfl (World.news_of_block (cs := #[byteV c]) (heap_alloc_new w1 _)) (by simp [Value.oneCell'])) rfl (by unfold maxLen; omega) (by omega) ?_; intro a2 c2 w2 hs2 hg2 hl2; obtain ⟨hb2, hI, hc⟩ := bld_put (k := [c]) hB hc1 HB.out hO hne ((Chg.refl None w1).alloc _) hs2 (by simp) (by simp) hl2 hg2; have d1 : w2.cell? ⟨b, 1, none⟩ = some (.slice a1 l.length k1) := (by rw [cell_of_row w2 b 1 _ _ _ hb2]; rfl); have f1 : w2.frozen? ⟨b, 1, none⟩ = false := frozen_of_row w2 b 1 _ _ hb2; clear hb2)
  go_ret
  exact ⟨rfl, hI, hc⟩

theorem srcText (x : Bytes) (w : World) : Src Tryd.prog 1 9 (encStr x) x.length (x.map byteV) w := by
  have h := Src.ofString (P := Tryd.prog) w (tx := 9) (by kernel_rfl) ⟨x.toArray⟩
  have e : (⟨x.toArray⟩ : ByteArray).size = x.length := by simp [ByteArray.size]
  rw [e] at h
  exact h
set_option maxHeartbeats 400000 in
theorem bWriteString_ok (B b : Nat) (l x : Bytes) (w : World) (h : IsB B b l w) (hl : l.length + x.length ≤ 140737488355328) :
    Calls Tryd.prog 55 #[.pointer (some ⟨b, 0, none⟩), encStr x] w (fun e w' => e = .returned (.tuple #[.int .i64 x.length, .nilIface]) ∧ IsB B b (l ++ x) w' ∧ Chg (Bfr B w b) w w') := by
  go_enter Tryd.func55, Tryd.ntmps55
  go_wp2_with (go_at_call 67; refine (copyCheck_ok B b l _ h).mono ?_)
  rintro e w1 ⟨rfl, ⟨hB, v, hbk, hO, hne⟩, hc1⟩
  obtain ⟨a1, k1, hv⟩ := hO.shape
  subst hv
  have c1 : w1.cell? ⟨b, 1, none⟩ = some (.slice a1 l.length k1) := by rw [cell_of_row w1 b 1 _ _ _ hbk]; rfl
  have HB := Lib.hid hbk
  clear hbk
  go_wp2_with (at_builtin; refine wpList_app _ elByte rfl _ _ _ rfl hO.1 rfl (srcText x _) rfl (by unfold maxLen; omega) (by omega) ?_; intro a2 c2 w2 hs2 hg2 hl2; obtain ⟨hb2, hI, hc⟩ := bld_put (k := x) hB hc1 HB.out hO hne (Chg.refl None w1) hs2 (by simp) (by simp) hl2 hg2; have d1 : w2.cell? ⟨b, 1, none⟩ = some (.slice a1 l.length k1) := (by rw [cell_of_row w2 b 1 _ _ _ hb2]; rfl); have f1 : w2.frozen? ⟨b, 1, none⟩ = false := frozen_of_row w2 b 1 _ _ hb2; clear hb2)
  go_ret2
  exact ⟨rfl, hI, hc⟩

theorem byteCells_map (l : Bytes) : Lib.byteCells l = l.map byteV := rfl
theorem IsB.shelf {B b : Nat} {l : Bytes} {w : World} (h : IsB B b l w) : Lib.IsBuilderF 89 5 B b (Lib.byteCells l) w := by
  obtain ⟨p, hp, hB, v, hbk, hO, hne⟩ := h
  have hr : w.ownsRow B 5 1 v (Lib.byteCells l).length (Lib.byteCells l) := by
    rw [byteCells_map, List.length_map]
    exact ownsRow_base hO.1 hO.2
  rcases hp with rfl | rfl
  · exact .inl (Lib.BuilderAtF.of ⟨hB, v, hbk, hr, hne⟩)
  · exact .inr (Lib.BuilderAtF.of ⟨hB, v, hbk, hr, hne⟩)
theorem bString_ok (B b : Nat) (l : Bytes) (w : World) (h : IsB B b l w) :
    Calls Tryd.prog 56 #[.pointer (some ⟨b, 0, none⟩)] w (fun e w' => e = .returned (encStr l) ∧ Chg (fun g => B ≤ g) w w') :=
  (Tryd.Builder_String_any_k B b l w h.shelf (by have := h.lt; have := h.le; omega)).mono fun _ _ h => ⟨h.1, Chg.ofBelow h.2.2.1⟩

theorem bLen_ok (B b : Nat) (l : Bytes) (w : World) (h : IsB B b l w) :
    Calls Tryd.prog 53 #[.pointer (some ⟨b, 0, none⟩)] w (fun e w' => e = .returned (.int .i64 l.length) ∧ w = w') :=
  (Tryd.Builder_Len_f B b (Lib.byteCells l) w h.shelf).mono fun _ _ h => ⟨by rw [h.1, byteCells_map, List.length_map], h.2.symm⟩

/-- 'var b strings.Builder; b.Grow(n)' -/
theorem bGrow_ok (n : Nat) (w : World) (hn : n ≤ 281474976710656) :
    Calls Tryd.prog 71 #[.pointer (some ⟨w.heap.size, 0, none⟩), .int .i64 n] (w.alloc (.cells #[.pointer none, .slice none 0 0] 89)) (fun e w' => e = .returned (.tuple #[]) ∧ IsB w.heap.size w.heap.size [] w' ∧ Chg None w w') := by
  refine (Tryd.Builder_Grow_fresh w.heap.size w.heap.size n _ (Nat.le_refl _) (heap_alloc_new w _) (by simp) hn).mono fun e w' h => ?_
  obtain ⟨rfl, ⟨hB, v, hbk, hr, hne⟩, hb⟩ := h
  obtain ⟨h1, h2⟩ := ownsRow_zero hr
  exact ⟨rfl, ⟨_, .inr rfl, hB, v, hbk, ⟨h1, h2⟩, hne⟩, ((Chg.refl None w).alloc _).then (Chg.ofBelow hb) (fun i hi e => by omega)⟩
end Go.Proofs.YtcbenidcaaegnaaDoor
