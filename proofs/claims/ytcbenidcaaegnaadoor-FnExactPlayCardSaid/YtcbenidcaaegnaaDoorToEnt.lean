/-
  Copies of what came in (toStringS, toEntry, toEntryS).
-/
import Derived.Test.YtcbenidcaaegnaaDoorOEnts
namespace Go.Proofs.YtcbenidcaaegnaaDoor
open Go.RowKit
open Uv (Bytes Ent KV lk vals has addAll del sett add keys Uniq bulk bulkS kept)

/-- a new row of texts -/
def NewTexts (ss : List Bytes) (w : World) (e : Ending) (w' : World) : Prop :=
  ∃ a cap, e = .returned (.slice a ss.length cap) ∧ OStrs (fun g => w.heap.size ≤ g) w' (.slice a ss.length cap) ss ∧ Chg None w w'

theorem take_set_succ {α : Type} {xs ys : List α} {k : Nat} {y : α} (hx : k < xs.length) (hy : ys[k]? = some y) (h : xs.take k = ys.take k) : (xs.set k y).take (k + 1) = ys.take (k + 1) := by
  have hyl := (List.getElem?_eq_some_iff.1 hy).1
  have hyv := (List.getElem?_eq_some_iff.1 hy).2
  rw [List.take_succ_eq_append_getElem (by simpa using hx), List.take_succ_eq_append_getElem hyl, List.take_set_of_le (Nat.le_refl _), h]
  simp [hyv]

theorem own_cell {w : World} {e : TypeId} {size g n cap : Nat} {xs : List Value} (h : w.ownsRow 0 e size (.slice (some ⟨g, 0, none⟩) n cap) n xs) {j : Nat} (hj : j < n * size) : ∃ old, w.cell? ⟨g, j, none⟩ = some old ∧ w.frozen? ⟨g, j, none⟩ = false := by
  obtain ⟨x, hx⟩ := get_of_len h.1 hj
  exact ⟨x, (h.cellAt j hj).trans hx, h.frozenAt j⟩

theorem chg_set1 {a w : World} {B i : Nat} {x : Value} (h : Chg (fun g => g = B) a w) : Chg (fun g => g = B) a (w.setCell ⟨B, i, none⟩ x) := h.setCell (p := ⟨B, i, none⟩) (fun _ => rfl) _
theorem chg_set2 {a w : World} {B i j : Nat} {x y : Value} (h : Chg (fun g => g = B) a w) : Chg (fun g => g = B) a ((w.setCell ⟨B, i, none⟩ x).setCell ⟨B, j, none⟩ y) := chg_set1 (chg_set1 h)

theorem new_in {w w' : World} (h : Chg None w w') {g : Nat} (hg : g < w.heap.size) : g < w'.heap.size := Nat.lt_of_lt_of_le hg h.size

/-- a new slice of entries -/
def NewEnts (es : KV) (w : World) (e : Ending) (w' : World) : Prop :=
  ∃ a cap, e = .returned (.slice a es.length cap) ∧ OEnts (fun g => w.heap.size ≤ g) w' (.slice a es.length cap) es ∧ Chg None w w'

set_option maxHeartbeats 400000 in
theorem toStringS_ok (F : Nat → Prop) (v : Value) (ss : List Bytes) (w : World) (hv : RStrs F w v ss) (hn : ss.length * 16 ≤ 281474976710656) :
    Calls Tryd.prog 62 #[v] w (NewTexts ss w) := by
  obtain ⟨a, ca, rfl, ha1, ha2, ha3⟩ := hv
  have HA := Lib.hid ha3
  clear ha3
  have hml : ss.length ≤ maxLen := by omega
  unfold maxLen at ha2
  go_enter Tryd.func62, Tryd.ntmps62
  go_wp2_with (at_make; refine wpList_mk elStr rfl _ _ rfl ss.length rfl rfl (by omega) hml ?_; intro w1 hown hch hsz)
  have hxl := hown.1
  go_loopw [4] (fun i wr => ∃ k : Nat, k ≤ ss.length ∧ i = .int .i64 k ∧ ∃ xs : List Value, wr.ownsRow 0 9 1 (.slice (some ⟨w.heap.size, 0, none⟩) ss.length ss.length) ss.length xs ∧ xs.take k = (ss.map encStr).take k ∧ Chg None w wr) (fun i _ => ss.length - (intOf i).toNat)
  case atStart => exact ⟨0, Nat.zero_le _, rfl, _, hown, by simp, hch⟩
  case round =>
    clear hown hch hxl hsz
    obtain ⟨k, hk, rfl, xs, hown, htk, hch⟩ := hrel
    have HT := Lib.hid htk
    clear htk
    by_cases hlt : k < ss.length
    · obtain ⟨b, off, rfl, _, hcell⟩ := HA.out k ss[k] (by simp [hlt])
      have h1 := hch.cell hcell (fun x => x)
      clear hcell
      obtain ⟨old, hc2, hf2⟩ := own_cell hown (j := k) (by omega)
      have HX : Hid (xs.length = ss.length) := by have := hown.1; exact (by omega : xs.length = ss.length)
      have hst := (hown.stored k (encStr ss[k])).1
      go_wp2
      go_roundw
      case rel =>
        refine ⟨k + 1, by omega, by go_num, _, hst, take_set_succ (by rw [HX.out]; exact hlt) (by simp [hlt]) HT.out, hch.setCell (fun h => absurd h (Nat.lt_irrefl _)) _⟩
      case measure => simp [intOf]; omega
    · go_wp2
      go_ret
      have hxl : xs.length = ss.length := by have := hown.1; omega
      have hx : xs = ss.map encStr := by
        have := HT.out
        rwa [List.take_of_length_le (by omega), List.take_of_length_le (by simp; omega)] at this
      subst hx
      exact ⟨_, _, rfl, ⟨hown, fun g hg => Nat.le_of_eq (own_new hg).symm⟩, hch⟩

/-- a block of two cells -/
theorem blk2 {w : World} {B : Nat} {t : TypeId} {x y : Value} (h : w.heap[B]? = some (.cells #[x, y] t (0, 0))) :
    w.cell? ⟨B, 0, none⟩ = some x ∧ w.cell? ⟨B, 1, none⟩ = some y ∧ w.frozen? ⟨B, 0, none⟩ = false ∧ w.frozen? ⟨B, 1, none⟩ = false :=
  ⟨by rw [cell_of_row w B 0 _ t (0, 0) h]; rfl, by rw [cell_of_row w B 1 _ t (0, 0) h]; rfl, frozen_of_row w B 0 _ t h, frozen_of_row w B 1 _ t h⟩

theorem alloc3_blocks (w : World) (o1 o2 o3 : Obj) : (((w.alloc o1).alloc o2).alloc o3).heap[w.heap.size + 1]? = some o2 ∧ (((w.alloc o1).alloc o2).alloc o3).heap[w.heap.size + 1 + 1]? = some o3 := by
  constructor
  · rw [Below.heap_alloc _ _ _ (by simp)]
    have := heap_alloc_new (w.alloc o1) o2
    simpa using this
  · have := heap_alloc_new ((w.alloc o1).alloc o2) o3
    simpa using this

/-- a new entry -/
def NewEnt (e0 : Ent) (w : World) (e : Ending) (w' : World) : Prop :=
  ∃ a cap, e = .returned (.agg #[encStr e0.1, .slice a e0.2.length cap]) ∧ OStrs (fun g => w.heap.size ≤ g) w' (.slice a e0.2.length cap) e0.2 ∧ Chg None w w'

set_option maxHeartbeats 400000 in
theorem toEntry_ok (F : Nat → Prop) (sv : Value) (e0 : Ent) (w : World) (hv : RStrs F w sv e0.2) (hn : e0.2.length * 16 ≤ 281474976710656) :
    Calls Tryd.prog 37 #[.agg #[encStr e0.1, sv]] w (NewEnt e0 w) := by
  obtain ⟨a, ca, hsv, -⟩ := id hv
  subst hsv
  go_enter Tryd.func37, Tryd.ntmps37
  go_wp2_with (go_at_call 62; refine (toStringS_ok F _ e0.2 _ (hv.new ((((Chg.refl _ _).alloc _).alloc _).alloc _)) hn).mono ?_; rintro e w1 ⟨a1, c1, rfl, hs1, hc1⟩; obtain ⟨p1, p2, p3, p4⟩ := blk2 ((hc1.block _ (by simp) (fun x => x)).trans (alloc3_blocks w _ _ _).1); obtain ⟨q1, q2, q3, q4⟩ := blk2 ((hc1.block _ (by simp) (fun x => x)).trans (alloc3_blocks w _ _ _).2))
  refine bodyPost_ret (v := .agg #[encStr e0.1, .slice a1 e0.2.length c1]) (by simp [results, Tryd.results37, go_sem, p1, p2]) rfl ?_
  have hsz := hc1.size
  simp only [World.size_alloc] at hsz
  refine ⟨a1, c1, rfl, ?_, ?_⟩
  · refine (hs1.kept (G := fun g => g < w.heap.size + 3) ((((Chg.refl _ _).setCell ?_ _).setCell ?_ _).setCell ?_ _) (fun g hg => ?_)).mono (fun g _ hg => ?_)
    · intro _; show w.heap.size + 1 + 1 < w.heap.size + 3; omega
    · intro _; show w.heap.size + 1 < w.heap.size + 3; omega
    · intro _; show w.heap.size + 1 < w.heap.size + 3; omega
    · have := hs1.2 g hg
      simp only [World.size_alloc] at this
      omega
    · simp only [World.size_alloc] at hg
      omega
  · refine ((((((((Chg.refl None w).alloc _).alloc _).alloc _).none hc1).setCell ?_ _).setCell ?_ _).setCell ?_ _)
    all_goals (intro h; simp at h; try omega)


theorem lie_set {F : Nat → Prop} {w w2 : World} {es : KV} {xs svs : List Value} {k : Nat} {e : Ent} {sv : Value} (h : Lie F w (es.take k) xs svs) (hk : k < es.length) (he : es[k] = e) (h1 : svs.length = k) (hx : xs.length = es.length * 2)
    (hkp : ∀ s ∈ svs, ∀ ss, OStrs F w s ss → OStrs F w2 s ss) (hsv : OStrs F w2 sv e.2) : Lie F w2 (es.take (k + 1)) ((xs.set (k * 2) (encStr e.1)).set (k * 2 + 1) sv) (svs ++ [sv]) := by
  intro i e' sv' he' hs
  rw [List.getElem?_take] at he'
  split at he'
  · rename_i hi
    by_cases hik : i < k
    · rw [List.getElem?_append_left (by omega)] at hs
      obtain ⟨a1, a2, a3⟩ := h i e' sv' (by rw [List.getElem?_take, if_pos hik]; exact he') hs
      rw [List.getElem?_set_ne (by omega), List.getElem?_set_ne (by omega), List.getElem?_set_ne (by omega), List.getElem?_set_ne (by omega)]
      exact ⟨a1, a2, hkp sv' (List.mem_of_getElem? hs) _ a3⟩
    · obtain rfl : i = k := by omega
      rw [List.getElem?_append_right (by omega), h1, Nat.sub_self] at hs
      simp at hs
      subst hs
      rw [List.getElem?_eq_getElem hk, he] at he'
      injection he' with he'
      subst he'
      rw [List.getElem?_set_ne (by omega), List.getElem?_set_self (by omega), List.getElem?_set_self (by simp; omega)]
      exact ⟨rfl, rfl, hsv⟩
  · cases he'

set_option maxHeartbeats 1000000 in
theorem toEntryS_ok (F : Nat → Prop) (v : Value) (es : KV) (w : World) (hv : REnts F w v es) (hN : bulk es ≤ 4194304) :
    Calls Tryd.prog 14 #[v] w (NewEnts es w) := by
  obtain ⟨a, ca, rfl, ha1, ha2, ha3⟩ := hv
  have hln := Uv.length_le_bulk es
  have HA := Lib.hid ha3
  clear ha3
  have hml : es.length ≤ maxLen := by omega
  unfold maxLen at ha2
  go_enter Tryd.func14, Tryd.ntmps14
  go_wp2_with (at_make; refine wpList_mk elEnt rfl _ _ rfl es.length rfl rfl (by omega) hml ?_; intro w1 hown hch hsz)
  go_loopw [4] (fun i wr => ∃ k : Nat, k ≤ es.length ∧ i = .int .i64 k ∧ ∃ xs svs : List Value, svs.length = k ∧ wr.ownsRow 0 28 2 (.slice (some ⟨w.heap.size, 0, none⟩) es.length es.length) es.length xs ∧ Lie (fun g => w.heap.size ≤ g) wr (es.take k) xs svs ∧ Apart svs ∧ Chg None w wr) (fun i _ => es.length - (intOf i).toNat)
  case atStart => exact ⟨0, Nat.zero_le _, rfl, _, [], rfl, hown, fun i e sv he => by simp at he, fun i j si sj _ h => by simp at h, hch⟩
  case round =>
    clear hown hch hsz
    obtain ⟨k, hk, rfl, xs, svs, hsl, hown, hlie, hap, hch⟩ := hrel
    have HS := Lib.hid hsl
    clear hsl
    by_cases hlt : k < es.length
    · obtain ⟨b, off, sv, rfl, _, hc1, hc2, hr⟩ := HA.out k es[k] (by simp [hlt])
      have hc1 := hch.cell hc1 (fun x => x)
      have hc2 := hch.cell hc2 (fun x => x)
      have hr := hr.new hch
      have hbl := Uv.mem_le_bulk (List.getElem_mem hlt)
      have hvl := Uv.length_le_bulkS es[k].2
      obtain ⟨a2, cap2, hsv, -⟩ := id hr
      subst hsv
      go_wp2_with (go_at_call 37; refine (toEntry_ok F _ es[k] _ hr (by omega)).mono ?_; rintro e w2 ⟨a3, c3, rfl, hs3, hc3⟩; have hown2 := ownsRow_chg hown hc3 (fun _ _ x => x); obtain ⟨o1, p1, p2⟩ := own_cell hown2 (j := k * 2) (by omega); obtain ⟨o2, q1, q2⟩ := own_cell hown2 (j := k * 2 + 1) (by omega))
      have hB : w.heap.size < wr.heap.size := (hown.lt w.heap.size rfl).2
      have hsl : svs.length = (es.take k).length := by rw [HS.out, List.length_take]; omega
      have hB2 : w.heap.size < w2.heap.size := Nat.lt_of_lt_of_le hB hc3.size
      go_roundw
      case rel =>
        refine ⟨k + 1, by omega, by go_num, _, svs ++ [.slice a3 es[k].2.length c3], by simp [HS.out], ((hown2.stored (k * 2) (encStr es[k].1)).1.stored (k * 2 + 1) (.slice a3 es[k].2.length c3)).1, ?_, ?_, ?_⟩
        · refine lie_set hlie hlt rfl HS.out hown.1 (fun s _ ss ho => ?_) ?_
          · exact ho.kept (G := fun g => g = w.heap.size) (chg_set2 hc3.any) (fun g hg e => row_ne hown ho (by rw [e]; rfl) hg)
          · refine (hs3.kept (G := fun g => g = w.heap.size) (chg_set2 (Chg.refl _ _)) (fun g hg e => ?_)).mono (fun g _ hg => by omega)
            have := hs3.2 g hg
            omega
        · refine apart_snoc hap (fun s hs => ?_)
          cases hg : (Value.slice a3 es[k].2.length c3).ownBlock with
          | none => exact .inl rfl
          | some g =>
            right
            intro e
            have h1 := hs3.2 g hg
            have h2 := hlie.row_lt hsl hs g e.symm
            omega
        · exact ((hch.none hc3).setCell (fun h => absurd h (Nat.lt_irrefl _)) _).setCell (fun h => absurd h (Nat.lt_irrefl _)) _
      case measure => simp [intOf]; omega
    · go_wp2
      go_ret
      have hk' : k = es.length := by omega
      refine ⟨_, _, rfl, ⟨xs, svs, by rw [HS.out, hk'], hown, fun g hg => Nat.le_of_eq (own_new hg).symm, ?_, hap⟩, hch⟩
      rwa [List.take_of_length_le (by omega)] at hlie
end Go.Proofs.YtcbenidcaaegnaaDoor
