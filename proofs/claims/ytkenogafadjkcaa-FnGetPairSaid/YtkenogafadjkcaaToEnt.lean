/-
  Copies of what came in (toStringS, toEntry, toEntryS).
-/
import Derived.Test.YtkenogafadjkcaaOEnts
namespace Go.Proofs.Ytkenogafadjkcaa
open Go.RowKit
open Uv (Bytes Ent KV lk vals has addAll del sett add keys Uniq bulk bulkS kept)

/-- a new row of texts -/
def NewTexts (ss : List Bytes) (w : World) (e : Ending) (w' : World) : Prop :=
  ∃ a cap, e = .returned (.slice a ss.length cap) ∧ OStrs (fun g => w.heap.size ≤ g) w' (.slice a ss.length cap) ss ∧ Chg None w w'

theorem take_set_succ {α : Type} {xs ys : List α} {k : Nat} {y : α} (hx : k < xs.length) (hy : ys[k]? = some y) (h : xs.take k = ys.take k) : (xs.set k y).take (k + 1) = ys.take (k + 1) := by
  have hyl := (List.getElem?_eq_some_iff.1 hy).1
  have hyv := (List.getElem?_eq_some_iff.1 hy).2
  rw [List.take_succ_eq_append_getElem (by simpa using hx), List.take_succ_eq_append_getElem hyl, List.take_set_of_le (Nat.le_refl _), h]
  simp [hyv]

theorem own_cell {w : World} {e : TypeId} {size g n cap : Nat} {xs : List Value} (h : w.ownsRow 0 e size (.slice (some ⟨g, 0, none⟩) n cap) n xs) {j : Nat} (hj : j < n * size) : ∃ old, w.cell? ⟨g, j, none⟩ = some old ∧ w.frozen? ⟨g, j, none⟩ = false := by
  obtain ⟨x, hx⟩ := get_of_len h.1 hj
  exact ⟨x, (h.cellAt j hj).trans hx, h.frozenAt j⟩

theorem chg_set1 {a w : World} {B i : Nat} {x : Value} (h : Chg (fun g => g = B) a w) : Chg (fun g => g = B) a (w.setCell ⟨B, i, none⟩ x) := h.setCell (p := ⟨B, i, none⟩) (fun _ => rfl) _
theorem chg_set2 {a w : World} {B i j : Nat} {x y : Value} (h : Chg (fun g => g = B) a w) : Chg (fun g => g = B) a ((w.setCell ⟨B, i, none⟩ x).setCell ⟨B, j, none⟩ y) := chg_set1 (chg_set1 h)

theorem new_in {w w' : World} (h : Chg None w w') {g : Nat} (hg : g < w.heap.size) : g < w'.heap.size := Nat.lt_of_lt_of_le hg h.size

/-- a new slice of entries -/
def NewEnts (es : KV) (w : World) (e : Ending) (w' : World) : Prop :=
  ∃ a cap, e = .returned (.slice a es.length cap) ∧ OEnts (fun g => w.heap.size ≤ g) w' (.slice a es.length cap) es ∧ Chg None w w'


/-- a block of two cells -/
theorem blk2 {w : World} {B : Nat} {t : TypeId} {x y : Value} (h : w.heap[B]? = some (.cells #[x, y] t (0, 0))) :
    w.cell? ⟨B, 0, none⟩ = some x ∧ w.cell? ⟨B, 1, none⟩ = some y ∧ w.frozen? ⟨B, 0, none⟩ = false ∧ w.frozen? ⟨B, 1, none⟩ = false :=
  ⟨by rw [cell_of_row w B 0 _ t (0, 0) h]; rfl, by rw [cell_of_row w B 1 _ t (0, 0) h]; rfl, frozen_of_row w B 0 _ t h, frozen_of_row w B 1 _ t h⟩

theorem alloc3_blocks (w : World) (o1 o2 o3 : Obj) : (((w.alloc o1).alloc o2).alloc o3).heap[w.heap.size + 1]? = some o2 ∧ (((w.alloc o1).alloc o2).alloc o3).heap[w.heap.size + 1 + 1]? = some o3 := by
  constructor
  · rw [Below.heap_alloc _ _ _ (by simp)]
    have := heap_alloc_new (w.alloc o1) o2
    simpa using this
  · have := heap_alloc_new ((w.alloc o1).alloc o2) o3
    simpa using this


end Go.Proofs.Ytkenogafadjkcaa
