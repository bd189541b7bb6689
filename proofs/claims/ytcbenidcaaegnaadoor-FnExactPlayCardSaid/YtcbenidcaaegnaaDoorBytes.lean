/-
  Rows of bytes: the slice type's facts; copy of a text into a row.
-/
import Derived.Test.YtcbenidcaaegnaaDoorBase
import Derived.Test.YtcbenidcaaegnaaDoorEscPure
import Derived.Test.YtcbenidcaaegnaaDoorElT
import Derived.Laws.IdiomStrings
namespace Go.Proofs.YtcbenidcaaegnaaDoor
open Go.RowKit
open Uv (Bytes)

theorem elByte : ElT Tryd.prog 87 5 (.int .u8 0) 1 1 := ElT.mk' (by kernel_rfl) (by kernel_rfl) rfl (by decide)

abbrev byteV (b : UInt8) : Value := .int .u8 (b.toNat : Int)

/-- block T is a row of at least n cells; its first ones are the bytes l -/
def RowAt (w : World) (T : Nat) (ty : TypeId) (n : Nat) (l : Bytes) : Prop :=
  ∃ cs : Array Value, w.heap[T]? = some (.cells cs ty (0, 0)) ∧ n ≤ cs.size ∧ cs.toList.take l.length = l.map byteV

theorem RowAt.lt {w : World} {T : Nat} {ty : TypeId} {n : Nat} {l : Bytes} (h : RowAt w T ty n l) : T < w.heap.size := by
  obtain ⟨cs, hb, _⟩ := h
  exact (Array.getElem?_eq_some_iff.1 hb).1
theorem RowAt.room {w : World} {T : Nat} {ty : TypeId} {n : Nat} {l : Bytes} (h : RowAt w T ty n l) {j : Nat} (hj : j < n) : ∃ old, w.cell? ⟨T, j, none⟩ = some old ∧ w.frozen? ⟨T, j, none⟩ = false := by
  obtain ⟨cs, hb, hn, _⟩ := h
  refine ⟨cs[j]'(by omega), ?_, frozen_of_row w T j cs ty hb⟩
  rw [cell_of_row w T j cs ty (0, 0) hb]
  simp [show j < cs.size by omega]
theorem RowAt.put {w : World} {T : Nat} {ty : TypeId} {n : Nat} {l : Bytes} (h : RowAt w T ty n l) (hl : l.length < n) (b : UInt8) : RowAt (w.setCell ⟨T, l.length, none⟩ (byteV b)) T ty n (l ++ [b]) := by
  obtain ⟨cs, hb, hn, ht⟩ := h
  refine ⟨cs.setIfInBounds l.length (byteV b), heap_setCell_same w T l.length cs ty (byteV b) hb, by simpa using hn, ?_⟩
  rw [Array.toList_setIfInBounds, List.length_append, List.length_singleton, List.take_succ_eq_append_getElem (by simp; omega), List.take_set_of_le (Nat.le_refl _), ht, List.map_append]
  simp
theorem RowAt.put3 {w : World} {T : Nat} {ty : TypeId} {n : Nat} {l : Bytes} (h : RowAt w T ty n l) (hl : l.length + 3 ≤ n) (a b c : UInt8) :
    RowAt (((w.setCell ⟨T, l.length, none⟩ (byteV a)).setCell ⟨T, l.length + 1, none⟩ (byteV b)).setCell ⟨T, l.length + 2, none⟩ (byteV c)) T ty n (l ++ [a, b, c]) := by
  have h1 := h.put (by omega) a
  have h2 := h1.put (by simp; omega) b
  have h3 := h2.put (by simp; omega) c
  simpa using h3
theorem RowAt.cell {w : World} {T : Nat} {ty : TypeId} {n : Nat} {l : Bytes} (h : RowAt w T ty n l) (j : Nat) (hj : j < l.length) : w.cell? ⟨T, j, none⟩ = some (byteV l[j]) := by
  obtain ⟨cs, hb, hn, ht⟩ := h
  rw [cell_of_row w T j cs ty (0, 0) hb]
  have h1 : (cs.toList.take l.length)[j]? = some (byteV l[j]) := by rw [ht]; simp [hj]
  rw [List.getElem?_take, if_pos hj] at h1
  simpa using h1
theorem RowAt.kept {F : Nat → Prop} {w w' : World} {T : Nat} {ty : TypeId} {n : Nat} {l : Bytes} (h : RowAt w T ty n l) (hc : Chg F w w') (hF : ¬ F T) : RowAt w' T ty n l := by
  have hl := h.lt
  obtain ⟨cs, hb, r⟩ := h
  exact ⟨cs, (hc.block T hl hF).trans hb, r⟩
/-- the text of such a row -/
theorem RowAt.text {w : World} {T : Nat} {ty : TypeId} {l : Bytes} {c : Nat} (h : RowAt w T ty l.length l) : (convert 87 9 (.slice (some ⟨T, 0, none⟩) l.length c)).run Tryd.prog w = .ok (encStr l) w :=
  run_convert_bytes_back (P := Tryd.prog) w 87 9 5 ⟨T, 0, none⟩ c l (by kernel_rfl) (by kernel_rfl) (by kernel_rfl) (fun j hj => by
    have := h.cell j hj
    rw [show (⟨T, 0, none⟩ : Addr).add j = ⟨T, j, none⟩ from by unfold Addr.add; split <;> simp_all]
    exact this)

theorem run_hex0 (W : World) : ∀ (n : Nat), n < 16 → (Instr.index 9 (.string ⟨#[48, 49, 50, 51, 52, 53, 54, 55, 56, 57, 65, 66, 67, 68, 69, 70]⟩) (.int .u8 (n : Int))).run Tryd.prog W = .ok (.int .u8 ((Uv.hexD n).toNat : Int)) W
  | 0, _ => by kernel_rfl
  | 1, _ => by kernel_rfl
  | 2, _ => by kernel_rfl
  | 3, _ => by kernel_rfl
  | 4, _ => by kernel_rfl
  | 5, _ => by kernel_rfl
  | 6, _ => by kernel_rfl
  | 7, _ => by kernel_rfl
  | 8, _ => by kernel_rfl
  | 9, _ => by kernel_rfl
  | 10, _ => by kernel_rfl
  | 11, _ => by kernel_rfl
  | 12, _ => by kernel_rfl
  | 13, _ => by kernel_rfl
  | 14, _ => by kernel_rfl
  | 15, _ => by kernel_rfl
  | n + 16, h => by omega
/-- a digit of sixteen -/
theorem run_hex (W : World) (n : Nat) (C : Int) (hC : C = (n : Int)) (hn : n < 16) : (Instr.index 9 (.string ⟨#[48, 49, 50, 51, 52, 53, 54, 55, 56, 57, 65, 66, 67, 68, 69, 70]⟩) (.int .u8 C)).run Tryd.prog W = .ok (.int .u8 ((Uv.hexD n).toNat : Int)) W := by
  subst hC
  exact run_hex0 W n hn

/-- 'buf[:n]', buf an array of 64 bytes -/
theorem run_sliceAt_buf (B n : Nat) (C : Int) (hC : C = (n : Int)) (hn : n ≤ 64) (W : World) :
    (Instr.sliceAt 122 (.pointer (some ⟨B, 0, none⟩)) none (some (.int .i64 C)) none).run Tryd.prog W = .ok (.slice (some ⟨B, 0, none⟩) n 64) W := by
  subst hC
  have hu : Tryd.prog.underlying 122 = some (.array 64 5) := by kernel_rfl
  obtain ⟨i, hi, _, hs, _⟩ := elByte.info
  simp [Instr.sliceAt, run_underlying hu, Instr.sureAddr, Instr.sliceBounds, Instr.sliceBound, asIntOf, sizeOf, typeInfo, hi, Addr.add]
  omega
end Go.Proofs.YtcbenidcaaegnaaDoor
