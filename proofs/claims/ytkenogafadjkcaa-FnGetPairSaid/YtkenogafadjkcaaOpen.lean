/-
  The arguments of a law, opened: what a reading of memory says of slices of texts, of lists of these, of entries.
-/
import Derived.Test.YtkenogafadjkcaaRows
import Derived.Test.YtkenogafadjkcaaEnts
import Derived.Deep.Strs
import Derived.ProofKit
import Derived.OpenShut
import Derived.ShutString
import Derived.Below
namespace Go.Proofs.Ytkenogafadjkcaa
open Go.RowKit Go.ChangeShapes Go.WideShapes
open Uv (Bytes Ent KV bulk bulkS)

abbrev All : Nat → Prop := fun _ => True

theorem addr_form {w : World} {a : Addr} {v : Value} (h : w.cell? (a.add 0) = some v) : ∃ b off, a = ⟨b, off, none⟩ := by
  obtain ⟨b, off, sp⟩ := a
  have := World.cell?_spot h
  simp [Addr.add] at this
  subst this
  exact ⟨b, off, rfl⟩

theorem addr_at {w : World} {a : Addr} {n : Nat} {V : Nat → Value} (h : ∀ i, i < n → w.cell? (a.add i) = some (V i)) (hn : 0 < n) : ∃ b off, a = ⟨b, off, none⟩ ∧ ∀ i, i < n → w.cell? ⟨b, off + i, none⟩ = some (V i) := by
  obtain ⟨b, off, rfl⟩ := addr_form (h 0 hn)
  refine ⟨b, off, rfl, fun i hi => ?_⟩
  have := h i hi
  rwa [add_off] at this

theorem bulkAll_texts {H : Type} (ss : List Bytes) : Rows.uptoBulkAll (ss.map fun s => (DataW.lit (.string s) : DataW H)) = bulkS ss := by
  induction ss with
  | nil => simp [Rows.uptoBulkAll, bulkS]
  | cons x r ih => simp only [List.map_cons, Rows.uptoBulkAll, Rows.uptoBulk, ih, bulkS]


section
variable {H : Type} {enc : TypeId × Value → H} {W : World} {base : Nat} {sp : Nat → Bool} {held : Bool}

theorem open_texts {fuel : Nat} {cs : List Value} {x : DataW H × List MemPlace} (h : DataW.trod enc Try.prog W base sp held fuel 22 cs = some x) :
    ∃ v ss, cs = [v] ∧ RStrs All W v ss ∧ (∀ y ∈ ss, y.length ≤ maxLen) ∧ bulkS ss + 1 ≤ Rows.uptoBulk x.1 := by
  rcases Deep.open_strs (e := 9) (by kernel_rfl) (by kernel_rfl) (by kernel_rfl) h with ⟨rfl, rfl⟩ | ⟨a, len, cap, m, Sx, rfl, _, hl, hm, hmm, rfl, hx⟩
  · exact ⟨_, [], rfl, ⟨none, 0, rfl, Nat.le_refl _, by simp [maxLen], fun i x hx => by simp at hx⟩, fun y hy => by simp at hy, by simp [bulkS, Rows.uptoBulk]⟩
  · have hlm : len ≤ m := by rw [hmm]; split <;> omega
    refine ⟨_, (List.range len).map fun i => (Sx i).data.toList, rfl, ⟨some a, cap, by simp, by simpa using hl, hm, fun i y hy => ?_⟩, fun y hy => ?_, ?_⟩
    · simp only [List.getElem?_map, Option.map_eq_some_iff] at hy
      obtain ⟨j, hj, rfl⟩ := hy
      have hi := (List.getElem?_eq_some_iff.1 hj).1
      simp only [List.length_range] at hi
      simp [hi] at hj
      subst hj
      obtain ⟨b, off, rfl, hc⟩ := addr_at (w := W) (a := a) (n := len) (V := fun i => .string (Sx i)) (fun i hi => (hx i (by omega)).1) (by omega)
      exact ⟨b, off, rfl, trivial, by rw [hc i hi, str_eta]⟩
    · obtain ⟨j, hj, rfl⟩ := List.mem_map.1 hy
      have hj' := List.mem_range.1 hj
      rw [size_toList]
      exact (hx j (by omega)).2
    · simp only [Rows.uptoBulk]
      have := bulkAll_texts (H := H) ((List.range len).map fun i => (Sx i).data.toList)
      rw [List.map_map] at this
      have e : (List.range len).map ((fun s => (DataW.lit (.string s) : DataW H)) ∘ fun i => (Sx i).data.toList) = (List.range len).map fun i => DataW.lit (.string (Sx i).data.toList) := rfl
      rw [e] at this
      omega

/-- of a family: the list of the first n -/
def listOf {α : Type} (n : Nat) (f : Nat → α) : List α := (List.range n).map f
theorem length_listOf {α : Type} (n : Nat) (f : Nat → α) : (listOf n f).length = n := by simp [listOf]
theorem getElem?_listOf {α : Type} {n : Nat} {f : Nat → α} {i : Nat} {x : α} (h : (listOf n f)[i]? = some x) : i < n ∧ x = f i := by
  unfold listOf at h
  simp only [List.getElem?_map, Option.map_eq_some_iff] at h
  obtain ⟨j, hj, rfl⟩ := h
  have hi := (List.getElem?_eq_some_iff.1 hj).1
  simp only [List.length_range] at hi
  simp [hi] at hj
  exact ⟨hi, by rw [hj]⟩
theorem mem_listOf {α : Type} {n : Nat} {f : Nat → α} {x : α} (h : x ∈ listOf n f) : ∃ i, i < n ∧ x = f i := by
  obtain ⟨i, hi⟩ := List.getElem?_of_mem h
  exact ⟨i, getElem?_listOf hi⟩


/-- how many values and letters -/
def bulkSS : List (List Bytes) → Nat
  | [] => 0
  | s :: r => bulkS s + 1 + bulkSS r

theorem bulkSS_le {D : Nat → DataW H} {V : Nat → List Bytes} (n m : Nat) (h : ∀ i, m ≤ i → i < m + n → bulkS (V i) + 1 ≤ Rows.uptoBulk (D i)) : bulkSS ((List.range' m n).map V) ≤ Rows.uptoBulkAll ((List.range' m n).map D) := by
  induction n generalizing m with
  | zero => simp [bulkSS, Rows.uptoBulkAll]
  | succ n ih =>
    rw [List.range'_succ]
    simp only [List.map_cons, bulkSS, Rows.uptoBulkAll]
    have h1 := h m (Nat.le_refl _) (by omega)
    have h2 := ih (m + 1) (fun i hi hi2 => h i (by omega) (by omega))
    omega


end
end Go.Proofs.Ytkenogafadjkcaa
