/-
  The arguments of a law, opened: what a reading of memory says of slices of texts, of lists of these, of entries.
-/
import Derived.Test.YtcbenidcaaegnaaDoorRows
import Derived.Test.YtcbenidcaaegnaaDoorEnts
import Derived.Deep.Strs
import Derived.ProofKit
import Derived.OpenShut
import Derived.ShutString
import Derived.Below
namespace Go.Proofs.YtcbenidcaaegnaaDoor
open Go.RowKit Go.ChangeShapes Go.WideShapes
open Uv (Bytes Ent KV bulk bulkS)

abbrev All : Nat → Prop := fun _ => True

theorem addr_form {w : World} {a : Addr} {v : Value} (h : w.cell? (a.add 0) = some v) : ∃ b off, a = ⟨b, off, none⟩ := by
  obtain ⟨b, off, sp⟩ := a
  have := World.cell?_spot h
  simp [Addr.add] at this
  subst this
  exact ⟨b, off, rfl⟩

theorem addr_at {w : World} {a : Addr} {n : Nat} {V : Nat → Value} (h : ∀ i, i < n → w.cell? (a.add i) = some (V i)) (hn : 0 < n) : ∃ b off, a = ⟨b, off, none⟩ ∧ ∀ i, i < n → w.cell? ⟨b, off + i, none⟩ = some (V i) := by
  obtain ⟨b, off, rfl⟩ := addr_form (h 0 hn)
  refine ⟨b, off, rfl, fun i hi => ?_⟩
  have := h i hi
  rwa [add_off] at this

theorem bulkAll_texts {H : Type} (ss : List Bytes) : Rows.uptoBulkAll (ss.map fun s => (DataW.lit (.string s) : DataW H)) = bulkS ss := by
  induction ss with
  | nil => simp [Rows.uptoBulkAll, bulkS]
  | cons x r ih => simp only [List.map_cons, Rows.uptoBulkAll, Rows.uptoBulk, ih, bulkS]


section
variable {H : Type} {enc : TypeId × Value → H} {W : World} {base : Nat} {sp : Nat → Bool} {held : Bool}

theorem open_texts {fuel : Nat} {cs : List Value} {x : DataW H × List MemPlace} (h : DataW.trod enc Tryd.prog W base sp held fuel 22 cs = some x) :
    ∃ v ss, cs = [v] ∧ RStrs All W v ss ∧ (∀ y ∈ ss, y.length ≤ maxLen) ∧ bulkS ss + 1 ≤ Rows.uptoBulk x.1 := by
  rcases Deep.open_strs (e := 9) (by kernel_rfl) (by kernel_rfl) (by kernel_rfl) h with ⟨rfl, rfl⟩ | ⟨a, len, cap, m, Sx, rfl, _, hl, hm, hmm, rfl, hx⟩
  · exact ⟨_, [], rfl, ⟨none, 0, rfl, Nat.le_refl _, by simp [maxLen], fun i x hx => by simp at hx⟩, fun y hy => by simp at hy, by simp [bulkS, Rows.uptoBulk]⟩
  · have hlm : len ≤ m := by rw [hmm]; split <;> omega
    refine ⟨_, (List.range len).map fun i => (Sx i).data.toList, rfl, ⟨some a, cap, by simp, by simpa using hl, hm, fun i y hy => ?_⟩, fun y hy => ?_, ?_⟩
    · simp only [List.getElem?_map, Option.map_eq_some_iff] at hy
      obtain ⟨j, hj, rfl⟩ := hy
      have hi := (List.getElem?_eq_some_iff.1 hj).1
      simp only [List.length_range] at hi
      simp [hi] at hj
      subst hj
      obtain ⟨b, off, rfl, hc⟩ := addr_at (w := W) (a := a) (n := len) (V := fun i => .string (Sx i)) (fun i hi => (hx i (by omega)).1) (by omega)
      exact ⟨b, off, rfl, trivial, by rw [hc i hi, str_eta]⟩
    · obtain ⟨j, hj, rfl⟩ := List.mem_map.1 hy
      have hj' := List.mem_range.1 hj
      rw [size_toList]
      exact (hx j (by omega)).2
    · simp only [Rows.uptoBulk]
      have := bulkAll_texts (H := H) ((List.range len).map fun i => (Sx i).data.toList)
      rw [List.map_map] at this
      have e : (List.range len).map ((fun s => (DataW.lit (.string s) : DataW H)) ∘ fun i => (Sx i).data.toList) = (List.range len).map fun i => DataW.lit (.string (Sx i).data.toList) := rfl
      rw [e] at this
      omega

/-- of a family: the list of the first n -/
def listOf {α : Type} (n : Nat) (f : Nat → α) : List α := (List.range n).map f
theorem length_listOf {α : Type} (n : Nat) (f : Nat → α) : (listOf n f).length = n := by simp [listOf]
theorem getElem?_listOf {α : Type} {n : Nat} {f : Nat → α} {i : Nat} {x : α} (h : (listOf n f)[i]? = some x) : i < n ∧ x = f i := by
  unfold listOf at h
  simp only [List.getElem?_map, Option.map_eq_some_iff] at h
  obtain ⟨j, hj, rfl⟩ := h
  have hi := (List.getElem?_eq_some_iff.1 hj).1
  simp only [List.length_range] at hi
  simp [hi] at hj
  exact ⟨hi, by rw [hj]⟩
theorem mem_listOf {α : Type} {n : Nat} {f : Nat → α} {x : α} (h : x ∈ listOf n f) : ∃ i, i < n ∧ x = f i := by
  obtain ⟨i, hi⟩ := List.getElem?_of_mem h
  exact ⟨i, getElem?_listOf hi⟩


/-- how many values and letters -/
def bulkSS : List (List Bytes) → Nat
  | [] => 0
  | s :: r => bulkS s + 1 + bulkSS r

theorem bulkSS_le {D : Nat → DataW H} {V : Nat → List Bytes} (n m : Nat) (h : ∀ i, m ≤ i → i < m + n → bulkS (V i) + 1 ≤ Rows.uptoBulk (D i)) : bulkSS ((List.range' m n).map V) ≤ Rows.uptoBulkAll ((List.range' m n).map D) := by
  induction n generalizing m with
  | zero => simp [bulkSS, Rows.uptoBulkAll]
  | succ n ih =>
    rw [List.range'_succ]
    simp only [List.map_cons, bulkSS, Rows.uptoBulkAll]
    have h1 := h m (Nat.le_refl _) (by omega)
    have h2 := ih (m + 1) (fun i hi hi2 => h i (by omega) (by omega))
    omega

theorem open_textss {fuel : Nat} {cs : List Value} {x : DataW H × List MemPlace} (h : DataW.trod enc Tryd.prog W base sp held fuel 23 cs = some x) :
    ∃ v vss, cs = [v] ∧ RTextss All W v vss ∧ (∀ ss ∈ vss, ∀ y ∈ ss, y.length ≤ maxLen) ∧ bulkSS vss + 1 ≤ Rows.uptoBulk x.1 := by
  rcases Deep.open_slice1 (e := 22) (by kernel_rfl) (by kernel_rfl) h with ⟨rfl, rfl⟩ | ⟨a, len, cap, m, n, V, D, Pl, rfl, _, hl, hm, hmm, rfl, hx⟩
  · exact ⟨_, [], rfl, ⟨none, 0, rfl, Nat.le_refl _, by simp [maxLen], fun i x hx => by simp at hx⟩, fun y hy => by simp at hy, by simp [bulkSS, Rows.uptoBulk]⟩
  · have hlm : len ≤ m := by rw [hmm]; split <;> omega
    have each : ∀ i, i < len → ∃ ss : List Bytes, RStrs All W (V i) ss ∧ (∀ y ∈ ss, y.length ≤ maxLen) ∧ bulkS ss + 1 ≤ Rows.uptoBulk (D i) := fun i hi => by
      obtain ⟨v, ss, hv, h1, h2, h3⟩ := open_texts (hx i (by omega)).2
      injection hv with hv
      subst hv
      exact ⟨ss, h1, h2, h3⟩
    obtain ⟨S, hS⟩ := Deep.choose_lt each
    refine ⟨_, listOf len S, rfl, ⟨some a, cap, by rw [length_listOf], by rw [length_listOf]; exact hl, hm, fun i y hy => ?_⟩, fun ss hss => ?_, ?_⟩
    · obtain ⟨hi, rfl⟩ := getElem?_listOf hy
      obtain ⟨b, off, rfl, hc⟩ := addr_at (w := W) (a := a) (n := len) (V := V) (fun i hi => (hx i (by omega)).1) (by omega)
      exact ⟨b, off, V i, rfl, trivial, hc i hi, (hS i hi).1⟩
    · obtain ⟨i, hi, rfl⟩ := mem_listOf hss
      exact (hS i hi).2.1
    · simp only [Rows.uptoBulk]
      have := bulkSS_le (D := D) (V := S) len 0 (fun i _ hi => (hS i (by omega)).2.2)
      rw [← List.range_eq_range'] at this
      unfold listOf
      omega

theorem open_ents {fuel : Nat} {cs : List Value} {x : DataW H × List MemPlace} (h : DataW.trod enc Tryd.prog W base sp held fuel 36 cs = some x) :
    ∃ v es, cs = [v] ∧ REnts All W v es ∧ (∀ e ∈ es, e.1.length ≤ maxLen ∧ ∀ y ∈ e.2, y.length ≤ maxLen) := by
  have hc2 : Tryd.prog.cellsOf 65 = 2 := by kernel_rfl
  have cells1 : Tryd.prog.cellsOf 9 = 1 := by kernel_rfl
  have cells1s : Tryd.prog.cellsOf 22 = 1 := by kernel_rfl
  rcases Deep.open_slice (e := 65) (by kernel_rfl) h with ⟨rfl, rfl⟩ | ⟨a, len, cap, m, n, D, Pl, rfl, _, hl, hm, hmm, rfl, hx⟩
  · exact ⟨_, [], rfl, ⟨none, 0, rfl, Nat.le_refl _, by simp [maxLen], fun i x hx => by simp at hx⟩, fun y hy => by simp at hy⟩
  · have hlm : len ≤ m := by rw [hmm]; split <;> omega
    rw [hc2] at hx
    have each : ∀ i, i < len → ∃ p : Ent × Value, W.cell? (a.add (i * 2)) = some (encStr p.1.1) ∧ W.cell? ((a.add (i * 2)).add 1) = some p.2 ∧ RStrs All W p.2 p.1.2 ∧ p.1.1.length ≤ maxLen ∧ ∀ y ∈ p.1.2, y.length ≤ maxLen := fun i hi => by
      obtain ⟨cs', h1, h2⟩ := hx i (by omega)
      obtain ⟨_, hlen, hcell⟩ := World.cells?_some h1
      match cs', hlen with
      | [c0, c1], _ =>
        obtain ⟨y0, y1, n', _, _, t0, t1⟩ := trod_struct2 Tryd.underlying65 h2
        simp only [List.drop_zero, List.drop_succ_cons, cells1, cells1s, List.take_succ_cons, List.take_zero] at t0 t1
        obtain ⟨s, hs, _, hsz⟩ := DataW.trod_string undK t0
        have hs' : c0 = .string s := by simpa using hs
        obtain ⟨v, ss, hv, g1, g2, _⟩ := open_texts t1
        have hv' : c1 = v := by simpa using hv
        subst hs'
        subst hv'
        refine ⟨((s.data.toList, ss), c1), ?_, ?_, g1, by rw [size_toList]; exact hsz, g2⟩
        · have := hcell 0 (by omega)
          simp [Addr.add] at this
          rw [← str_eta]
          simpa [Addr.add] using this
        · simpa using hcell 1 (by omega)
    obtain ⟨S, hS⟩ := Deep.choose_lt each
    refine ⟨_, listOf len (fun i => (S i).1), rfl, ⟨some a, cap, by rw [length_listOf], by rw [length_listOf]; exact hl, hm, fun i y hy => ?_⟩, fun e he => ?_⟩
    · obtain ⟨hi, rfl⟩ := getElem?_listOf hy
      obtain ⟨b, off, rfl⟩ := addr_form (w := W) (by simpa using (hS 0 (by omega)).1)
      obtain ⟨h1, h2, h3, _⟩ := hS i hi
      rw [add_off] at h1 h2
      rw [add_off] at h2
      exact ⟨b, off, (S i).2, rfl, trivial, h1, h2, h3⟩
    · obtain ⟨i, hi, rfl⟩ := mem_listOf he
      exact (hS i hi).2.2.2
end
end Go.Proofs.YtcbenidcaaegnaaDoor
