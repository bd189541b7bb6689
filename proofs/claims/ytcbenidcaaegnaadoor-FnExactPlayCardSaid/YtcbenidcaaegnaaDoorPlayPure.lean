/-
  PLAIN LEAN, NO PROGRAM: steps one behind the other, and what each of them tells.
-/
import Derived.Test.YtcbenidcaaegnaaDoorEncLaw
namespace Uv

/-- a step: its kind, its key, its value -/
abbrev St := Int × Bytes × Bytes
/-- what a step tells: a text, a bool, a list -/
abbrev Ans := Bytes × Bool × List Bytes
def stM (m : KV) (s : St) : KV := if s.1 = 0 then add m s.2.1 s.2.2 else if s.1 = 1 then sett m s.2.1 s.2.2 else if s.1 = 2 then del m s.2.1 else m
def stA (m : KV) (s : St) : Ans := if s.1 = 0 then ([], false, []) else if s.1 = 1 then ([], false, []) else if s.1 = 2 then ([], false, []) else if s.1 = 3 then (hd (vals m s.2.1), false, []) else if s.1 = 4 then ([], has m s.2.1, []) else if s.1 = 5 then (enc m, false, []) else ([], has m s.2.1, vals m s.2.1)
def plM (m : KV) (ss : List St) : KV := ss.foldl stM m
def plA : KV → List St → List Ans
  | _, [] => []
  | m, s :: r => stA m s :: plA (stM m s) r
theorem plA_snoc (m : KV) (ss : List St) (s : St) : plA m (ss ++ [s]) = plA m ss ++ [stA (plM m ss) s] := by
  induction ss generalizing m with
  | nil => rfl
  | cons x r ih => simp only [List.cons_append, plA, ih]; rfl
theorem plM_snoc (m : KV) (ss : List St) (s : St) : plM m (ss ++ [s]) = stM (plM m ss) s := by simp [plM]
theorem length_plA (m : KV) (ss : List St) : (plA m ss).length = ss.length := by
  induction ss generalizing m with
  | nil => rfl
  | cons x r ih => simp [plA, ih]
theorem Uniq.stM {m : KV} (h : Uniq m) (s : St) : Uniq (stM m s) := by
  unfold Uv.stM
  split
  · exact h.addAll _ _
  · split
    · exact (h.del _).addAll _ _
    · split
      · exact h.del _
      · exact h
theorem Uniq.plM {m : KV} (h : Uniq m) (ss : List St) : Uniq (plM m ss) := by
  induction ss generalizing m with
  | nil => exact h
  | cons x r ih => exact ih (h.stM x)
/-- how much steps may add -/
def bulkT : List St → Nat
  | [] => 0
  | s :: r => s.2.1.length + s.2.2.length + 2 + bulkT r
theorem bulkT_append (a b : List St) : bulkT (a ++ b) = bulkT a + bulkT b := by
  induction a with
  | nil => simp [bulkT]
  | cons x r ih => simp only [List.cons_append, bulkT, ih]; omega
theorem length_le_bulkT (a : List St) : 2 * a.length ≤ bulkT a := by
  induction a with
  | nil => simp
  | cons x r ih => simp only [List.length_cons, bulkT]; omega
theorem mem_le_bulkT {a : List St} {s : St} (h : s ∈ a) : s.2.1.length + s.2.2.length + 2 ≤ bulkT a := by
  induction a with
  | nil => cases h
  | cons y r ih =>
    simp only [bulkT]
    rcases List.mem_cons.1 h with e | e
    · subst e; omega
    · have := ih e; omega
theorem bulk_stM (m : KV) (s : St) : bulk (stM m s) ≤ bulk m + (s.2.1.length + s.2.2.length + 2) := by
  unfold stM
  split
  · have := bulk_add m s.2.1 s.2.2; omega
  · split
    · have := bulk_sett m s.2.1 s.2.2; omega
    · split
      · have := bulk_del m s.2.1; omega
      · omega
theorem bulk_plM (m : KV) (ss : List St) : bulk (plM m ss) ≤ bulk m + bulkT ss := by
  induction ss generalizing m with
  | nil => simp [plM, bulkT]
  | cons x r ih =>
    have h1 := ih (stM m x)
    have h2 := bulk_stM m x
    simp only [bulkT]
    have e : plM m (x :: r) = plM (stM m x) r := rfl
    rw [e]
    omega
theorem bulkT_take (a : List St) (n : Nat) : bulkT (a.take n) ≤ bulkT a := by
  have := bulkT_append (a.take n) (a.drop n)
  rw [List.take_append_drop] at this
  omega
theorem bulk_plM_take (m : KV) (ss : List St) (n : Nat) : bulk (plM m (ss.take n)) ≤ bulk m + bulkT ss := by
  have h1 := bulk_plM m (ss.take n)
  have h2 := bulkT_take ss n
  omega

/-! ### what is there behind steps -/
def ask (k : Bytes) : St := (6, k, [])
def ask5 : St := (5, [], [])
theorem stA_ask (m : KV) (k : Bytes) : stA m (ask k) = ([], has m k, vals m k) := by simp [stA, ask]
theorem stA_5 (m : KV) : stA m ask5 = (enc m, false, []) := by simp [stA, ask5]
theorem vals_add (m : KV) (k v j : Bytes) : vals (add m k v) j = if j = k then vals m j ++ [v] else vals m j := vals_addAll m k [v] j
theorem has_add (m : KV) (k v j : Bytes) : has (add m k v) j = (decide (j = k) || has m j) := has_addAll m k [v] j
theorem vals_del (m : KV) (k j : Bytes) : vals (del m k) j = if j = k then [] else vals m j := by
  unfold vals
  rw [look_del]
  split <;> simp
theorem has_del (m : KV) (k j : Bytes) : has (del m k) j = (!decide (j = k) && has m j) := by
  unfold has
  rw [look_del]
  by_cases h : j = k <;> simp [h]
theorem vals_sett (m : KV) (k v j : Bytes) : vals (sett m k v) j = if j = k then [v] else vals m j := by
  unfold sett
  rw [vals_add, vals_del]
  by_cases h : j = k <;> simp [h]
theorem has_sett (m : KV) (k v j : Bytes) : has (sett m k v) j = (decide (j = k) || has m j) := by
  unfold sett
  rw [has_add, has_del]
  by_cases h : j = k <;> simp [h]
theorem vals_not {m : KV} {k : Bytes} (h : has m k = false) : vals m k = [] := by
  have : lk m k = none := by simpa [has] using h
  simp [vals, this]

/-! ### what fits -/
/-- entries and steps that are not too many: whatever stands behind the first n steps is of bulk at most 4194304 -/
def Fits (es : KV) (ss : List St) : Prop := bulk es ≤ 4194304 ∧ ss.length ≤ 2097152 ∧ (∀ n, bulk (plM (kept es) (ss.take n)) ≤ 4194304) ∧ ∀ s ∈ ss, s.2.1.length ≤ 4194304
theorem fits_of_bulk {es : KV} {ss : List St} (h : bulk es + bulkT ss ≤ 4194304) : Fits es ss := by
  have h1 := length_le_bulkT ss
  have h2 := bulk_kept es
  refine ⟨by omega, by omega, fun n => ?_, fun s hs => ?_⟩
  · have := bulk_plM_take (kept es) ss n
    omega
  · have := mem_le_bulkT hs
    omega
/-- a step that tells, and changes nothing -/
def Reads (s : St) : Prop := ¬ s.1 = 0 ∧ ¬ s.1 = 1 ∧ ¬ s.1 = 2
theorem stM_reads {m : KV} {s : St} (h : Reads s) : stM m s = m := by simp [stM, h.1, h.2.1, h.2.2]
theorem plM_reads {m : KV} {ss : List St} (h : ∀ s ∈ ss, Reads s) : plM m ss = m := by
  induction ss with
  | nil => rfl
  | cons s r ih =>
    have e : plM m (s :: r) = plM (stM m s) r := rfl
    rw [e, stM_reads (h s (by simp))]
    exact ih (fun x hx => h x (List.mem_cons_of_mem s hx))
theorem reads_ask (k : Bytes) : Reads (ask k) := by simp [Reads, ask]
theorem reads_ask5 : Reads ask5 := by simp [Reads, ask5]
theorem fits_snoc {es : KV} {ss : List St} {s : St} (h : Fits es ss) (hl : ss.length + 1 ≤ 2097152) (hr : Reads s) (hk : s.2.1.length ≤ 4194304) : Fits es (ss ++ [s]) := by
  obtain ⟨h1, h2, h3, h4⟩ := h
  refine ⟨h1, by simpa using hl, fun n => ?_, fun x hx => ?_⟩
  · by_cases hn : n ≤ ss.length
    · rw [List.take_append_of_le_length hn]
      exact h3 n
    · rw [List.take_of_length_le (by simp; omega), plM_snoc, stM_reads hr]
      have := h3 ss.length
      rwa [List.take_of_length_le (Nat.le_refl _)] at this
  · rcases List.mem_append.1 hx with hx | hx
    · exact h4 x hx
    · simp at hx
      subst hx
      exact hk
theorem fits_reads {es : KV} {ss : List St} (h : bulk es ≤ 4194304) (hl : ss.length ≤ 2097152) (hr : ∀ s ∈ ss, Reads s) (hk : ∀ s ∈ ss, s.2.1.length ≤ 4194304) : Fits es ss := by
  refine ⟨h, hl, fun n => ?_, hk⟩
  rw [plM_reads (fun s hs => hr s (List.mem_of_mem_take hs))]
  exact Nat.le_trans (bulk_kept es) h
/-- how much a step adds -/
def addT (s : St) : Nat := if s.1 = 0 then s.2.1.length + s.2.2.length + 2 else if s.1 = 1 then s.2.1.length + s.2.2.length + 2 else 0
def addTs : List St → Nat
  | [] => 0
  | s :: r => addT s + addTs r
theorem bulk_stM_add (m : KV) (s : St) : bulk (stM m s) ≤ bulk m + addT s := by
  unfold stM addT
  split
  · have := bulk_add m s.2.1 s.2.2; omega
  · split
    · have := bulk_sett m s.2.1 s.2.2; omega
    · split
      · have := bulk_del m s.2.1; omega
      · omega
theorem bulk_plM_adds (m : KV) (ss : List St) (n : Nat) : bulk (plM m (ss.take n)) ≤ bulk m + addTs ss := by
  induction ss generalizing m n with
  | nil => simp [plM, addTs]
  | cons x r ih =>
    cases n with
    | zero => simp [plM]
    | succ n =>
      have h1 := ih (stM m x) n
      have h2 := bulk_stM_add m x
      have e : plM m ((x :: r).take (n + 1)) = plM (stM m x) (r.take n) := rfl
      rw [e]
      simp only [addTs]
      omega
theorem fits_adds {es : KV} {ss : List St} (h : bulk es + addTs ss ≤ 4194304) (hl : ss.length ≤ 2097152) (hk : ∀ s ∈ ss, s.2.1.length ≤ 4194304) : Fits es ss := by
  refine ⟨by omega, hl, fun n => ?_, hk⟩
  have h1 := bulk_plM_adds (kept es) ss n
  have h2 := bulk_kept es
  omega
theorem del_del (m : KV) (k : Bytes) : del (del m k) k = del m k := by
  unfold del
  rw [List.filter_filter]
  simp
theorem vals_add_del {m : KV} {k : Bytes} (h : has m k = false) (v j : Bytes) : vals (del (add m k v) k) j = vals m j := by
  rw [vals_del, vals_add]
  by_cases e : j = k
  · subst e; simp [vals_not h]
  · simp [e]
end Uv
