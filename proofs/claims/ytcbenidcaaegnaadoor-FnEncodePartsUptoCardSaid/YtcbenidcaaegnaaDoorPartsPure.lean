/-
  PLAIN LEAN, NO PROGRAM: keys with values, one by one, as they are encoded: keys rise, the values of a key stand in their order.
-/
import Derived.Test.YtcbenidcaaegnaaDoorCutPure
namespace Uv

/-- keys with values, one by one, as they are encoded -/
def ones (m : KV) : List (Bytes × Bytes) := prs m (srt (keys m))
theorem parts_ones (m : KV) : parts m = (ones m).map fun p => part p.1 p.2 := pts_prs m _
theorem ones_mem {m : KV} {p : Bytes × Bytes} (h : p ∈ ones m) : p.1 ∈ srt (keys m) ∧ p.2 ∈ vals m p.1 := by
  unfold ones prs at h
  rw [List.mem_flatMap] at h
  obtain ⟨k, hk, hp⟩ := h
  obtain ⟨v, hv, rfl⟩ := List.mem_map.1 hp
  exact ⟨hk, hv⟩
theorem prs_rise (m : KV) {ks : List Bytes} (h : ks.Pairwise (fun a b => decide (a ≤ b) = true)) : (prs m ks).Pairwise (fun a b => a.1 ≤ b.1) := by
  induction ks with
  | nil => simp [prs]
  | cons k r ih =>
    rw [List.pairwise_cons] at h
    have e : prs m (k :: r) = ((vals m k).map fun v => (k, v)) ++ prs m r := by simp [prs]
    rw [e, List.pairwise_append]
    refine ⟨?_, ih h.2, ?_⟩
    · rw [List.pairwise_map]
      exact List.Pairwise.imp (fun _ => List.le_refl k) (List.pairwise_of_forall (fun _ _ => trivial) : (vals m k).Pairwise (fun _ _ => True))
    · intro a ha b hb
      obtain ⟨v, _, rfl⟩ := List.mem_map.1 ha
      unfold prs at hb
      rw [List.mem_flatMap] at hb
      obtain ⟨j, hj, hb⟩ := hb
      obtain ⟨u, _, rfl⟩ := List.mem_map.1 hb
      simpa using h.1 j hj
theorem ones_rise (m : KV) : (ones m).Pairwise (fun a b => a.1 ≤ b.1) := prs_rise m (srt_pw _)
/-- the values of a key among the first i -/
def nowA (P : List (Bytes × Bytes)) (i : Nat) (k : Bytes) : List Bytes := ((P.take i).filter fun p => decide (p.1 = k)).map Prod.snd
theorem nowA_succ {P : List (Bytes × Bytes)} {i : Nat} (h : i < P.length) : nowA P (i + 1) P[i].1 = nowA P i P[i].1 ++ [P[i].2] := by
  unfold nowA
  rw [List.take_succ_eq_append_getElem h, List.filter_append, List.map_append]
  simp
theorem nowA_zero (P : List (Bytes × Bytes)) (k : Bytes) : nowA P 0 k = [] := by simp [nowA]
theorem rise_at {P : List (Bytes × Bytes)} (hs : P.Pairwise (fun a b => a.1 ≤ b.1)) {i j : Nat} (hij : i < j) (hj : j < P.length) : P[i].1 ≤ P[j].1 := List.pairwise_iff_getElem.1 hs i j (by omega) hj hij
theorem nowA_fresh {P : List (Bytes × Bytes)} (hs : P.Pairwise (fun a b => a.1 ≤ b.1)) {i : Nat} (h : i + 1 < P.length) (hne : ¬ P[i + 1].1 = P[i].1) : nowA P (i + 1) P[i + 1].1 = [] := by
  unfold nowA
  rw [List.map_eq_nil_iff, List.filter_eq_nil_iff]
  intro p hp
  obtain ⟨j, hj, rfl⟩ := List.getElem_of_mem hp
  rw [List.length_take] at hj
  rw [List.getElem_take]
  simp only [decide_eq_true_eq]
  intro e
  have h1 : P[j].1 ≤ P[i].1 := by
    by_cases hji : j = i
    · subst hji; exact List.le_refl _
    · exact rise_at hs (by omega) (by omega)
  have h2 := rise_at hs (Nat.lt_succ_self i) h
  rw [e] at h1
  exact hne (List.le_antisymm h1 h2)
theorem nowA_vals {m : KV} (hu : Uniq m) {k : Bytes} (hk : k ∈ srt (keys m)) (i : Nat) : ∃ r, nowA (ones m) i k ++ r = vals m k := by
  have hv := vals_prs m (srt (keys m)) ((srt_perm _).nodup_iff.2 hu) k
  rw [if_pos hk] at hv
  refine ⟨(((ones m).drop i).filter fun p => decide (p.1 = k)).map Prod.snd, ?_⟩
  unfold nowA
  rw [← List.map_append, ← List.filter_append, List.take_append_drop]
  exact hv
theorem ones_len {m : KV} (hu : Uniq m) : (ones m).length = cnt m := by
  rw [← length_parts hu, parts_ones]
  simp
theorem ones_key {m : KV} {p : Bytes × Bytes} (h : p ∈ ones m) : p.1.length ≤ bulk m ∧ p.2.length ≤ bulk m := by
  obtain ⟨h1, h2⟩ := ones_mem h
  rw [mem_srt] at h1
  obtain ⟨e, he, h3⟩ := List.mem_map.1 h1
  have h4 := mem_le_bulk he
  rw [h3] at h4
  have h5 := mem_le_bulkS h2
  have h6 := bulkS_vals m p.1
  omega
/-- behind i of them: the last key, and its values so far -/
def At (P : List (Bytes × Bytes)) (i : Nat) (la : Bytes) (nw : List Bytes) : Prop := (i = 0 ∧ nw = []) ∨ ∃ j, i = j + 1 ∧ ∃ h : j < P.length, la = P[j].1 ∧ nw = nowA P i la
theorem at_zero (P : List (Bytes × Bytes)) : At P 0 [] [] := .inl ⟨rfl, rfl⟩
theorem at_next (P : List (Bytes × Bytes)) {i : Nat} (h : i < P.length) : At P (i + 1) P[i].1 (nowA P (i + 1) P[i].1) := .inr ⟨i, rfl, h, rfl, rfl⟩
theorem at_rise {P : List (Bytes × Bytes)} (hs : P.Pairwise (fun a b => a.1 ≤ b.1)) {i : Nat} {la : Bytes} {nw : List Bytes} (h : At P i la nw) (hi : i < P.length) (h0 : 0 < i) : ¬ P[i].1 < la := by
  rcases h with ⟨h, _⟩ | ⟨j, rfl, hj, rfl, _⟩
  · omega
  · exact List.not_lt.2 (rise_at hs (Nat.lt_succ_self j) hi)
theorem at_more {P : List (Bytes × Bytes)} {i : Nat} {la : Bytes} {nw : List Bytes} (h : At P i la nw) (hi : i < P.length) (hc : i = 0 ∨ P[i].1 = la) : nowA P (i + 1) P[i].1 = nw ++ [P[i].2] := by
  rw [nowA_succ hi]
  rcases h with ⟨rfl, rfl⟩ | ⟨j, rfl, hj, rfl, rfl⟩
  · rw [nowA_zero]
  · rcases hc with hc | hc
    · omega
    · rw [hc]
theorem at_fresh {P : List (Bytes × Bytes)} (hs : P.Pairwise (fun a b => a.1 ≤ b.1)) {i : Nat} {la : Bytes} {nw : List Bytes} (h : At P i la nw) (hi : i < P.length) (h0 : 0 < i) (hc : ¬ P[i].1 = la) : nowA P (i + 1) P[i].1 = [P[i].2] := by
  rw [nowA_succ hi]
  rcases h with ⟨h, _⟩ | ⟨j, rfl, hj, rfl, _⟩
  · omega
  · rw [nowA_fresh hs hi hc]
    rfl
theorem un_some (s : Bytes) : (un (esc s)).isSome = true := by simp [un_esc]
end Uv
