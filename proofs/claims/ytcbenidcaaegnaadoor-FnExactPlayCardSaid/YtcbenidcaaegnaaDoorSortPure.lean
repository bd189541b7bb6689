/-
  PLAIN LEAN, NO PROGRAM: entries sorted by key, one put in behind the other.
-/
import Derived.Test.YtcbenidcaaegnaaDoorEncLaw
namespace Uv

def SortedK (out : KV) : Prop := out.Pairwise (fun a b => decide (a.1 ≤ b.1) = true)
def insAt (out : KV) (e : Ent) (j : Nat) : KV := (out.take j ++ [e]) ++ out.drop j
theorem perm_ins (out : KV) (e : Ent) (j : Nat) : (insAt out e j).Perm (out ++ [e]) := by
  unfold insAt
  have h1 : (out.take j ++ [e] ++ out.drop j).Perm (out.take j ++ (out.drop j ++ [e])) := by
    rw [List.append_assoc]
    exact List.Perm.append_left _ List.perm_append_comm
  rw [← List.append_assoc, List.take_append_drop] at h1
  exact h1
theorem length_ins (out : KV) (e : Ent) (j : Nat) : (insAt out e j).length = out.length + 1 := by
  have := (perm_ins out e j).length_eq
  simpa using this
theorem sorted_ins {out : KV} {e : Ent} {j : Nat} (h : SortedK out) (h1 : ∀ (i : Nat) (hi : i < out.length), i < j → out[i].1 < e.1) (h2 : ∀ h : j < out.length, ¬ out[j].1 < e.1) : SortedK (insAt out e j) := by
  unfold SortedK insAt at *
  have hlow : ∀ x ∈ out.take j, x.1 < e.1 := by
    intro x hx
    obtain ⟨i, hi⟩ := List.getElem?_of_mem hx
    have hi' := (List.getElem?_eq_some_iff.1 hi).1
    have hij : i < j ∧ i < out.length := by simp at hi'; omega
    rw [List.getElem?_take_of_lt hij.1, List.getElem?_eq_getElem hij.2] at hi
    injection hi with hi
    subst hi
    exact h1 i hij.2 hij.1
  have hhigh : ∀ y ∈ out.drop j, e.1 ≤ y.1 := by
    intro y hy
    by_cases hj : j < out.length
    · have hd := List.drop_eq_getElem_cons hj
      have hp := h.drop (i := j)
      rw [hd] at hy hp
      have hle : e.1 ≤ out[j].1 := List.not_lt.1 (h2 hj)
      rcases List.mem_cons.1 hy with rfl | hy
      · exact hle
      · have := (List.pairwise_cons.1 hp).1 y hy
        simp only [decide_eq_true_eq] at this
        exact List.le_trans hle this
    · rw [List.drop_eq_nil_of_le (by omega)] at hy
      cases hy
  refine List.pairwise_append.2 ⟨List.pairwise_append.2 ⟨h.take, by simp, fun a ha b hb => ?_⟩, h.drop, fun a ha b hb => ?_⟩
  · simp at hb
    subst hb
    simp only [decide_eq_true_eq]
    exact List.le_of_lt (hlow a ha)
  · simp only [decide_eq_true_eq]
    rcases List.mem_append.1 ha with ha | ha
    · exact List.le_trans (List.le_of_lt (hlow a ha)) (hhigh b hb)
    · simp at ha
      subst ha
      exact hhigh b hb
/-- the parts of entries, in their order -/
def epts (out : KV) : List Bytes := out.flatMap fun e => e.2.map (part e.1)
theorem epts_append (a b : KV) : epts (a ++ b) = epts a ++ epts b := by simp [epts]
theorem epts_one (e : Ent) : epts [e] = e.2.map (part e.1) := by simp [epts]
theorem parts_sorted {m out : KV} (hu : Uniq m) (hp : out.Perm m) (hs : SortedK out) : epts out = parts m := by
  have hk : (keys out).Perm (keys m) := hp.map _
  rw [← pts_any hu (ks := keys out) ?_ (hk.nodup_iff.2 hu) (fun k hv => hk.mem_iff.2 (mem_keys_of_vals hv))]
  · unfold epts pts keys
    rw [List.flatMap_map, List.flatMap_def, List.flatMap_def]
    congr 1
    apply List.map_congr_left
    intro e he
    simp [vals_of_mem hu (hp.mem_iff.1 he)]
  · unfold keys SortedK at *
    exact List.pairwise_map.2 hs
theorem ahead_epts (out : KV) (j : Nat) (hj : j < out.length) (i : Nat) : ∃ r, (epts (out.take j) ++ (out[j].2.take i).map (part out[j].1)) ++ r = epts out := by
  refine ⟨(out[j].2.drop i).map (part out[j].1) ++ epts (out.drop (j + 1)), ?_⟩
  have e : epts out = epts (out.take j) ++ (out[j].2.map (part out[j].1) ++ epts (out.drop (j + 1))) := by
    rw [← epts_one, ← epts_append, ← epts_append, List.singleton_append, ← List.drop_eq_getElem_cons hj, List.take_append_drop]
  rw [e, List.append_assoc, ← List.append_assoc ((List.take i _).map _), ← List.map_append, List.take_append_drop]
theorem epts_take_succ (out : KV) (j : Nat) (hj : j < out.length) : epts (out.take (j + 1)) = epts (out.take j) ++ out[j].2.map (part out[j].1) := by
  rw [List.take_succ_eq_append_getElem hj, epts_append, epts_one]
end Uv
