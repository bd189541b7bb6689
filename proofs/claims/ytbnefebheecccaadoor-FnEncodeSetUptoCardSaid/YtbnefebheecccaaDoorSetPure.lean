/-
  PLAIN LEAN, NO PROGRAM: how often a part stands in what is encoded.
-/
import Derived.Test.YtbnefebheecccaaDoorCutPure
import Derived.Test.YtbnefebheecccaaDoorPlayPure
namespace Uv

def cntP (q : Bytes) (ps : List Bytes) : Nat := (ps.filter fun p => decide (p = q)).length
theorem cntP_take (q : Bytes) (ps : List Bytes) (i : Nat) (h : i < ps.length) : cntP q (ps.take (i + 1)) = cntP q (ps.take i) + if ps[i] = q then 1 else 0 := by
  unfold cntP
  rw [List.take_succ_eq_append_getElem h, List.filter_append, List.length_append]
  congr 1
  by_cases he : ps[i] = q <;> simp [he]
theorem cntP_le (q : Bytes) (ps : List Bytes) : cntP q ps ≤ ps.length := List.length_filter_le _ _
theorem count_part {m : KV} (hu : Uniq m) {k v : Bytes} (h : vals m k = [v]) : cntP (part k v) (parts m) = 1 := by
  have hk : k ∈ srt (keys m) := mem_srt.2 (mem_keys_of_vals (by rw [h]; simp))
  have hv := vals_prs m (srt (keys m)) ((srt_perm _).nodup_iff.2 hu) k
  rw [if_pos hk, h] at hv
  unfold cntP parts
  rw [pts_prs, List.filter_map, List.length_map]
  have e : (prs m (srt (keys m))).filter ((fun p => decide (p = part k v)) ∘ fun p => part p.1 p.2) = ((prs m (srt (keys m))).filter fun p => decide (p.1 = k)).filter fun p => decide (p.2 = v) := by
    rw [List.filter_filter]
    apply List.filter_congr
    intro p _
    simp only [Function.comp_apply]
    by_cases h1 : p.1 = k
    · by_cases h2 : p.2 = v
      · simp [h1, h2]
      · simp only [h1, h2, decide_true, decide_false, Bool.false_and, decide_eq_false_iff_not]
        exact fun x => h2 (part_inj x).2
    · simp only [h1, decide_false, Bool.and_false, decide_eq_false_iff_not]
      exact fun x => h1 (part_inj x).1
  rw [e]
  generalize (prs m (srt (keys m))).filter (fun p => decide (p.1 = k)) = l at hv
  cases l with
  | nil => simp at hv
  | cons x r =>
    simp only [List.map_cons, List.cons.injEq, List.map_eq_nil_iff] at hv
    rw [hv.2, List.filter_cons, if_pos (by simp [hv.1])]
    simp
theorem parts_ne {m : KV} {k v : Bytes} (hu : Uniq m) (h : vals m k = [v]) : parts m ≠ [] := by
  intro e
  have := count_part hu h
  rw [e] at this
  simp [cntP] at this
end Uv
