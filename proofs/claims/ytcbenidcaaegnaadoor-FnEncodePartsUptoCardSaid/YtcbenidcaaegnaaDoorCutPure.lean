/-
  PLAIN LEAN, NO PROGRAM: texts cut around a byte; what is encoded tells all.
-/
import Derived.Test.YtcbenidcaaegnaaDoorEncLaw
namespace Uv

def cutB (b : UInt8) : Bytes → List Bytes
  | [] => [[]]
  | c :: r => if c = b then [] :: cutB b r else match cutB b r with | [] => [[c]] | x :: xs => (c :: x) :: xs
theorem cutB_free {b : UInt8} {p : Bytes} (h : b ∉ p) : cutB b p = [p] := by
  induction p with
  | nil => rfl
  | cons c r ih =>
    simp only [List.mem_cons, not_or] at h
    unfold cutB
    rw [if_neg (fun e => h.1 e.symm), ih h.2]
theorem cutB_app {b : UInt8} {p : Bytes} (h : b ∉ p) (r : Bytes) : cutB b (p ++ b :: r) = p :: cutB b r := by
  induction p with
  | nil => simp [cutB]
  | cons c q ih =>
    simp only [List.mem_cons, not_or] at h
    rw [List.cons_append, cutB, if_neg (fun e => h.1 e.symm), ih h.2]
theorem joinA_cons (q : Bytes) (r : List Bytes) (hq : q ≠ []) (hr : ∀ x ∈ r, x ≠ []) : joinA (q :: r) = if r = [] then q else q ++ 38 :: joinA r := by
  have h0 := joinA_append [q] r hr
  have hj : joinA [q] = q := by simp [joinA, app]
  rw [List.singleton_append, hj] at h0
  rw [h0]
  simp [hq]
theorem cut_join {ps : List Bytes} (hn : ps ≠ []) (h : ∀ p ∈ ps, p ≠ [] ∧ (38 : UInt8) ∉ p) : cutB 38 (joinA ps) = ps := by
  induction ps with
  | nil => exact absurd rfl hn
  | cons q r ih =>
    have hq := h q (by simp)
    have hr := fun x hx => h x (List.mem_cons_of_mem q hx)
    rw [joinA_cons q r hq.1 (fun x hx => (hr x hx).1)]
    by_cases e : r = []
    · subst e
      rw [if_pos rfl, cutB_free hq.2]
    · rw [if_neg e, cutB_app hq.2, ih e hr]
theorem esc_free {s : Bytes} {b : UInt8} (hb : b = 38 ∨ b = 61) : b ∉ esc s := by
  intro h
  rcases esc_mem h with h | h | h
  · rcases hb with rfl | rfl <;> simp [safeB] at h
  · rcases hb with rfl | rfl <;> simp at h
  · rcases hb with rfl | rfl <;> simp at h
theorem part_free (k v : Bytes) : (38 : UInt8) ∉ part k v := by
  unfold part
  simp only [List.mem_append, List.mem_cons, not_or]
  exact ⟨esc_free (.inl rfl), by decide, esc_free (.inl rfl)⟩
theorem cut_part (k v : Bytes) : cutB 61 (part k v) = [esc k, esc v] := by
  unfold part
  rw [cutB_app (esc_free (.inr rfl)), cutB_free (esc_free (.inr rfl))]
theorem part_inj {k v k' v' : Bytes} (h : part k v = part k' v') : k = k' ∧ v = v' := by
  have e := congrArg (cutB 61) h
  rw [cut_part, cut_part] at e
  injection e with e1 e2
  injection e2 with e2
  have u1 := congrArg un e1
  have u2 := congrArg un e2
  rw [un_esc, un_esc] at u1 u2
  exact ⟨Option.some.inj u1, Option.some.inj u2⟩

/-- keys with values, one by one, as they are encoded -/
def prs (m : KV) (ks : List Bytes) : List (Bytes × Bytes) := ks.flatMap fun k => (vals m k).map fun v => (k, v)
theorem pts_prs (m : KV) (ks : List Bytes) : pts m ks = (prs m ks).map fun p => part p.1 p.2 := by
  unfold pts prs
  rw [List.map_flatMap]
  congr 1
  funext k
  simp
theorem map_part_inj {a b : List (Bytes × Bytes)} (h : a.map (fun p => part p.1 p.2) = b.map (fun p => part p.1 p.2)) : a = b := by
  induction a generalizing b with
  | nil =>
    cases b with
    | nil => rfl
    | cons x r => simp at h
  | cons x r ih =>
    cases b with
    | nil => simp at h
    | cons y s =>
      simp only [List.map_cons, List.cons.injEq] at h
      have := part_inj h.1
      rw [ih h.2]
      congr 1
      exact Prod.ext this.1 this.2
theorem parts_ok (m : KV) : ∀ p ∈ parts m, p ≠ [] ∧ (38 : UInt8) ∉ p := by
  intro p hp
  refine ⟨pts_ne hp, ?_⟩
  unfold parts at hp
  rw [pts_prs] at hp
  obtain ⟨q, _, rfl⟩ := List.mem_map.1 hp
  exact part_free q.1 q.2
theorem cut_enc {m : KV} (h : parts m ≠ []) : cutB 38 (enc m) = parts m := cut_join h (parts_ok m)
theorem parts_inj {m m' : KV} (h : enc m = enc m') : parts m = parts m' := by
  by_cases h1 : parts m = []
  · have e1 : enc m = [] := by unfold enc; rw [h1]; rfl
    rw [e1] at h
    have := (joinA_eq_nil (ps := parts m') (fun q hq => pts_ne hq)).1 h.symm
    rw [h1, this]
  · by_cases h2 : parts m' = []
    · have e2 : enc m' = [] := by unfold enc; rw [h2]; rfl
      rw [e2] at h
      exact absurd ((joinA_eq_nil (ps := parts m) (fun q hq => pts_ne hq)).1 h) h1
    · rw [← cut_enc h1, ← cut_enc h2, h]
theorem vals_prs (m : KV) (ks : List Bytes) (hn : ks.Nodup) (k : Bytes) : ((prs m ks).filter fun p => decide (p.1 = k)).map Prod.snd = if k ∈ ks then vals m k else [] := by
  induction ks with
  | nil => simp [prs]
  | cons j r ih =>
    rw [List.nodup_cons] at hn
    have e : prs m (j :: r) = ((vals m j).map fun v => (j, v)) ++ prs m r := by simp [prs]
    rw [e, List.filter_append, List.map_append, ih hn.2]
    by_cases h : j = k
    · subst h
      have : ((vals m j).map fun v => (j, v)).filter (fun p => decide (p.1 = j)) = (vals m j).map fun v => (j, v) := by
        rw [List.filter_eq_self]
        intro p hp
        obtain ⟨v, _, rfl⟩ := List.mem_map.1 hp
        simp
      rw [this, if_neg hn.1, if_pos (by simp), List.append_nil, List.map_map]
      exact List.map_id _
    · have : ((vals m j).map fun v => (j, v)).filter (fun p => decide (p.1 = k)) = [] := by
        rw [List.filter_eq_nil_iff]
        intro p hp
        obtain ⟨v, _, rfl⟩ := List.mem_map.1 hp
        simp [h]
      rw [this]
      have hk : ¬ k = j := fun x => h x.symm
      simp [hk]
/-- maps that are encoded alike have the same values of each key -/
theorem enc_inj {m m' : KV} (hu : Uniq m) (hu' : Uniq m') (h : enc m = enc m') (k : Bytes) : vals m k = vals m' k := by
  have hp := parts_inj h
  unfold parts at hp
  rw [pts_prs, pts_prs] at hp
  have hq := map_part_inj hp
  have h1 := vals_prs m (srt (keys m)) ((srt_perm _).nodup_iff.2 hu) k
  have h2 := vals_prs m' (srt (keys m')) ((srt_perm _).nodup_iff.2 hu') k
  rw [hq] at h1
  have h3 := h1.symm.trans h2
  by_cases k1 : k ∈ srt (keys m)
  · rw [if_pos k1] at h3
    by_cases k2 : k ∈ srt (keys m')
    · rwa [if_pos k2] at h3
    · rw [if_neg k2] at h3
      have : vals m' k = [] := by
        have := (look_none_iff m' k).2 (fun x => k2 (mem_srt.2 x))
        simp [vals, this]
      rw [h3, this]
  · have v1 : vals m k = [] := by
      have := (look_none_iff m k).2 (fun x => k1 (mem_srt.2 x))
      simp [vals, this]
    rw [if_neg k1] at h3
    by_cases k2 : k ∈ srt (keys m')
    · rw [if_pos k2] at h3
      rw [v1, ← h3]
    · have : vals m' k = [] := by
        have := (look_none_iff m' k).2 (fun x => k2 (mem_srt.2 x))
        simp [vals, this]
      rw [v1, this]
end Uv
