/-
  PLAIN LEAN, NO PROGRAM: what is said of encoded keys with values.
-/
import Derived.Test.YtcbenidcaaegnaaDoorEncPure
namespace Uv

/-- whatever sorted list of keys has all that have values gives the parts -/
theorem pts_any {m : KV} (hu : Uniq m) {ks : List Bytes} (hs : ks.Pairwise (fun a b => decide (a ≤ b) = true)) (hn : ks.Nodup) (hc : ∀ k, vals m k ≠ [] → k ∈ ks) : pts m ks = parts m := by
  unfold parts
  rw [pts_filter m ks, pts_filter m (srt (keys m))]
  congr 1
  refine sorted_unique (hs.filter _) ((srt_pw _).filter _) ((List.perm_ext_iff_of_nodup (hn.filter _) (((srt_perm (keys m)).nodup_iff.2 hu).filter _)).2 fun k => ?_)
  rw [List.mem_filter, List.mem_filter, mem_srt]
  constructor
  · intro ⟨_, hv⟩
    exact ⟨mem_keys_of_vals (fun x => by simp [x] at hv), hv⟩
  · intro ⟨_, hv⟩
    exact ⟨hc k (fun x => by simp [x] at hv), hv⟩

/-! ### counts -/
theorem cnt_append (a b : KV) : cnt (a ++ b) = cnt a + cnt b := by simp [cnt]
theorem cnt_addAll (m : KV) (k : Bytes) (vs : List Bytes) : cnt (addAll m k vs) = cnt m + vs.length := by
  induction m with
  | nil => simp [addAll, cnt]
  | cons e r ih =>
    unfold addAll
    split
    · simp [cnt]; omega
    · simp only [cnt, List.map_cons, List.sum_cons] at ih ⊢
      omega
theorem cnt_keptFrom (m es : KV) : cnt (keptFrom m es) = cnt m + cnt es := by
  induction es generalizing m with
  | nil => simp [keptFrom_nil, cnt]
  | cons e r ih =>
    rw [keptFrom_cons, ih, cnt_addAll]
    simp only [cnt, List.map_cons, List.sum_cons]
    omega
theorem cnt_kept (es : KV) : cnt (kept es) = cnt es := by
  have := cnt_keptFrom [] es
  simpa [kept, cnt] using this
theorem cnt_take_succ (es : KV) (i : Nat) (h : i < es.length) : cnt (es.take (i + 1)) = cnt (es.take i) + es[i].2.length := by
  rw [List.take_succ_eq_append_getElem h, cnt_append]
  simp [cnt]
theorem cnt_take_le (es : KV) (i : Nat) : cnt (es.take i) ≤ cnt es := by
  have := cnt_append (es.take i) (es.drop i)
  rw [List.take_append_drop] at this
  omega

/-! ### the values of a key -/
theorem vals_addAll (m : KV) (k : Bytes) (vs : List Bytes) (j : Bytes) : vals (addAll m k vs) j = if j = k then vals m j ++ vs else vals m j := by
  unfold vals
  rw [look_addAll]
  by_cases h : j = k
  · subst h; simp [vals]
  · simp [h]
theorem vals_keptFrom (m es : KV) (k : Bytes) : vals (keptFrom m es) k = vals m k ++ (es.filter fun e => decide (e.1 = k)).flatMap Prod.snd := by
  induction es generalizing m with
  | nil => simp [keptFrom_nil]
  | cons e r ih =>
    rw [keptFrom_cons, ih, vals_addAll, List.filter_cons]
    by_cases h : e.1 = k
    · simp [h]
    · have : ¬ k = e.1 := fun x => h x.symm
      simp [h, this]
theorem vals_kept (es : KV) (k : Bytes) : vals (kept es) k = (es.filter fun e => decide (e.1 = k)).flatMap Prod.snd := by
  have := vals_keptFrom [] es k
  simpa [kept, vals, lk] using this

/-! ### safe -/
theorem esc_tame {s : Bytes} {c : UInt8} (h : c ∈ esc s) : safeB c = true ∨ c.toNat = 43 ∨ c.toNat = 37 := esc_mem h
theorem joinA_mem {P : UInt8 → Prop} (h38 : P 38) {ps : List Bytes} (h : ∀ p ∈ ps, ∀ c ∈ p, P c) : ∀ c ∈ joinA ps, P c := by
  have gen : ∀ l : Bytes, (∀ c ∈ l, P c) → ∀ c ∈ ps.foldl app l, P c := by
    induction ps with
    | nil => intro l hl; exact hl
    | cons p r ih =>
      intro l hl
      rw [List.foldl_cons]
      refine ih (fun q hq => h q (List.mem_cons_of_mem p hq)) (app l p) (fun c hc => ?_)
      unfold app at hc
      rcases List.mem_append.1 hc with hc | hc
      · split at hc
        · cases hc
        · rcases List.mem_append.1 hc with hc | hc
          · exact hl c hc
          · simp at hc; subst hc; exact h38
      · exact h p (by simp) c hc
  exact gen [] (fun c hc => by cases hc)
theorem enc_safe (m : KV) : ∀ c ∈ enc m, safeB c = true ∨ c.toNat = 43 ∨ c.toNat = 37 ∨ c.toNat = 61 ∨ c.toNat = 38 := by
  refine joinA_mem (.inr (.inr (.inr (.inr rfl)))) (fun p hp c hc => ?_)
  unfold parts pts at hp
  rw [List.mem_flatMap] at hp
  obtain ⟨k, _, hp⟩ := hp
  obtain ⟨v, _, rfl⟩ := List.mem_map.1 hp
  unfold part at hc
  rcases List.mem_append.1 hc with hc | hc
  · rcases esc_mem hc with h | h | h
    · exact .inl h
    · exact .inr (.inl h)
    · exact .inr (.inr (.inl h))
  · rcases List.mem_cons.1 hc with rfl | hc
    · exact .inr (.inr (.inr (.inl rfl)))
    · rcases esc_mem hc with h | h | h
      · exact .inl h
      · exact .inr (.inl h)
      · exact .inr (.inr (.inl h))

/-! ### one key -/
theorem parts_one (k : Bytes) (l : List Bytes) : parts [(k, l)] = l.map (part k) := by
  have hu : Uniq [(k, l)] := by simp [Uniq, keys]
  rw [← pts_any hu (ks := [k]) (by simp) (by simp) (fun j hj => by
    by_cases h : k = j
    · simp [h]
    · exact absurd (by simp [vals, lk, h]) hj)]
  simp [pts, vals, lk]
theorem enc_one (k : Bytes) (l : List Bytes) : enc [(k, l)] = joinA (l.map (part k)) := by unfold enc; rw [parts_one]

/-! ### keys without values; the order of keys -/
theorem enc_none (es : KV) (k : Bytes) : enc (kept (es ++ [(k, [])])) = enc (kept es) := by
  refine enc_vals (uniq_kept _) (uniq_kept _) (fun j => ?_)
  rw [kept_snoc, vals_addAll]
  simp
theorem uniq_reverse {m : KV} (h : Uniq m) : Uniq m.reverse := by
  unfold Uniq keys at *
  rw [List.map_reverse]
  exact (List.reverse_perm _).nodup_iff.2 h
theorem vals_reverse {m : KV} (h : Uniq m) (k : Bytes) : vals m.reverse k = vals m k := by
  by_cases hk : k ∈ keys m
  · obtain ⟨e, he, rfl⟩ := List.mem_map.1 hk
    rw [vals_of_mem h he, vals_of_mem (uniq_reverse h) (List.mem_reverse.2 he)]
  · have h1 := (look_none_iff m k).2 hk
    have h2 : lk m.reverse k = none := (look_none_iff _ _).2 (fun hx => hk (by unfold keys at *; rw [List.map_reverse] at hx; exact List.mem_reverse.1 hx))
    simp [vals, h1, h2]
theorem enc_reverse {m : KV} (h : Uniq m) : enc m.reverse = enc m := enc_vals (uniq_reverse h) h (vals_reverse h)

/-! ### keys below a key, and the others -/
theorem two_perm (p : Bytes → Bool) (l : List Bytes) : (l.filter p ++ l.filter fun x => !p x).Perm l := List.filter_append_perm p l
theorem sorted_two (key : Bytes) (l : List Bytes) (h : l.Pairwise (fun a b => decide (a ≤ b) = true)) : (l.filter fun x => decide (x < key)) ++ (l.filter fun x => !decide (x < key)) = l := by
  refine sorted_unique (List.pairwise_append.2 ⟨h.filter _, h.filter _, fun a ha b hb => ?_⟩) h (two_perm _ l)
  rw [List.mem_filter] at ha hb
  simp only [decide_eq_true_eq, Bool.not_eq_true', decide_eq_false_iff_not] at ha hb ⊢
  exact List.le_trans (List.le_of_lt ha.2) (List.not_lt.1 hb.2)
theorem vals_part (es : KV) (p : Bytes → Bool) (k : Bytes) : vals (kept (es.filter fun e => p e.1)) k = if p k then vals (kept es) k else [] := by
  rw [vals_kept, vals_kept, List.filter_filter]
  by_cases h : p k
  · rw [if_pos h]
    congr 1
    apply List.filter_congr
    intro e _
    by_cases he : e.1 = k
    · simp [he, h]
    · simp [he]
  · rw [if_neg h]
    have : (es.filter fun e => decide (e.1 = k) && p e.1) = [] := by
      rw [List.filter_eq_nil_iff]
      intro e _ hx
      simp only [Bool.and_eq_true, decide_eq_true_eq] at hx
      rw [hx.1] at hx
      exact h hx.2
    rw [this]
    rfl
theorem parts_part (es : KV) (p : Bytes → Bool) : pts (kept es) ((srt (keys (kept es))).filter p) = parts (kept (es.filter fun e => p e.1)) := by
  have hu := uniq_kept es
  have hnd : (srt (keys (kept es))).Nodup := (srt_perm _).nodup_iff.2 hu
  rw [← pts_any (uniq_kept (es.filter fun e => p e.1)) ((srt_pw (keys (kept es))).filter p) (hnd.filter p) (fun k hk => ?_)]
  · unfold pts
    rw [List.flatMap_def, List.flatMap_def]
    congr 1
    apply List.map_congr_left
    intro k hk
    rw [List.mem_filter] at hk
    rw [vals_part, if_pos hk.2]
  · rw [vals_part] at hk
    by_cases hp : p k
    · rw [if_pos hp] at hk
      exact List.mem_filter.2 ⟨mem_srt.2 (mem_keys_of_vals hk), hp⟩
    · rw [if_neg hp] at hk
      exact absurd rfl hk
def amp (a b : Bytes) : Bytes := if a = [] then b else if b = [] then a else a ++ 38 :: b
theorem enc_two (es : KV) (key : Bytes) : enc (kept es) = amp (enc (kept (es.filter fun e => decide (e.1 < key)))) (enc (kept (es.filter fun e => !decide (e.1 < key)))) := by
  have e1 := parts_part es (fun x => decide (x < key))
  have e2 := parts_part es (fun x => !decide (x < key))
  have e : parts (kept es) = parts (kept (es.filter fun e => decide (e.1 < key))) ++ parts (kept (es.filter fun e => !decide (e.1 < key))) := by
    rw [← e1, ← e2, ← pts_append, sorted_two key _ (srt_pw _)]
    rfl
  unfold enc
  rw [e, joinA_append _ (parts (kept (es.filter fun e => !decide (e.1 < key)))) (fun q hq => pts_ne hq)]
  unfold amp
  have n1 := joinA_eq_nil (ps := parts (kept (es.filter fun e => decide (e.1 < key)))) (fun q hq => pts_ne hq)
  have n2 := joinA_eq_nil (ps := parts (kept (es.filter fun e => !decide (e.1 < key)))) (fun q hq => pts_ne hq)
  generalize parts (kept (es.filter fun e => decide (e.1 < key))) = ps at *
  generalize parts (kept (es.filter fun e => !decide (e.1 < key))) = qs at *
  by_cases h1 : ps = []
  · subst h1
    by_cases h2 : qs = []
    · subst h2; simp [joinA_nil]
    · simp [h2, joinA_nil]
  · have h1' : ¬ joinA ps = [] := fun x => h1 (n1.1 x)
    by_cases h2 : qs = []
    · subst h2; simp [joinA_nil]
    · have h2' : ¬ joinA qs = [] := fun x => h2 (n2.1 x)
      simp [h1', h2, h2']
end Uv
