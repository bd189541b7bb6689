/-
  PLAIN LEAN, NO PROGRAM: keys with values in URL encoded form, sorted by key.
-/
import Derived.Test.YtcbenidcaaegnaaDoorUnPure
namespace Uv

def srt (ks : List Bytes) : List Bytes := ks.mergeSort (fun x y => decide (x ≤ y))
def part (k v : Bytes) : Bytes := esc k ++ 61 :: esc v
/-- the parts of the keys ks, in their order -/
def pts (m : KV) (ks : List Bytes) : List Bytes := ks.flatMap fun k => (vals m k).map (part k)
def parts (m : KV) : List Bytes := pts m (srt (keys m))
def app (l p : Bytes) : Bytes := (if l = [] then [] else l ++ [38]) ++ p
def joinA (ps : List Bytes) : Bytes := ps.foldl app []
def enc (m : KV) : Bytes := joinA (parts m)

/-! ### sorting -/
theorem le_tr (a b c : Bytes) (h1 : decide (a ≤ b) = true) (h2 : decide (b ≤ c) = true) : decide (a ≤ c) = true := by
  simp only [decide_eq_true_eq] at *
  exact List.le_trans h1 h2
theorem le_to (a b : Bytes) : (decide (a ≤ b) || decide (b ≤ a)) = true := by
  simp only [Bool.or_eq_true, decide_eq_true_eq]
  exact List.le_total a b
theorem srt_perm (ks : List Bytes) : (srt ks).Perm ks := List.mergeSort_perm ks _
theorem srt_pw (ks : List Bytes) : (srt ks).Pairwise (fun a b => decide (a ≤ b) = true) := List.pairwise_mergeSort le_tr le_to ks
theorem sorted_unique {l l' : List Bytes} (h : l.Pairwise (fun a b => decide (a ≤ b) = true)) (h' : l'.Pairwise (fun a b => decide (a ≤ b) = true)) (hp : l.Perm l') : l = l' := by
  refine List.Perm.eq_of_pairwise (le := fun a b => decide (a ≤ b) = true) (fun a b _ _ h1 h2 => ?_) h h' hp
  simp only [decide_eq_true_eq] at h1 h2
  exact List.le_antisymm h1 h2
theorem srt_congr {l l' : List Bytes} (h : l.Perm l') : srt l = srt l' := sorted_unique (srt_pw l) (srt_pw l') ((srt_perm l).trans (h.trans (srt_perm l').symm))
theorem srt_filter (p : Bytes → Bool) (l : List Bytes) : (srt l).filter p = srt (l.filter p) :=
  sorted_unique ((srt_pw l).filter p) (srt_pw _) (((srt_perm l).filter p).trans (srt_perm _).symm)
theorem mem_srt {l : List Bytes} {x : Bytes} : x ∈ srt l ↔ x ∈ l := (srt_perm l).mem_iff
theorem length_srt (l : List Bytes) : (srt l).length = l.length := (srt_perm l).length_eq

/-! ### what is encoded hangs on the values alone -/
theorem pts_append (m : KV) (a b : List Bytes) : pts m (a ++ b) = pts m a ++ pts m b := by simp [pts]
theorem pts_cons (m : KV) (k : Bytes) (r : List Bytes) : pts m (k :: r) = (vals m k).map (part k) ++ pts m r := by simp [pts]
theorem pts_filter (m : KV) (ks : List Bytes) : pts m ks = pts m (ks.filter fun k => !(vals m k).isEmpty) := by
  induction ks with
  | nil => rfl
  | cons k r ih =>
    rw [pts_cons, ih, List.filter_cons]
    cases hv : vals m k with
    | nil => simp
    | cons v vs => simp [hv, pts_cons]
theorem pts_congr {m m' : KV} (h : ∀ k, vals m k = vals m' k) (ks : List Bytes) : pts m ks = pts m' ks := by
  unfold pts
  congr 1
  funext k
  rw [h]
theorem mem_keys_of_vals {m : KV} {k : Bytes} (h : vals m k ≠ []) : k ∈ keys m := by
  apply Classical.byContradiction
  intro hn
  have := (look_none_iff m k).2 hn
  exact h (by simp [vals, this])
theorem parts_vals {m m' : KV} (hu : Uniq m) (hu' : Uniq m') (h : ∀ k, vals m k = vals m' k) : parts m = parts m' := by
  unfold parts
  rw [pts_filter m, pts_filter m', pts_congr h, srt_filter, srt_filter]
  congr 1
  refine srt_congr ((List.perm_ext_iff_of_nodup (hu.filter _) (hu'.filter _)).2 fun k => ?_)
  have e : (!(vals m k).isEmpty) = (!(vals m' k).isEmpty) := by rw [h]
  rw [List.mem_filter, List.mem_filter, e]
  constructor
  · intro ⟨_, hv⟩
    refine ⟨mem_keys_of_vals (fun x => ?_), hv⟩
    simp [x] at hv
  · intro ⟨_, hv⟩
    refine ⟨mem_keys_of_vals (fun x => ?_), hv⟩
    rw [h] at x
    simp [x] at hv
theorem enc_vals {m m' : KV} (hu : Uniq m) (hu' : Uniq m') (h : ∀ k, vals m k = vals m' k) : enc m = enc m' := by
  unfold enc
  rw [parts_vals hu hu' h]

/-! ### joined -/
theorem part_ne (k v : Bytes) : part k v ≠ [] := by simp [part]
theorem pts_ne {m : KV} {ks : List Bytes} {p : Bytes} (h : p ∈ pts m ks) : p ≠ [] := by
  unfold pts at h
  rw [List.mem_flatMap] at h
  obtain ⟨k, _, hk⟩ := h
  obtain ⟨v, _, rfl⟩ := List.mem_map.1 hk
  exact part_ne k v
theorem app_ne {l p : Bytes} (h : p ≠ []) : app l p ≠ [] := by
  unfold app
  split
  · simpa using h
  · simp
theorem foldl_app (l : Bytes) (qs : List Bytes) (h : ∀ q ∈ qs, q ≠ []) : qs.foldl app l = if qs = [] then l else if l = [] then joinA qs else l ++ 38 :: joinA qs := by
  induction qs generalizing l with
  | nil => simp
  | cons q r ih =>
    have hq := h q (by simp)
    have hr := fun x hx => h x (List.mem_cons_of_mem q hx)
    have hne : app l q ≠ [] := app_ne hq
    have e1 := ih (app l q) hr
    have e2 := ih q hr
    have e0 : app [] q = q := by simp [app]
    rw [List.foldl_cons, e1]
    have ej : joinA (q :: r) = if r = [] then q else q ++ 38 :: joinA r := by
      unfold joinA
      rw [List.foldl_cons, e0, e2]
      simp [hq, joinA]
    rw [ej]
    simp only [List.cons_ne_nil, if_false, hne]
    by_cases hl : l = []
    · subst hl
      simp [e0]
    · have : app l q = l ++ 38 :: q := by simp [app, hl]
      rw [this]
      simp only [hl, if_false]
      by_cases hr' : r = []
      · simp [hr']
      · simp [hr']
theorem joinA_append (ps qs : List Bytes) (h : ∀ q ∈ qs, q ≠ []) : joinA (ps ++ qs) = if qs = [] then joinA ps else if joinA ps = [] then joinA qs else joinA ps ++ 38 :: joinA qs := by
  unfold joinA
  rw [List.foldl_append]
  exact foldl_app _ _ h
theorem joinA_snoc (ps : List Bytes) (q : Bytes) : joinA (ps ++ [q]) = app (joinA ps) q := by simp [joinA]
theorem joinA_nil : joinA [] = [] := rfl
theorem joinA_eq_nil {ps : List Bytes} (h : ∀ q ∈ ps, q ≠ []) : joinA ps = [] ↔ ps = [] := by
  constructor
  · intro e
    cases ps with
    | nil => rfl
    | cons q r =>
      have h0 := joinA_append [q] r (fun x hx => h x (List.mem_cons_of_mem q hx))
      have hq : joinA [q] = q := by simp [joinA, app]
      have hne := h q (by simp)
      rw [List.singleton_append, hq] at h0
      rw [h0] at e
      simp only [hne, if_false] at e
      split at e
      · exact absurd e hne
      · simp at e
  · rintro rfl
    rfl

/-! ### how many, how long -/
def cnt (m : KV) : Nat := (m.map fun e => e.2.length).sum
theorem cnt_le (m : KV) : cnt m ≤ bulk m := by
  unfold cnt
  induction m with
  | nil => simp
  | cons e r ih =>
    simp only [List.map_cons, List.sum_cons, bulk]
    have := length_le_bulkS e.2
    omega
theorem vals_of_mem {m : KV} (hu : Uniq m) {e : Ent} (he : e ∈ m) : vals m e.1 = e.2 := by
  induction m with
  | nil => cases he
  | cons x r ih =>
    unfold Uniq keys at hu
    simp only [List.map_cons, List.nodup_cons] at hu
    rcases List.mem_cons.1 he with rfl | h
    · simp [vals, lk]
    · have hne : ¬ x.1 = e.1 := fun hx => hu.1 (hx ▸ List.mem_map.2 ⟨e, h, rfl⟩)
      have := ih hu.2 h
      unfold vals at this ⊢
      simp only [lk, hne, if_false]
      exact this
theorem length_pts (m : KV) (ks : List Bytes) : (pts m ks).length = (ks.map fun k => (vals m k).length).sum := by
  induction ks with
  | nil => rfl
  | cons k r ih => rw [pts_cons]; simp [ih]
theorem sum_perm {l l' : List Nat} (h : l.Perm l') : l.sum = l'.sum := by
  induction h with
  | nil => rfl
  | cons x _ ih => simp [ih]
  | swap x y l => simp only [List.sum_cons]; omega
  | trans _ _ ih1 ih2 => exact ih1.trans ih2
theorem length_parts {m : KV} (hu : Uniq m) : (parts m).length = cnt m := by
  unfold parts
  rw [length_pts, sum_perm ((srt_perm (keys m)).map _)]
  unfold cnt keys
  rw [List.map_map]
  congr 1
  apply List.map_congr_left
  intro e he
  simp [vals_of_mem hu he]
theorem enc_nil_iff {m : KV} (hu : Uniq m) : enc m = [] ↔ cnt m = 0 := by
  unfold enc
  rw [joinA_eq_nil (ps := parts m) (fun q hq => pts_ne hq), ← length_parts hu]
  exact List.eq_nil_iff_length_eq_zero
theorem length_esc_le (s : Bytes) : (esc s).length ≤ 3 * s.length := by
  have h1 := length_esc s
  have h2 := hxc_le s
  omega
theorem part_len {m : KV} (hN : bulk m ≤ 4194304) {ks : List Bytes} (hk : ∀ k ∈ ks, k ∈ keys m) {p : Bytes} (h : p ∈ pts m ks) : p.length ≤ 25165825 := by
  unfold pts at h
  rw [List.mem_flatMap] at h
  obtain ⟨k, hk', hp⟩ := h
  obtain ⟨v, hv, rfl⟩ := List.mem_map.1 hp
  obtain ⟨e, he, rfl⟩ := List.mem_map.1 (hk k hk')
  have h1 := mem_le_bulk he
  have h2 := bulkS_vals m e.1
  have h3 := mem_le_bulkS hv
  have h4 := length_esc_le e.1
  have h5 := length_esc_le v
  simp only [part, List.length_append, List.length_cons]
  omega
theorem length_joinA {ps : List Bytes} {C : Nat} (h : ∀ p ∈ ps, p.length ≤ C) : (joinA ps).length ≤ ps.length * (C + 1) := by
  have gen : ∀ (l : Bytes), (ps.foldl app l).length ≤ l.length + ps.length * (C + 1) := by
    induction ps with
    | nil => intro l; simp
    | cons p r ih =>
      intro l
      have hp := h p (by simp)
      have := ih (fun x hx => h x (List.mem_cons_of_mem p hx)) (app l p)
      rw [List.foldl_cons]
      have ha : (app l p).length ≤ l.length + 1 + p.length := by
        unfold app
        split <;> simp <;> omega
      simp only [List.length_cons, Nat.add_mul, Nat.one_mul]
      omega
  simpa [joinA] using gen []
/-- whatever stands ahead in what is encoded is not too long -/
theorem bnd {m : KV} (hu : Uniq m) (hN : bulk m ≤ 4194304) {ps r : List Bytes} (h : ps ++ r = parts m) : (joinA ps).length ≤ 120000000000000 := by
  have h1 := length_parts hu
  have h2 := cnt_le m
  have h3 : ps.length ≤ 4194304 := by
    rw [← h, List.length_append] at h1
    omega
  have h4 := length_joinA (ps := ps) (C := 25165825) (fun p hp => part_len hN (ks := srt (keys m)) (fun k hk => mem_srt.1 hk) (by
    show p ∈ parts m
    rw [← h]
    exact List.mem_append_left _ hp))
  omega
/-- what stands ahead: the keys up to the j-th, of that one the values up to the i-th -/
theorem ahead_parts (m : KV) (ks : List Bytes) (j : Nat) (hj : j < ks.length) (i : Nat) : ∃ r, (pts m (ks.take j) ++ ((vals m ks[j]).take i).map (part ks[j])) ++ r = pts m ks := by
  refine ⟨((vals m ks[j]).drop i).map (part ks[j]) ++ pts m (ks.drop (j + 1)), ?_⟩
  have e : pts m ks = pts m (ks.take j) ++ ((vals m ks[j]).map (part ks[j]) ++ pts m (ks.drop (j + 1))) := by
    rw [← pts_cons, ← pts_append, ← List.drop_eq_getElem_cons hj, List.take_append_drop]
  rw [e, List.append_assoc, ← List.append_assoc ((List.take i _).map _), ← List.map_append, List.take_append_drop]
theorem pts_take_succ (m : KV) (ks : List Bytes) (j : Nat) (hj : j < ks.length) : pts m (ks.take (j + 1)) = pts m (ks.take j) ++ (vals m ks[j]).map (part ks[j]) := by
  rw [List.take_succ_eq_append_getElem hj, pts_append]
  simp [pts]
end Uv
