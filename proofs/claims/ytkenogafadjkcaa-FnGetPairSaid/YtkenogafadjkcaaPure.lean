/-
  PLAIN LEAN, NO PROGRAM: what lists of keys with values are, kept by key; how they are looked up, added to, set, deleted.
-/
namespace Uv

abbrev Bytes := List UInt8
abbrev Ent := Bytes × List Bytes
abbrev KV := List Ent

def lk : KV → Bytes → Option (List Bytes)
  | [], _ => none
  | e :: r, k => if e.1 = k then some e.2 else lk r k
def vals (m : KV) (k : Bytes) : List Bytes := (lk m k).getD []
def hd : List Bytes → Bytes
  | [] => []
  | x :: _ => x
def has (m : KV) (k : Bytes) : Bool := (lk m k).isSome
def addAll : KV → Bytes → List Bytes → KV
  | [], k, vs => [(k, vs)]
  | e :: r, k, vs => if e.1 = k then (e.1, e.2 ++ vs) :: r else e :: addAll r k vs
def keptFrom (m : KV) (es : KV) : KV := es.foldl (fun m e => addAll m e.1 e.2) m
def kept (es : KV) : KV := keptFrom [] es
def del (m : KV) (k : Bytes) : KV := m.filter (fun e => !decide (e.1 = k))
def add (m : KV) (k v : Bytes) : KV := addAll m k [v]
def sett (m : KV) (k v : Bytes) : KV := add (del m k) k v
def keys (m : KV) : List Bytes := m.map Prod.fst
def Uniq (m : KV) : Prop := (keys m).Nodup

/-! ### lk -/
theorem look_none_iff (m : KV) (k : Bytes) : lk m k = none ↔ k ∉ keys m := by
  induction m with
  | nil => simp [lk, keys]
  | cons e r ih =>
    simp only [lk, keys, List.map_cons, List.mem_cons, not_or]
    by_cases h : e.1 = k
    · simp [h]
    · simp only [h, if_false]
      rw [ih]
      simp only [keys]
      constructor
      · intro a; exact ⟨fun b => h b.symm, a⟩
      · intro a; exact a.2

theorem look_some_iff (m : KV) (k : Bytes) : (lk m k).isSome = true ↔ k ∈ keys m := by
  have := look_none_iff m k
  cases h : lk m k with
  | none => simp [this.1 h]
  | some x =>
    simp only [Option.isSome_some, true_iff]
    exact Classical.byContradiction fun hn => by rw [this.2 hn] at h; cases h

theorem look_addAll_same (m : KV) (k : Bytes) (vs : List Bytes) : lk (addAll m k vs) k = some (vals m k ++ vs) := by
  induction m with
  | nil => simp [addAll, lk, vals]
  | cons e r ih =>
    unfold addAll
    by_cases h : e.1 = k
    · simp [h, lk, vals]
    · simp [h, lk]
      rw [ih]
      simp [vals, lk, h]

theorem look_addAll_other (m : KV) (k : Bytes) (vs : List Bytes) (j : Bytes) (h : j ≠ k) : lk (addAll m k vs) j = lk m j := by
  induction m with
  | nil => simp [addAll, lk]; exact fun e => absurd e.symm h
  | cons e r ih =>
    unfold addAll
    by_cases h1 : e.1 = k
    · have : ¬ e.1 = j := fun h2 => h (h2.symm.trans h1)
      simp only [h1, if_true, lk]
      rw [h1] at this
      simp [this]
    · simp only [h1, if_false, lk]
      rw [ih]

theorem look_addAll (m : KV) (k : Bytes) (vs : List Bytes) (j : Bytes) : lk (addAll m k vs) j = if j = k then some (vals m k ++ vs) else lk m j := by
  by_cases h : j = k
  · subst h; simp [look_addAll_same]
  · simp [h, look_addAll_other m k vs j h]

theorem look_del (m : KV) (k j : Bytes) : lk (del m k) j = if j = k then none else lk m j := by
  induction m with
  | nil => simp [del, lk]
  | cons e r ih =>
    simp only [del, List.filter_cons]
    by_cases h1 : e.1 = k
    · simp only [h1, decide_true, Bool.not_true, Bool.false_eq_true, if_false]
      have := ih
      unfold del at this
      rw [this]
      by_cases h2 : j = k
      · simp [h2]
      · have : ¬ e.1 = j := fun h3 => h2 (h3.symm.trans h1)
        simp [h2, lk, this]
    · simp only [h1, decide_false, Bool.not_false, if_true, lk]
      have := ih
      unfold del at this
      rw [this]
      by_cases h2 : e.1 = j
      · have : ¬ j = k := fun h3 => h1 (h2.trans h3)
        simp [h2, this]
      · simp [h2]

/-! ### unique keys -/
theorem keys_addAll (m : KV) (k : Bytes) (vs : List Bytes) : keys (addAll m k vs) = if k ∈ keys m then keys m else keys m ++ [k] := by
  induction m with
  | nil => simp [addAll, keys]
  | cons e r ih =>
    unfold addAll
    by_cases h : e.1 = k
    · simp [h, keys]
    · simp only [h, if_false]
      have hk : ¬ k = e.1 := fun a => h a.symm
      simp only [keys, List.map_cons, List.mem_cons, hk, false_or] at ih ⊢
      rw [ih]
      split <;> simp_all

theorem Uniq.addAll {m : KV} (h : Uniq m) (k : Bytes) (vs : List Bytes) : Uniq (addAll m k vs) := by
  unfold Uniq at *
  rw [keys_addAll]
  split
  · exact h
  · rename_i hk
    rw [List.nodup_append]
    refine ⟨h, by simp, ?_⟩
    intro a ha b hb
    simp at hb
    subst hb
    exact fun e => hk (e ▸ ha)

theorem uniq_nil : Uniq [] := by simp [Uniq, keys]

theorem keptFrom_nil (m : KV) : keptFrom m [] = m := rfl
theorem keptFrom_cons (m : KV) (e : Ent) (es : KV) : keptFrom m (e :: es) = keptFrom (addAll m e.1 e.2) es := rfl
theorem keptFrom_append (m : KV) (es fs : KV) : keptFrom m (es ++ fs) = keptFrom (keptFrom m es) fs := by simp [keptFrom, List.foldl_append]
theorem kept_snoc (es : KV) (e : Ent) : kept (es ++ [e]) = addAll (kept es) e.1 e.2 := by simp [kept, keptFrom, List.foldl_append]

theorem Uniq.keptFrom {m : KV} (h : Uniq m) (es : KV) : Uniq (keptFrom m es) := by
  induction es generalizing m with
  | nil => exact h
  | cons e r ih => exact ih (h.addAll e.1 e.2)
theorem uniq_kept (es : KV) : Uniq (kept es) := uniq_nil.keptFrom es

theorem Uniq.del {m : KV} (h : Uniq m) (k : Bytes) : Uniq (del m k) := by
  unfold Uniq keys Uv.del at *
  exact (List.filter_sublist.map Prod.fst).nodup h

theorem addAll_new (m : KV) (k : Bytes) (vs : List Bytes) (h : k ∉ keys m) : addAll m k vs = m ++ [(k, vs)] := by
  induction m with
  | nil => rfl
  | cons e r ih =>
    simp only [keys, List.map_cons, List.mem_cons, not_or] at h
    unfold addAll
    rw [if_neg (fun a => h.1 a.symm), ih (by simpa [keys] using h.2)]
    rfl

/-- entries with unique keys are kept as they are -/
theorem keptFrom_uniq (m es : KV) (h : Uniq (m ++ es)) : keptFrom m es = m ++ es := by
  induction es generalizing m with
  | nil => simp [keptFrom_nil]
  | cons e r ih =>
    rw [keptFrom_cons]
    have hk : e.1 ∉ keys m := by
      intro hm
      unfold Uniq keys at h
      rw [List.map_append, List.nodup_append] at h
      exact h.2.2 _ hm e.1 (by simp) rfl
    rw [addAll_new m e.1 e.2 hk]
    have : Uniq ((m ++ [(e.1, e.2)]) ++ r) := by simpa using h
    rw [ih _ this]
    simp
theorem kept_uniq (m : KV) (h : Uniq m) : kept m = m := by
  have := keptFrom_uniq [] m (by simpa using h)
  simpa [kept] using this
theorem kept_snoc_uniq (m : KV) (h : Uniq m) (k : Bytes) (vs : List Bytes) : kept (m ++ [(k, vs)]) = addAll m k vs := by
  rw [kept_snoc, kept_uniq m h]

/-! ### sizes -/
def bulkS : List Bytes → Nat
  | [] => 0
  | s :: r => s.length + 1 + bulkS r
def bulk : KV → Nat
  | [] => 0
  | e :: r => e.1.length + 1 + bulkS e.2 + bulk r

theorem bulkS_append (a b : List Bytes) : bulkS (a ++ b) = bulkS a + bulkS b := by
  induction a with
  | nil => simp [bulkS]
  | cons x r ih => simp only [List.cons_append, bulkS, ih]; omega
theorem length_le_bulkS (a : List Bytes) : a.length ≤ bulkS a := by
  induction a with
  | nil => simp
  | cons x r ih => simp only [List.length_cons, bulkS]; omega
theorem mem_le_bulkS {a : List Bytes} {x : Bytes} (h : x ∈ a) : x.length + 1 ≤ bulkS a := by
  induction a with
  | nil => cases h
  | cons y r ih =>
    simp only [bulkS]
    rcases List.mem_cons.1 h with e | e
    · subst e; omega
    · have := ih e; omega
theorem bulk_append (a b : KV) : bulk (a ++ b) = bulk a + bulk b := by
  induction a with
  | nil => simp [bulk]
  | cons x r ih => simp only [List.cons_append, bulk, ih]; omega
theorem length_le_bulk (a : KV) : a.length ≤ bulk a := by
  induction a with
  | nil => simp
  | cons x r ih => simp only [List.length_cons, bulk]; omega
theorem mem_le_bulk {a : KV} {x : Ent} (h : x ∈ a) : x.1.length + 1 + bulkS x.2 ≤ bulk a := by
  induction a with
  | nil => cases h
  | cons y r ih =>
    simp only [bulk]
    rcases List.mem_cons.1 h with e | e
    · subst e; omega
    · have := ih e; omega
theorem bulk_addAll (m : KV) (k : Bytes) (vs : List Bytes) : bulk (addAll m k vs) ≤ bulk m + k.length + 1 + bulkS vs := by
  induction m with
  | nil => simp only [addAll, bulk]; omega
  | cons e r ih =>
    unfold addAll
    split
    · simp only [bulk, bulkS_append]; omega
    · simp only [bulk]; omega
theorem bulk_keptFrom (m es : KV) : bulk (keptFrom m es) ≤ bulk m + bulk es := by
  induction es generalizing m with
  | nil => simp [keptFrom_nil, bulk]
  | cons e r ih =>
    rw [keptFrom_cons]
    have h1 := ih (addAll m e.1 e.2)
    have h2 := bulk_addAll m e.1 e.2
    simp only [bulk]
    omega
theorem bulk_kept (es : KV) : bulk (kept es) ≤ bulk es := by have := bulk_keptFrom [] es; simpa [kept, bulk] using this
theorem bulk_del (m : KV) (k : Bytes) : bulk (del m k) ≤ bulk m := by
  induction m with
  | nil => simp [del]
  | cons e r ih =>
    unfold del at ih ⊢
    simp only [List.filter_cons]
    split
    · simp only [bulk]; omega
    · simp only [bulk]; omega
theorem bulk_take (es : KV) (n : Nat) : bulk (es.take n) ≤ bulk es := by
  have := bulk_append (es.take n) (es.drop n)
  rw [List.take_append_drop] at this
  omega
theorem bulkS_vals (m : KV) (k : Bytes) : bulkS (vals m k) ≤ bulk m := by
  induction m with
  | nil => simp [vals, lk, bulkS]
  | cons e r ih =>
    unfold vals at ih ⊢
    simp only [lk, bulk]
    split
    · simp; omega
    · omega
theorem length_vals (m : KV) (k : Bytes) : (vals m k).length ≤ bulk m := Nat.le_trans (length_le_bulkS _) (bulkS_vals m k)
theorem bulk_add (m : KV) (k v : Bytes) : bulk (add m k v) ≤ bulk m + k.length + v.length + 2 := by
  have := bulk_addAll m k [v]
  simp only [bulkS] at this
  unfold add
  omega
theorem bulk_sett (m : KV) (k v : Bytes) : bulk (sett m k v) ≤ bulk m + k.length + v.length + 2 := by
  have h1 := bulk_add (del m k) k v
  have h2 := bulk_del m k
  unfold sett
  omega

def lenS : List Bytes → Nat
  | [] => 0
  | s :: r => s.length + lenS r
theorem bulkS_eq (a : List Bytes) : bulkS a = a.length + lenS a := by
  induction a with
  | nil => rfl
  | cons x r ih => simp only [bulkS, lenS, List.length_cons, ih]; omega
theorem lenS_append (a b : List Bytes) : lenS (a ++ b) = lenS a + lenS b := by
  induction a with
  | nil => simp [lenS]
  | cons x r ih => simp only [List.cons_append, lenS, ih]; omega
theorem lenS_take_succ (a : List Bytes) (k : Nat) (h : k < a.length) : lenS (a.take (k + 1)) = lenS (a.take k) + a[k].length := by
  rw [List.take_succ_eq_append_getElem h, lenS_append]
  simp [lenS]
theorem lenS_take_le (a : List Bytes) (k : Nat) : lenS (a.take k) ≤ lenS a := by
  have := lenS_append (a.take k) (a.drop k)
  rw [List.take_append_drop] at this
  omega
theorem bulk_take_succ (a : KV) (k : Nat) (h : k < a.length) : bulk (a.take (k + 1)) = bulk (a.take k) + (a[k].1.length + 1 + bulkS a[k].2) := by
  rw [List.take_succ_eq_append_getElem h, bulk_append]
  simp [bulk]

theorem length_addAll (m : KV) (k : Bytes) (vs : List Bytes) : (addAll m k vs).length ≤ m.length + 1 := by
  induction m with
  | nil => simp [addAll]
  | cons e r ih =>
    unfold addAll
    split
    · simp
    · simp only [List.length_cons]; omega
theorem length_keptFrom (m es : KV) : (keptFrom m es).length ≤ m.length + es.length := by
  induction es generalizing m with
  | nil => simp [keptFrom_nil]
  | cons e r ih =>
    rw [keptFrom_cons]
    have h1 := ih (addAll m e.1 e.2)
    have h2 := length_addAll m e.1 e.2
    simp only [List.length_cons]
    omega
theorem length_kept (es : KV) : (kept es).length ≤ es.length := by have := length_keptFrom [] es; simpa [kept] using this

/-! ### the place of a key -/
def fnd : KV → Bytes → Option Nat
  | [], _ => none
  | e :: r, k => if e.1 = k then some 0 else (fnd r k).map (· + 1)
def findI (es : KV) (k : Bytes) : Int := match fnd es k with | some i => (i : Int) | none => -1
theorem findI_none {es : KV} {k : Bytes} (h : fnd es k = none) : findI es k = -1 := by simp [findI, h]
theorem findI_some {es : KV} {k : Bytes} {i : Nat} (h : fnd es k = some i) : findI es k = (i : Int) := by simp [findI, h]
theorem fnd_miss {es : KV} {k : Bytes} (h : ∀ (j : Nat) e, es[j]? = some e → e.1 ≠ k) : fnd es k = none := by
  induction es with
  | nil => rfl
  | cons x r ih =>
    have h0 := h 0 x rfl
    simp only [fnd, h0, if_false]
    rw [ih (fun j e hj => h (j + 1) e (by simpa using hj))]
    rfl
theorem fnd_hit {es : KV} {k : Bytes} {n : Nat} (hn : n < es.length) (he : es[n].1 = k) (h : ∀ (j : Nat) e, j < n → es[j]? = some e → e.1 ≠ k) : fnd es k = some n := by
  induction es generalizing n with
  | nil => simp at hn
  | cons x r ih =>
    cases n with
    | zero => simp at he; simp [fnd, he]
    | succ n =>
      have h0 := h 0 x (by omega) rfl
      simp only [fnd, h0, if_false]
      rw [ih (n := n) (by simpa using hn) (by simpa using he) (fun j e hj hje => h (j + 1) e (by omega) (by simpa using hje))]
      rfl
theorem findI_miss {es : KV} {k : Bytes} (h : ∀ (j : Nat) e, es[j]? = some e → e.1 ≠ k) : findI es k = -1 := findI_none (fnd_miss h)
theorem findI_hit {es : KV} {k : Bytes} {n : Nat} (hn : n < es.length) (he : es[n].1 = k) (h : ∀ (j : Nat) e, j < n → es[j]? = some e → e.1 ≠ k) : findI es k = (n : Int) := findI_some (fnd_hit hn he h)
theorem lk_fnd (es : KV) (k : Bytes) : lk es k = (fnd es k).bind (fun i => es[i]?.map Prod.snd) := by
  induction es with
  | nil => rfl
  | cons x r ih =>
    simp only [lk, fnd]
    split
    · simp
    · rw [ih]
      cases fnd r k <;> simp
theorem fnd_lt {es : KV} {k : Bytes} {i : Nat} (h : fnd es k = some i) : ∃ hi : i < es.length, es[i].1 = k := by
  induction es generalizing i with
  | nil => simp [fnd] at h
  | cons x r ih =>
    simp only [fnd] at h
    split at h
    · rename_i hx
      injection h with h
      subst h
      exact ⟨by simp, hx⟩
    · cases hr : fnd r k with
      | none => simp [hr] at h
      | some j =>
        simp [hr] at h
        subst h
        obtain ⟨h1, h2⟩ := ih hr
        exact ⟨by simpa using h1, by simpa using h2⟩
theorem has_fnd (es : KV) (k : Bytes) : has es k = (fnd es k).isSome := by
  unfold has
  rw [lk_fnd]
  cases h : fnd es k with
  | none => rfl
  | some i =>
    obtain ⟨h1, _⟩ := fnd_lt h
    simp [h1]

theorem addAll_fnd {m : KV} {k : Bytes} {j : Nat} (h : fnd m k = some j) (hj : j < m.length) (vs : List Bytes) : addAll m k vs = m.set j (m[j].1, m[j].2 ++ vs) := by
  induction m generalizing j with
  | nil => simp at hj
  | cons x r ih =>
    simp only [fnd] at h
    unfold addAll
    split at h
    · rename_i hx
      injection h with h
      subst h
      simp [hx]
    · rename_i hx
      cases hr : fnd r k with
      | none => simp [hr] at h
      | some i =>
        simp [hr] at h
        subst h
        rw [if_neg hx, ih hr (by simpa using hj)]
        simp
theorem addAll_fnd_none {m : KV} {k : Bytes} (h : fnd m k = none) (vs : List Bytes) : addAll m k vs = m ++ [(k, vs)] := by
  apply addAll_new
  rw [← look_none_iff, lk_fnd, h]
  rfl

theorem has_addAll (m : KV) (k : Bytes) (vs : List Bytes) (j : Bytes) : has (addAll m k vs) j = (decide (j = k) || has m j) := by
  unfold has
  rw [look_addAll]
  by_cases h : j = k <;> simp [h]
theorem has_keptFrom (m es : KV) (k : Bytes) : has (keptFrom m es) k = (has m k || has es k) := by
  induction es generalizing m with
  | nil => simp [keptFrom_nil, has, lk]
  | cons e r ih =>
    rw [keptFrom_cons, ih, has_addAll]
    simp only [has, lk]
    by_cases h : e.1 = k
    · simp [h]
    · have : ¬ k = e.1 := fun x => h x.symm
      simp [h, this]
theorem has_kept (es : KV) (k : Bytes) : has (kept es) k = has es k := by
  have := has_keptFrom [] es k
  simpa [kept, has, lk] using this

/-- what is left of L when n is taken off; -1, if there is not so much -/
def szR (L n : Nat) : Int := if n ≤ L then ((L - n : Nat) : Int) else -1
theorem szR_yes {L n : Nat} (h : n ≤ L) : szR L n = ((L - n : Nat) : Int) := by simp [szR, h]
theorem szR_no {L n : Nat} (h : L < n) : szR L n = -1 := by unfold szR; rw [if_neg (by omega)]

theorem vals_sett_same (m : KV) (k v : Bytes) : vals (sett m k v) k = [v] ∧ has (sett m k v) k = true := by
  unfold sett add vals has
  rw [look_addAll_same]
  simp [vals, look_del]
theorem lk_del_other (m : KV) (k j : Bytes) (h : j ≠ k) : lk (del m k) j = lk m j := by rw [look_del, if_neg h]
theorem bulk_zip (ks : List Bytes) (B : List (List Bytes) → Nat) (hB : ∀ s r, B (s :: r) = bulkS s + 1 + B r) (vss : List (List Bytes)) : bulk (ks.zip vss) ≤ bulkS ks + B vss := by
  induction ks generalizing vss with
  | nil => simp [bulk]
  | cons k r ih =>
    cases vss with
    | nil => simp [bulk]
    | cons v s =>
      have := ih s
      rw [List.zip_cons_cons, hB]
      simp only [bulk, bulkS]
      omega

end Uv
