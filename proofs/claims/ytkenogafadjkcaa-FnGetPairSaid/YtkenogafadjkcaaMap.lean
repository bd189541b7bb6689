/-
  The map of a url.Values: block b of the world holds the keys of m, each with a row of its own that reads as the key's values.
-/
import Derived.Test.YtkenogafadjkcaaApp
import Derived.Maps.OwnSet
namespace Go.Proofs.Ytkenogafadjkcaa
open Go.RowKit
open Uv (Bytes Ent KV lk vals has addAll del sett add keys Uniq)
open Go.Maps (Keyed)

theorem lawK : Keyed Try.prog 9 := Go.Maps.string_keyed (by kernel_rfl)
theorem undK : Try.prog.underlying 9 = some .string := by kernel_rfl
theorem undM : Try.prog.underlying 30 = some (.map 9 22) := by kernel_rfl
theorem zeroS (w : World) : (zeroValue 22).run Try.prog w = .ok (.slice none 0 0) w := by kernel_rfl

/-- how an element is read: as itself -/
def RV (v : Value) : Option (DataW Value × List MemPlace) := some (.held v, [])

/-- the key is there, whatever its values -/
def put (m : KV) (k : Bytes) (vs : List Bytes) : KV := if has m k then m.map (fun e => if e.1 = k then (e.1, vs) else e) else m ++ [(k, vs)]

structure VMapW (F : Nat → Prop) (w : World) (b : Nat) (m : KV) (n : Nat) (D : DataW Value) (vf : Bytes → Value) : Prop where
  uniq : Uniq m
  here : F b
  owns : w.ownsMap Try.prog 9 RV b n D
  size : Go.Maps.size D = m.length
  at' : ∀ k z, D.atKey (.string k) z = if has m k then .held (vf k) else z
  rows : ∀ k, has m k = true → OStrs F w (vf k) (vals m k)
  apart : ∀ k j, has m k = true → has m j = true → k ≠ j → (vf k).ownBlock = none ∨ (vf k).ownBlock ≠ (vf j).ownBlock

/-- BLOCK b IS A MAP THAT HAS THE KEYS AND VALUES OF m, all in blocks of F. -/
def VMap (F : Nat → Prop) (w : World) (b : Nat) (m : KV) : Prop := ∃ n D vf, VMapW F w b m n D vf

theorem ownsMap_tight {w : World} {b n : Nat} {D : DataW Value} (h : w.ownsMap Try.prog 9 RV b n D) : w.ownsMap Try.prog 9 RV b (Go.Maps.size D) D := by
  obtain ⟨es, clock, hb, F, hs, hD⟩ := h
  refine ⟨es, clock, hb, F, ?_, hD⟩
  rw [hD]
  simp [Go.Maps.size, length_sorted]

theorem VMapW.has_eq {F : Nat → Prop} {w : World} {b : Nat} {m : KV} {n : Nat} {D : DataW Value} {vf : Bytes → Value} (h : VMapW F w b m n D vf) (k : Bytes) : Go.Maps.has D (.string k) = has m k := by
  cases hm : has m k with
  | false => exact Go.Maps.has_false_of_atKey (fun z => by rw [h.at']; simp [hm])
  | true => exact Go.Maps.has_true_of_atKey (y := .held (vf k)) (fun z => by rw [h.at']; simp [hm])

theorem has_congr {m m' : KV} (h : ∀ k, lk m k = lk m' k) (k : Bytes) : has m k = has m' k := by simp [has, h]
theorem vals_congr {m m' : KV} (h : ∀ k, lk m k = lk m' k) (k : Bytes) : vals m k = vals m' k := by simp [vals, h]

theorem VMap.congr {F : Nat → Prop} {w : World} {b : Nat} {m m' : KV} (h : VMap F w b m) (hl : ∀ k, lk m k = lk m' k) (hu : Uniq m') (hn : m'.length = m.length) : VMap F w b m' := by
  obtain ⟨n, D, vf, h⟩ := h
  refine ⟨n, D, vf, hu, h.here, h.owns, by rw [hn]; exact h.size, fun k z => ?_, fun k hk => ?_, fun k j hk hj => ?_⟩
  · rw [h.at', has_congr hl]
  · rw [← has_congr hl] at hk
    rw [← vals_congr hl]
    exact h.rows k hk
  · rw [← has_congr hl] at hk hj
    exact h.apart k j hk hj

theorem VMap.mono {F G : Nat → Prop} {w : World} {b : Nat} {m : KV} (h : VMap F w b m) (hs : ∀ k, k < w.heap.size → F k → G k) : VMap G w b m := by
  obtain ⟨n, D, vf, h⟩ := h
  exact ⟨n, D, vf, h.uniq, hs b h.owns.lt h.here, h.owns, h.size, h.at', fun k hk => (h.rows k hk).mono hs, h.apart⟩

theorem ownsMap_chg {G : Nat → Prop} {w w' : World} {b n : Nat} {D : DataW Value} (h : w.ownsMap Try.prog 9 RV b n D) (hc : Chg G w w') (hd : ¬ G b) : w'.ownsMap Try.prog 9 RV b n D := by
  have hlt := h.lt
  obtain ⟨es, clock, hb, r⟩ := h
  exact ⟨es, clock, (hc.block b hlt hd).trans hb, r⟩

theorem VMap.kept {F G : Nat → Prop} {w w' : World} {b : Nat} {m : KV} (h : VMap F w b m) (hc : Chg G w w') (hd : ∀ k, k < w.heap.size → F k → ¬ G k) : VMap F w' b m := by
  obtain ⟨n, D, vf, h⟩ := h
  refine ⟨n, D, vf, h.uniq, h.here, ownsMap_chg h.owns hc (hd b h.owns.lt h.here), h.size, h.at', fun k hk => ?_, h.apart⟩
  have ho := h.rows k hk
  exact ho.kept hc (fun g hg => hd g (ho.1.lt g hg).2 (ho.2 g hg))
theorem VMap.new {F : Nat → Prop} {w w' : World} {b : Nat} {m : KV} (h : VMap F w b m) (hc : Chg None w w') : VMap F w' b m := h.kept hc (fun _ _ _ x => x)

theorem VMap.uniq {F : Nat → Prop} {w : World} {b : Nat} {m : KV} (h : VMap F w b m) : Uniq m := by obtain ⟨n, D, vf, h⟩ := h; exact h.uniq
theorem VMap.lt {F : Nat → Prop} {w : World} {b : Nat} {m : KV} (h : VMap F w b m) : b < w.heap.size := by obtain ⟨n, D, vf, h⟩ := h; exact h.owns.lt
theorem VMap.here {F : Nat → Prop} {w : World} {b : Nat} {m : KV} (h : VMap F w b m) : F b := by obtain ⟨n, D, vf, h⟩ := h; exact h.here

/-- a new map -/
theorem VMap.made (w : World) : VMap (fun k => w.heap.size ≤ k) (w.alloc (.map #[] 0)) w.heap.size [] :=
  ⟨0, .map [], fun _ => .slice none 0 0, Uv.uniq_nil, Nat.le_refl _, World.ownsMap_made w _ _ _, rfl, fun k z => by simp [has, lk, DataW.atKey], fun k hk => by simp [has, lk] at hk, fun k _ hk => by simp [has, lk] at hk⟩

/-! ### put, as a list -/
theorem keys_put_has (m : KV) (k : Bytes) (vs : List Bytes) : keys (m.map (fun e => if e.1 = k then (e.1, vs) else e)) = keys m := by
  unfold keys
  rw [List.map_map]
  apply List.map_congr_left
  intro e _
  simp only [Function.comp]
  split <;> rfl

theorem look_map_put (m : KV) (k : Bytes) (vs : List Bytes) (j : Bytes) : lk (m.map (fun e => if e.1 = k then (e.1, vs) else e)) j = if j = k then (lk m k).map (fun _ => vs) else lk m j := by
  induction m with
  | nil => simp [lk]
  | cons e r ih =>
    simp only [List.map_cons, lk]
    by_cases h : e.1 = k
    · simp only [h, if_true]
      by_cases hj : j = k
      · simp [hj]
      · have : ¬ k = j := fun x => hj x.symm
        simp only [this, if_false, hj]
        rw [ih]
        simp [hj]
    · simp only [h, if_false]
      by_cases hj : e.1 = j
      · have : ¬ j = k := fun x => h (hj.trans x)
        simp [hj, this]
      · simp only [hj, if_false]
        rw [ih]

theorem look_append (m r : KV) (k : Bytes) : lk (m ++ r) k = (lk m k).or (lk r k) := by
  induction m with
  | nil => simp [lk]
  | cons e m ih =>
    simp only [List.cons_append, lk]
    split
    · simp
    · exact ih

theorem look_put (m : KV) (k : Bytes) (vs : List Bytes) (j : Bytes) : lk (put m k vs) j = if j = k then some vs else lk m j := by
  unfold put
  by_cases hh : has m k = true
  · simp only [hh, if_true]
    rw [look_map_put]
    split
    · obtain ⟨x, hx⟩ := Option.isSome_iff_exists.1 hh
      simp [hx]
    · rfl
  · simp only [hh]
    rw [if_neg (by simp), look_append]
    have hn : lk m k = none := by simpa [has] using hh
    by_cases hj : j = k
    · simp [hj, hn, lk]
    · have : ¬ k = j := fun x => hj x.symm
      simp [hj, lk, this]

theorem uniq_put {m : KV} (h : Uniq m) (k : Bytes) (vs : List Bytes) : Uniq (put m k vs) := by
  unfold put
  split
  · unfold Uniq
    rw [keys_put_has]
    exact h
  · rename_i hh
    have hn : lk m k = none := by simpa [has] using hh
    have := h.addAll k vs
    rwa [Uv.addAll_new m k vs ((Uv.look_none_iff m k).1 hn)] at this

theorem length_put (m : KV) (k : Bytes) (vs : List Bytes) : (put m k vs).length = if has m k then m.length else m.length + 1 := by
  unfold put
  split <;> simp

theorem has_put (m : KV) (k : Bytes) (vs : List Bytes) (j : Bytes) : has (put m k vs) j = (decide (j = k) || has m j) := by
  unfold has
  rw [look_put]
  by_cases h : j = k <;> simp [h]

theorem vals_put (m : KV) (k : Bytes) (vs : List Bytes) (j : Bytes) : vals (put m k vs) j = if j = k then vs else vals m j := by
  unfold vals
  rw [look_put]
  by_cases h : j = k <;> simp [h]

theorem put_eq_addAll {m : KV} (h : Uniq m) (k : Bytes) (vs : List Bytes) : put m k (vals m k ++ vs) = addAll m k vs := by
  unfold put
  by_cases hh : has m k = true
  · simp only [hh, if_true]
    induction m with
    | nil => simp [has, lk] at hh
    | cons e r ih =>
      simp only [List.map_cons, addAll]
      have hu : Uniq r := by
        unfold Uniq keys at h ⊢
        simp only [List.map_cons, List.nodup_cons] at h
        exact h.2
      have hk : e.1 ∉ keys r := by
        unfold Uniq keys at h
        simp only [List.map_cons, List.nodup_cons] at h
        exact h.1
      by_cases he : e.1 = k
      · simp only [he, if_true]
        congr 1
        · simp [vals, lk, he]
        · have : ∀ x ∈ r, (if x.1 = k then (x.1, vals (e :: r) k ++ vs) else x) = x := by
            intro x hx
            rw [if_neg]
            intro hxk
            exact hk (by rw [he, ← hxk]; exact List.mem_map.2 ⟨x, hx, rfl⟩)
          rw [List.map_congr_left this]
          simp
      · simp only [he, if_false]
        congr 1
        have hr : has r k = true := by simpa [has, lk, he] using hh
        rw [← ih hu hr]
        simp [vals, lk, he]
  · have hn : lk m k = none := by simpa [has] using hh
    simp only [hh]
    rw [if_neg (by simp), Uv.addAll_new m k vs ((Uv.look_none_iff m k).1 hn)]
    simp [vals, hn]

/-! ### the operations -/
theorem keyS {k : Bytes} (hk : k.length ≤ maxLen) : keyOf Try.prog 9 (encStr k) = some (.string k) := by
  have := Go.WideMaps.keyOf_string_mk (P := Try.prog) (k := 9) undK (s := ⟨k.toArray⟩) (by simpa [ByteArray.size] using hk)
  simpa using this

section
variable {F : Nat → Prop} {w : World} {b : Nat} {m : KV} {k : Bytes}

set_option maxRecDepth 100000 in
/-- what the map has of a key: the row, or nil -/
theorem VMapW.look_run {n : Nat} {D : DataW Value} {vf : Bytes → Value} (h : VMapW F w b m n D vf) (hk : k.length ≤ maxLen) {w' : World} (hown : w'.ownsMap Try.prog 9 RV b n D) :
    (Instr.lookup 30 (.map (some b)) (encStr k) false).run Try.prog w' = .ok (if has m k then vf k else .slice none 0 0) w' := by
  obtain ⟨v, ps, hrun, hR⟩ := hown.lookup lawK undM (zeroS w') (zd := .held (.slice none 0 0)) (zp := []) rfl (keyS hk)
  rw [h.at'] at hR
  simp only [RV, Option.some.injEq, Prod.mk.injEq] at hR
  rw [hrun]
  congr 1
  split at hR
  · rename_i hh
    simp only [hh, if_true]
    simpa using hR.1
  · rename_i hh
    simp only [hh, Bool.false_eq_true, if_false]
    simpa using hR.1

set_option maxRecDepth 100000 in
theorem VMapW.look_ok_run {n : Nat} {D : DataW Value} {vf : Bytes → Value} (h : VMapW F w b m n D vf) (hk : k.length ≤ maxLen) {w' : World} (hown : w'.ownsMap Try.prog 9 RV b n D) :
    (Instr.lookup 30 (.map (some b)) (encStr k) true).run Try.prog w' = .ok (.tuple #[if has m k then vf k else .slice none 0 0, .bool (has m k)]) w' := by
  obtain ⟨v, ps, hrun, hR⟩ := hown.look_ok lawK undM (zeroS w') (zd := .held (.slice none 0 0)) (zp := []) rfl (keyS hk)
  rw [h.at'] at hR
  simp only [RV, Option.some.injEq, Prod.mk.injEq] at hR
  rw [hrun, h.has_eq]
  congr 3
  split at hR
  · rename_i hh
    simp only [hh, if_true]
    simpa using hR.1
  · rename_i hh
    simp only [hh, Bool.false_eq_true, if_false]
    simpa using hR.1

/-- a store at a key, behind whatever was done to the key's own row and to new blocks -/
theorem VMapW.put_run {n : Nat} {D : DataW Value} {vf : Bytes → Value} (h : VMapW F w b m n D vf) (hk : k.length ≤ maxLen) (hm : m.length < maxLen) {G : Nat → Prop} {w1 : World} (hc : Chg G w w1) (hGb : ¬ G b)
    (hG : ∀ j, j ≠ k → has m j = true → ∀ g, (vf j).ownBlock = some g → ¬ G g) {F' : Nat → Prop} (hF : ∀ g, F g → F' g) {v' : Value} {vs : List Bytes} (ho : OStrs F' w1 v' vs)
    (hap : ∀ j, j ≠ k → has m j = true → v'.ownBlock = none ∨ v'.ownBlock ≠ (vf j).ownBlock) :
    ∃ w2, (Instr.mapUpdate 30 (.map (some b)) (encStr k) v').run Try.prog w1 = .ok () w2 ∧ VMap F' w2 b (put m k vs) ∧ w1.grownBy w2 (some b) := by
  have hown1 := ownsMap_chg (ownsMap_tight h.owns) hc hGb
  rw [h.size] at hown1
  have htidy := hown1.tidy lawK
  obtain ⟨w2, hrun, hown2, hgr⟩ := hown1.update lawK undM hm (keyS hk) (val := v') (d := .held v') (ps := []) rfl
  have hne : ∀ {v : Value} {ss : List Bytes} {X : Nat → Prop}, OStrs X w1 v ss → ∀ g, v.ownBlock = some g → g ≠ b := by
    intro v ss X hx g hg e
    subst e
    obtain ⟨es, clock, hb, _⟩ := hown1
    rcases hx.1.2 with ⟨rfl, _⟩ | ⟨g', cap, cur, rfl, _, hgg, _⟩
    · simp [Value.ownBlock] at hg
    · simp [Value.ownBlock] at hg
      subst hg
      rw [hb] at hgg
      cases hgg
  refine ⟨w2, hrun, ⟨_, _, fun j => if j = k then v' else vf j, uniq_put h.uniq k vs, hF b h.here, hown2, ?_, fun j z => ?_, fun j hj => ?_, fun i j hi hj hij => ?_⟩, hgr⟩
  · rw [Go.Maps.size_put htidy, h.has_eq, h.size, length_put]
  · rw [has_put]
    by_cases hjk : j = k
    · subst hjk
      rw [Go.Maps.atKey_put_same hown1.isMap (by exact trivial)]
      simp
    · have : Lit.string j ≠ Lit.string k := fun e => hjk (by injection e)
      rw [Go.Maps.atKey_put_other this, h.at']
      simp [hjk]
  · rw [vals_put]
    have hcg := Chg.ofGrown hgr
    by_cases hjk : j = k
    · subst hjk
      simp only [if_true]
      exact ho.kept hcg (fun g hg e => hne ho g hg (by injection e))
    · simp only [hjk, if_false]
      have hj' : has m j = true := by rw [has_put] at hj; simpa [hjk] using hj
      have ho1 := (h.rows j hj').kept hc (fun g hg => hG j hjk hj' g hg)
      exact (ho1.kept hcg (fun g hg e => hne ho1 g hg (by injection e))).mono (fun g _ => hF g)
  · rw [has_put] at hi hj
    by_cases hik : i = k <;> by_cases hjk : j = k
    · exact absurd (hik.trans hjk.symm) hij
    · simp only [hik, if_true, hjk, if_false]
      exact hap j hjk (by simpa [hjk] using hj)
    · simp only [hik, if_false, hjk, if_true]
      rcases hap i hik (by simpa [hik] using hi) with h0 | h0
      · cases hb : (vf i).ownBlock with
        | none => exact .inl rfl
        | some g => right; rw [h0]; simp
      · cases hb : (vf i).ownBlock with
        | none => exact .inl rfl
        | some g => right; rw [← hb]; exact fun e => h0 e.symm
    · simp only [hik, if_false, hjk]
      exact h.apart i j (by simpa [hik] using hi) (by simpa [hjk] using hj) hij

theorem length_del {m : KV} (h : Uniq m) (k : Bytes) : (del m k).length + (if has m k then 1 else 0) = m.length := by
  induction m with
  | nil => simp [del, has, lk]
  | cons e r ih =>
    have hu : Uniq r := by
      unfold Uniq keys at h ⊢
      simp only [List.map_cons, List.nodup_cons] at h
      exact h.2
    have hk : e.1 ∉ keys r := by
      unfold Uniq keys at h
      simp only [List.map_cons, List.nodup_cons] at h
      exact h.1
    have := ih hu
    unfold del at this ⊢
    simp only [List.filter_cons]
    by_cases he : e.1 = k
    · have hr : has r k = false := by
        have := (Uv.look_none_iff r k).2 (he ▸ hk)
        simp [has, this]
      simp only [hr] at this
      simp [he, has, lk]
      simpa using this
    · have hh : has (e :: r) k = has r k := by simp [has, lk, he]
      rw [hh]
      simp only [he, decide_false, Bool.not_false, if_true, List.length_cons]
      omega

theorem VMap.del_run (h : VMap F w b m) (hk : k.length ≤ maxLen) (ty : TypeId) :
    ∃ w2, (Builtin.delete_ #[30, 9] ty #[.map (some b), encStr k]).run Try.prog w = .ok (.tuple #[]) w2 ∧ VMap F w2 b (del m k) ∧ w.grownBy w2 (some b) := by
  obtain ⟨n, D, vf, h⟩ := h
  obtain ⟨w2, hrun, hown2, hturn⟩ := h.owns.drop lawK undM (keyS hk) ty
  have hhas : ∀ j, has (del m k) j = (has m j && !decide (j = k)) := by
    intro j
    unfold has
    rw [Uv.look_del]
    by_cases hj : j = k <;> simp [hj]
  have hvals : ∀ j, j ≠ k → vals (del m k) j = vals m j := by
    intro j hj
    unfold vals
    rw [Uv.look_del]
    simp [hj]
  have hgr := hturn.grown
  have hne : ∀ {v : Value} {ss : List Bytes} {X : Nat → Prop}, OStrs X w v ss → ∀ g, v.ownBlock = some g → g ≠ b := by
    intro v ss X hx g hg e
    subst e
    obtain ⟨es, clock, hb, _⟩ := h.owns
    rcases hx.1.2 with ⟨rfl, _⟩ | ⟨g', cap, cur, rfl, _, hgg, _⟩
    · simp [Value.ownBlock] at hg
    · simp [Value.ownBlock] at hg
      subst hg
      rw [hb] at hgg
      cases hgg
  refine ⟨w2, hrun, ⟨_, _, vf, h.uniq.del k, h.here, hown2, ?_, fun j z => ?_, fun j hj => ?_, fun i j hi hj hij => ?_⟩, hgr⟩
  · have e1 := Go.Maps.size_del (k := .string k) (h.owns.tidy lawK)
    rw [h.has_eq, h.size] at e1
    have e2 := length_del h.uniq k
    omega
  · rw [hhas]
    by_cases hjk : j = k
    · subst hjk
      rw [Go.Maps.atKey_del_same]
      simp
    · have : Lit.string j ≠ Lit.string k := fun e => hjk (by injection e)
      rw [Go.Maps.atKey_del_other this, h.at']
      simp [hjk]
  · rw [hhas] at hj
    simp only [Bool.and_eq_true, Bool.not_eq_true', decide_eq_false_iff_not] at hj
    rw [hvals j hj.2]
    have ho := h.rows j hj.1
    exact ho.kept (Chg.ofGrown hgr) (fun g hg e => hne ho g hg (by injection e))
  · rw [hhas] at hi hj
    simp only [Bool.and_eq_true] at hi hj
    exact h.apart i j hi.1 hj.1 hij
end
end Go.Proofs.Ytkenogafadjkcaa
