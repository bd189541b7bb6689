/-
  Slices of entries whose own row the call owns, the entries' rows being read.
-/
import Derived.Test.YtcbenidcaaegnaaDoorOEnts
namespace Go.Proofs.YtcbenidcaaegnaaDoor
open Go.RowKit
open Uv (Bytes Ent KV lk vals has addAll del sett add keys Uniq bulk bulkS kept)

/-- A slice of entries whose own row the call owns, in blocks of F; the entries' rows are read, in blocks of F beside it. -/
def HEnts (F : Nat → Prop) (w : World) (v : Value) (es : KV) : Prop :=
  ∃ xs svs : List Value, svs.length = es.length ∧ w.ownsRow 0 28 2 v es.length xs ∧ (∀ g, v.ownBlock = some g → F g) ∧
    ∀ (i : Nat) (e : Ent) (sv : Value), es[i]? = some e → svs[i]? = some sv → xs[i * 2]? = some (encStr e.1) ∧ xs[i * 2 + 1]? = some sv ∧ RStrs (fun g => F g ∧ some g ≠ v.ownBlock) w sv e.2

theorem OEnts.head {F : Nat → Prop} {w : World} {v : Value} {es : KV} (h : OEnts F w v es) : HEnts F w v es := by
  obtain ⟨xs, svs, h1, h2, h3, h4, _⟩ := h
  refine ⟨xs, svs, h1, h2, h3, fun i e sv he hs => ?_⟩
  obtain ⟨a1, a2, a3⟩ := h4 i e sv he hs
  refine ⟨a1, a2, ?_⟩
  have : OStrs (fun g => F g ∧ some g ≠ v.ownBlock) w sv e.2 := ⟨a3.1, fun g hg => ⟨a3.2 g hg, fun e => row_ne h2 a3 e.symm hg⟩⟩
  exact this.read

theorem HEnts.mono {F G : Nat → Prop} {w : World} {v : Value} {es : KV} (h : HEnts F w v es) (hs : ∀ k, k < w.heap.size → F k → G k) : HEnts G w v es := by
  obtain ⟨xs, svs, h1, h2, h3, h4⟩ := h
  exact ⟨xs, svs, h1, h2, fun g hg => hs g (h2.lt g hg).2 (h3 g hg), fun i e sv he hsv => ⟨(h4 i e sv he hsv).1, (h4 i e sv he hsv).2.1, (h4 i e sv he hsv).2.2.mono (fun k hk h => ⟨hs k hk h.1, h.2⟩)⟩⟩

theorem HEnts.kept {F G : Nat → Prop} {w w' : World} {v : Value} {es : KV} (h : HEnts F w v es) (hc : Chg G w w') (hd : ∀ k, k < w.heap.size → F k → ¬ G k) : HEnts F w' v es := by
  obtain ⟨xs, svs, h1, h2, h3, h4⟩ := h
  exact ⟨xs, svs, h1, ownsRow_chg h2 hc (fun g hg => hd g (h2.lt g hg).2 (h3 g hg)), h3, fun i e sv he hsv => ⟨(h4 i e sv he hsv).1, (h4 i e sv he hsv).2.1, (h4 i e sv he hsv).2.2.kept hc (fun k hk h => hd k hk h.1)⟩⟩
theorem HEnts.new {F : Nat → Prop} {w w' : World} {v : Value} {es : KV} (h : HEnts F w v es) (hc : Chg None w w') : HEnts F w' v es := h.kept hc (fun _ _ _ x => x)

theorem HEnts.shape {F : Nat → Prop} {w : World} {v : Value} {es : KV} (h : HEnts F w v es) : ∃ a cap, v = .slice a es.length cap := by
  obtain ⟨xs, svs, h1, h2, h3⟩ := h
  exact ownsRow_shape h2

theorem HEnts.read {F : Nat → Prop} {w : World} {v : Value} {es : KV} (h : HEnts F w v es) : REnts F w v es := by
  obtain ⟨xs, svs, h1, h2, h3, h4⟩ := h
  have hcs := fun g => h2.cells (g := g)
  rcases h2.2 with ⟨rfl, hn⟩ | ⟨g, cap, cur, rfl, _, _, hnc, hcm, _⟩
  · have : es = [] := List.eq_nil_of_length_eq_zero hn
    subst this
    exact ⟨none, 0, rfl, Nat.le_refl _, by simp [maxLen], fun i x hx => by simp at hx⟩
  · refine ⟨_, cap, rfl, hnc, hcm, fun i e he => ?_⟩
    have hi : i < es.length := by rw [List.getElem?_eq_some_iff] at he; exact he.1
    obtain ⟨sv, hsv⟩ := get_of_len h1 hi
    obtain ⟨a1, a2, a3⟩ := h4 i e sv he hsv
    refine ⟨g, 0, sv, rfl, h3 g rfl, ?_, ?_, a3.mono (fun _ _ h => h.1)⟩
    · have := hcs g rfl (i * 2) _ a1
      rwa [add_off] at this
    · have := hcs g rfl (i * 2 + 1) _ a2
      rwa [add_off] at this

/-- 'append(l, Entry..)' of such a slice -/
theorem hents_snoc {F F' : Nat → Prop} {w W3 w4 : World} {v v' : Value} {es : KV} {e : Ent} {sv : Value} {xs svs : List Value} (hsl : svs.length = es.length) (hown : w.ownsRow 0 28 2 v es.length xs)
    (hrows : ∀ (i : Nat) (e : Ent) (sv : Value), es[i]? = some e → svs[i]? = some sv → xs[i * 2]? = some (encStr e.1) ∧ xs[i * 2 + 1]? = some sv ∧ RStrs (fun g => F g ∧ some g ≠ v.ownBlock) w sv e.2)
    (hvF : ∀ g, v.ownBlock = some g → F' g) (hFF : ∀ g, g < w.heap.size → F g → F' g) (hF : ∀ g, w.heap.size ≤ g → F' g) (hc : Chg None w W3) (hg : W3.grownBy w4 v.ownBlock) (hs : w4.ownsRow 0 28 2 v' (es.length + 1) (xs ++ [encStr e.1, sv]))
    (hl : v'.ownBlock = v.ownBlock ∨ v'.ownBlock = some W3.heap.size) (hsv : RStrs (fun g => F' g ∧ some g ≠ v.ownBlock) W3 sv e.2) : HEnts F' w4 v' (es ++ [e]) := by
  have hg4 : Chg (fun g => some g = v.ownBlock) w w4 := hc.any.trans (Chg.ofGrown hg)
  have hx := hown.1
  have hne : ∀ {W : World} {s : Value} {ss : List Bytes}, W.heap.size ≤ W3.heap.size → RStrs (fun g => F' g ∧ some g ≠ v.ownBlock) W s ss → RStrs (fun g => F' g ∧ some g ≠ v.ownBlock ∧ some g ≠ v'.ownBlock) W s ss := fun {W s ss} hW h =>
    h.mono (fun k hk hkk => ⟨hkk.1, hkk.2, fun e => by
      rcases hl with h | h
      · exact hkk.2 (by rw [e, h])
      · rw [h] at e
        injection e with e
        omega⟩)
  refine ⟨xs ++ [encStr e.1, sv], svs ++ [sv], by simp [hsl], by simpa using hs, fun g hgv => ?_, fun i e' sv' he hs' => ?_⟩
  · rcases hl with hl | hl
    · exact hvF g (hl ▸ hgv)
    · rw [hl] at hgv
      injection hgv with hgv
      exact hF g (by have := hc.size; omega)
  · by_cases hi : i < es.length
    · rw [List.getElem?_append_left hi] at he
      rw [List.getElem?_append_left (by omega)] at hs'
      obtain ⟨a1, a2, a3⟩ := hrows i e' sv' he hs'
      rw [List.getElem?_append_left (by omega), List.getElem?_append_left (by omega)]
      refine ⟨a1, a2, ?_⟩
      have a4 : RStrs (fun g => F' g ∧ some g ≠ v.ownBlock) w sv' e'.2 := a3.mono (fun k hk h => ⟨hFF k hk h.1, h.2⟩)
      exact ((hne hc.size a4).kept hg4 (fun k _ h e => h.2.1 e)).mono (fun _ _ h => ⟨h.1, h.2.2⟩)
    · have hi' : i = es.length := by
        have := (List.getElem?_eq_some_iff.1 he).1
        simp only [List.length_append, List.length_cons, List.length_nil] at this
        omega
      subst hi'
      rw [List.getElem?_append_right (Nat.le_refl _)] at he
      rw [List.getElem?_append_right (by omega)] at hs'
      rw [List.getElem?_append_right (by omega), List.getElem?_append_right (by omega)]
      simp at he
      rw [hsl] at hs'
      simp at hs'
      subst he
      subst hs'
      rw [hx, show es.length * 2 - es.length * 2 = 0 by omega, show es.length * 2 + 1 - es.length * 2 = 1 by omega]
      exact ⟨rfl, rfl, ((hne (Nat.le_refl _) hsv).kept (Chg.ofGrown hg) (fun k _ h e => h.2.1 e)).mono (fun _ _ h => ⟨h.1, h.2.2⟩)⟩

/-- 'append(l, m...)' of such a slice -/
theorem hents_app {F F' : Nat → Prop} {w W3 w4 : World} {v v' : Value} {es ks : KV} {xs svs news svs2 : List Value} (hsl : svs.length = es.length) (hown : w.ownsRow 0 28 2 v es.length xs)
    (hrows : ∀ (i : Nat) (e : Ent) (sv : Value), es[i]? = some e → svs[i]? = some sv → xs[i * 2]? = some (encStr e.1) ∧ xs[i * 2 + 1]? = some sv ∧ RStrs (fun g => F g ∧ some g ≠ v.ownBlock) w sv e.2)
    (hvF : ∀ g, v.ownBlock = some g → F' g) (hFF : ∀ g, g < w.heap.size → F g → F' g) (hF : ∀ g, w.heap.size ≤ g → F' g) (hc : Chg None w W3) (hg : W3.grownBy w4 v.ownBlock) (hs : w4.ownsRow 0 28 2 v' (es.length + ks.length) (xs ++ news))
    (hl : v'.ownBlock = v.ownBlock ∨ v'.ownBlock = some W3.heap.size) (hsl2 : svs2.length = ks.length)
    (hnews : ∀ (i : Nat) (e : Ent) (sv : Value), ks[i]? = some e → svs2[i]? = some sv → news[i * 2]? = some (encStr e.1) ∧ news[i * 2 + 1]? = some sv ∧ RStrs (fun g => F' g ∧ some g ≠ v.ownBlock) W3 sv e.2) : HEnts F' w4 v' (es ++ ks) := by
  have hg4 : Chg (fun g => some g = v.ownBlock) w w4 := hc.any.trans (Chg.ofGrown hg)
  have hx := hown.1
  have hne : ∀ {W : World} {s : Value} {ss : List Bytes}, W.heap.size ≤ W3.heap.size → RStrs (fun g => F' g ∧ some g ≠ v.ownBlock) W s ss → RStrs (fun g => F' g ∧ some g ≠ v.ownBlock ∧ some g ≠ v'.ownBlock) W s ss := fun {W s ss} hW h =>
    h.mono (fun k hk hkk => ⟨hkk.1, hkk.2, fun e => by
      rcases hl with h | h
      · exact hkk.2 (by rw [e, h])
      · rw [h] at e
        injection e with e
        omega⟩)
  refine ⟨xs ++ news, svs ++ svs2, by simp [hsl, hsl2], by simpa using hs, fun g hgv => ?_, fun i e' sv' he hs' => ?_⟩
  · rcases hl with hl | hl
    · exact hvF g (hl ▸ hgv)
    · rw [hl] at hgv
      injection hgv with hgv
      exact hF g (by have := hc.size; omega)
  · by_cases hi : i < es.length
    · rw [List.getElem?_append_left hi] at he
      rw [List.getElem?_append_left (by omega)] at hs'
      obtain ⟨a1, a2, a3⟩ := hrows i e' sv' he hs'
      rw [List.getElem?_append_left (by omega), List.getElem?_append_left (by omega)]
      refine ⟨a1, a2, ?_⟩
      have a4 : RStrs (fun g => F' g ∧ some g ≠ v.ownBlock) w sv' e'.2 := a3.mono (fun k hk h => ⟨hFF k hk h.1, h.2⟩)
      exact ((hne hc.size a4).kept hg4 (fun k _ h e => h.2.1 e)).mono (fun _ _ h => ⟨h.1, h.2.2⟩)
    · rw [List.getElem?_append_right (by omega)] at he
      rw [List.getElem?_append_right (by omega), hsl] at hs'
      obtain ⟨a1, a2, a3⟩ := hnews _ e' sv' he hs'
      rw [List.getElem?_append_right (by omega), List.getElem?_append_right (by omega), hx, show i * 2 - es.length * 2 = (i - es.length) * 2 by omega, show i * 2 + 1 - es.length * 2 = (i - es.length) * 2 + 1 by omega]
      exact ⟨a1, a2, ((hne (Nat.le_refl _) a3).kept (Chg.ofGrown hg) (fun k _ h e => h.2.1 e)).mono (fun _ _ h => ⟨h.1, h.2.2⟩)⟩

/-- pairs, one behind the other -/
def flat2 : List (Value × Value) → List Value
  | [] => []
  | p :: r => p.1 :: p.2 :: flat2 r
theorem flat2_len (l : List (Value × Value)) : (flat2 l).length = l.length * 2 := by
  induction l with
  | nil => rfl
  | cons p r ih => simp only [flat2, List.length_cons, ih]; omega
theorem flat2_get (l : List (Value × Value)) (i : Nat) : (flat2 l)[i * 2]? = l[i]?.map Prod.fst ∧ (flat2 l)[i * 2 + 1]? = l[i]?.map Prod.snd := by
  induction l generalizing i with
  | nil => simp [flat2]
  | cons p r ih =>
    cases i with
    | zero => simp [flat2]
    | succ i =>
      have := ih i
      rw [show (i + 1) * 2 = i * 2 + 1 + 1 by omega]
      simpa [flat2] using this
theorem flat2_mem {l : List (Value × Value)} {u : Value} (h : u ∈ flat2 l) : ∃ p ∈ l, u = p.1 ∨ u = p.2 := by
  induction l with
  | nil => cases h
  | cons p r ih =>
    simp only [flat2, List.mem_cons] at h
    rcases h with rfl | rfl | h
    · exact ⟨p, by simp, .inl rfl⟩
    · exact ⟨p, by simp, .inr rfl⟩
    · obtain ⟨q, hq, h⟩ := ih h
      exact ⟨q, List.mem_cons_of_mem p hq, h⟩

/-- entries that are read are a source -/
theorem REnts.src {F : Nat → Prop} {w : World} {v : Value} {es : KV} (h : REnts F w v es) :
    ∃ news svs : List Value, svs.length = es.length ∧ Src Tryd.prog 2 24 v es.length news w ∧
      ∀ (i : Nat) (e : Ent) (sv : Value), es[i]? = some e → svs[i]? = some sv → news[i * 2]? = some (encStr e.1) ∧ news[i * 2 + 1]? = some sv ∧ RStrs F w sv e.2 := by
  obtain ⟨a, cap, rfl, h1, h2, h3⟩ := h
  cases a with
  | none =>
    have : es = [] := by
      cases es with
      | nil => rfl
      | cons x r =>
        obtain ⟨b, off, sv, h, _⟩ := h3 0 x rfl
        cases h
    subst this
    exact ⟨[], [], rfl, Src.ofNil w elEnt.ht cap, fun i e sv he => by simp at he⟩
  | some ad =>
    have each : ∀ i, i < es.length → ∃ sv : Value, w.cell? (ad.add (i * 2 + 1)) = some sv ∧ w.cell? (ad.add (i * 2)) = some (encStr (es.getD i ([], [])).1) ∧ RStrs F w sv (es.getD i ([], [])).2 := fun i hi => by
      obtain ⟨b, off, sv, ha, _, c1, c2, hr⟩ := h3 i es[i] (by simp [hi])
      injection ha with ha
      subst ha
      rw [add_off, add_off]
      rw [show es.getD i ([], []) = es[i] by simp [hi]]
      exact ⟨sv, c2, c1, hr⟩
    obtain ⟨S, hS⟩ : ∃ S : Nat → Value, ∀ i, i < es.length → w.cell? (ad.add (i * 2 + 1)) = some (S i) ∧ w.cell? (ad.add (i * 2)) = some (encStr (es.getD i ([], [])).1) ∧ RStrs F w (S i) (es.getD i ([], [])).2 := by
      refine ⟨fun i => if h : i < es.length then (each i h).choose else .int .i64 0, fun i hi => ?_⟩
      simp only [hi, dif_pos]
      exact (each i hi).choose_spec
    have hl : ((List.range es.length).map fun i => (encStr (es.getD i ([], [])).1, S i)).length = es.length := by simp
    refine ⟨flat2 ((List.range es.length).map fun i => (encStr (es.getD i ([], [])).1, S i)), (List.range es.length).map S, by simp, ?_, fun i e sv he hsv => ?_⟩
    · refine Src.ofSlice w elEnt.ht ad es.length cap _ (by rw [flat2_len, hl]) (fun j u hj => ?_) (fun u hu => ?_)
      · have hj2 : j < es.length * 2 := by
          have := (List.getElem?_eq_some_iff.1 hj).1
          rwa [flat2_len, hl] at this
        have hg := flat2_get ((List.range es.length).map fun i => (encStr (es.getD i ([], [])).1, S i)) (j / 2)
        have hi : j / 2 < es.length := by omega
        rcases Nat.mod_two_eq_zero_or_one j with hm | hm
        · have ej : j / 2 * 2 = j := by omega
          have h5 := hg.1
          rw [ej, hj] at h5
          simp only [List.getElem?_map, List.getElem?_range hi, Option.map_some, Option.some.injEq] at h5
          subst h5
          have := (hS _ hi).2.1
          rwa [ej] at this
        · have ej : j / 2 * 2 + 1 = j := by omega
          have h5 := hg.2
          rw [ej, hj] at h5
          simp only [List.getElem?_map, List.getElem?_range hi, Option.map_some, Option.some.injEq] at h5
          subst h5
          have := (hS _ hi).1
          rwa [ej] at this
      · obtain ⟨p, hp, hu⟩ := flat2_mem hu
        obtain ⟨i, hi, rfl⟩ := List.mem_map.1 hp
        rcases hu with rfl | rfl
        · rfl
        · obtain ⟨_, _, e, _⟩ := (hS i (List.mem_range.1 hi)).2.2
          simp only
          rw [e]
          rfl
    · have hi := (List.getElem?_eq_some_iff.1 he).1
      have hg := flat2_get ((List.range es.length).map fun i => (encStr (es.getD i ([], [])).1, S i)) i
      have hee : es.getD i ([], []) = e := by simp [List.getD, he]
      simp only [List.getElem?_map, List.getElem?_range hi, Option.map_some, Option.some.injEq] at hsv hg
      subst hsv
      rw [hee] at hg
      have := (hS i hi).2.2
      rw [hee] at this
      exact ⟨hg.1, hg.2, this⟩

/-- 'append([]Entry{}, l...)': a copy; the entries' rows are those of l -/
theorem copy_ents {F : Nat → Prop} {w1 w2 : World} {a2 : Option Addr} {k2 n : Nat} {es : KV} {xs news svs2 : List Value} (hsl2 : svs2.length = es.length)
    (hnews : ∀ (i : Nat) (e : Ent) (sv : Value), es[i]? = some e → svs2[i]? = some sv → news[i * 2]? = some (encStr e.1) ∧ news[i * 2 + 1]? = some sv ∧ RStrs (fun g => F g ∧ g < w1.heap.size) (w1.alloc (.cells #[] 28)) sv e.2)
    (hs : w2.ownsRow 0 28 2 (.slice a2 n k2) n xs) (hn : n = es.length) (hx : xs = news) (hg : (w1.alloc (.cells #[] 28)).grownBy w2 (Value.slice (some ⟨w1.heap.size, 0, none⟩) 0 0).ownBlock)
    (hl : (Value.slice a2 n k2).ownBlock = (Value.slice (some ⟨w1.heap.size, 0, none⟩) 0 0).ownBlock ∨ (Value.slice a2 n k2).ownBlock = some (w1.alloc (.cells #[] 28)).heap.size) :
    HEnts (fun g => F g ∨ w1.heap.size ≤ g) w2 (.slice a2 es.length k2) es ∧ (∀ g, (Value.slice a2 es.length k2).ownBlock = some g → w1.heap.size ≤ g) ∧ Chg None w1 w2 := by
  subst hn
  subst hx
  have hlit : (w1.alloc (.cells #[] 28)).ownsRow 0 28 2 (.slice (some ⟨w1.heap.size, 0, none⟩) 0 0) ([] : KV).length [] := World.ownsRow_lit w1 #[] 0 (Nat.zero_le _) (by simp [maxLen]) rfl
  refine ⟨?_, fun g hgo => ?_, ((Chg.refl None w1).alloc _).then (Chg.ofGrown hg) (fun i hi e => Nat.ne_of_lt hi (own_new e.symm))⟩
  · have := hents_app (F := None) (F' := fun g => F g ∨ w1.heap.size ≤ g) (es := []) (ks := es) (svs := []) (svs2 := svs2) (news := xs) rfl hlit (fun i e sv he => by simp at he) (fun g hgo => .inr (Nat.le_of_eq (own_new hgo).symm)) (fun _ _ x => x.elim) (fun g hg => .inr (by simp at hg; omega)) (Chg.refl _ _) hg (by simpa using hs) hl hsl2
      (fun i e sv he hsv => ⟨(hnews i e sv he hsv).1, (hnews i e sv he hsv).2.1, (hnews i e sv he hsv).2.2.mono (fun g _ h => ⟨.inl h.1, fun e => by have := own_new e.symm; omega⟩)⟩)
    simpa using this
  · rcases hl with h | h
    · rw [h] at hgo
      exact Nat.le_of_eq (own_new hgo).symm
    · rw [h] at hgo
      injection hgo with hgo
      simp at hgo
      omega
theorem RStrs.none (F : Nat → Prop) (w : World) : RStrs F w (.slice none 0 0) [] := ⟨_, 0, rfl, Nat.le_refl _, by simp [maxLen], fun i x hx => by simp at hx⟩
end Go.Proofs.YtcbenidcaaegnaaDoor
