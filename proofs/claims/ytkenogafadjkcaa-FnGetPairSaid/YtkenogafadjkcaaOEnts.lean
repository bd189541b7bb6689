/-
  Slices of entries that the call owns.
-/
import Derived.Test.YtkenogafadjkcaaEnts
namespace Go.Proofs.Ytkenogafadjkcaa
open Go.RowKit
open Uv (Bytes Ent KV lk vals has addAll del sett add keys Uniq bulk bulkS kept)

/-- the rows of svs lie apart -/
def Apart (svs : List Value) : Prop := ∀ (i j : Nat) (si sj : Value), i ≠ j → svs[i]? = some si → svs[j]? = some sj → si.ownBlock = none ∨ si.ownBlock ≠ sj.ownBlock

/-- the cells xs and the rows svs are the entries es -/
def Lie (F : Nat → Prop) (w : World) (es : KV) (xs svs : List Value) : Prop :=
  ∀ (i : Nat) (e : Ent) (sv : Value), es[i]? = some e → svs[i]? = some sv → xs[i * 2]? = some (encStr e.1) ∧ xs[i * 2 + 1]? = some sv ∧ OStrs F w sv e.2

/-- A slice of entries that the call owns, in blocks of F. -/
def OEnts (F : Nat → Prop) (w : World) (v : Value) (es : KV) : Prop :=
  ∃ xs svs, svs.length = es.length ∧ w.ownsRow 0 24 2 v es.length xs ∧ (∀ g, v.ownBlock = some g → F g) ∧ Lie F w es xs svs ∧ Apart svs

theorem Lie.mono {F G : Nat → Prop} {w : World} {es : KV} {xs svs : List Value} (h : Lie F w es xs svs) (hs : ∀ k, k < w.heap.size → F k → G k) : Lie G w es xs svs :=
  fun i e sv he hsv => ⟨(h i e sv he hsv).1, (h i e sv he hsv).2.1, (h i e sv he hsv).2.2.mono hs⟩
theorem Lie.kept {F G : Nat → Prop} {w w' : World} {es : KV} {xs svs : List Value} (h : Lie F w es xs svs) (hc : Chg G w w') (hd : ∀ k, k < w.heap.size → F k → ¬ G k) : Lie F w' es xs svs := fun i e sv he hsv => by
  obtain ⟨h1, h2, h3⟩ := h i e sv he hsv
  exact ⟨h1, h2, h3.kept hc (fun g hg => hd g (h3.1.lt g hg).2 (h3.2 g hg))⟩

theorem OEnts.mono {F G : Nat → Prop} {w : World} {v : Value} {es : KV} (h : OEnts F w v es) (hs : ∀ k, k < w.heap.size → F k → G k) : OEnts G w v es := by
  obtain ⟨xs, svs, h1, h2, h3, h4, h5⟩ := h
  exact ⟨xs, svs, h1, h2, fun g hg => hs g (h2.lt g hg).2 (h3 g hg), h4.mono hs, h5⟩
theorem OEnts.kept {F G : Nat → Prop} {w w' : World} {v : Value} {es : KV} (h : OEnts F w v es) (hc : Chg G w w') (hd : ∀ k, k < w.heap.size → F k → ¬ G k) : OEnts F w' v es := by
  obtain ⟨xs, svs, h1, h2, h3, h4, h5⟩ := h
  exact ⟨xs, svs, h1, ownsRow_chg h2 hc (fun g hg => hd g (h2.lt g hg).2 (h3 g hg)), h3, h4.kept hc hd, h5⟩
theorem OEnts.new {F : Nat → Prop} {w w' : World} {v : Value} {es : KV} (h : OEnts F w v es) (hc : Chg None w w') : OEnts F w' v es := h.kept hc (fun _ _ _ x => x)

theorem get_of_len {α : Type} {l : List α} {i n : Nat} (h : l.length = n) (hi : i < n) : ∃ x, l[i]? = some x := ⟨l[i]'(by omega), by simp [h, hi]⟩

theorem OEnts.read {F : Nat → Prop} {w : World} {v : Value} {es : KV} (h : OEnts F w v es) : REnts F w v es := by
  obtain ⟨xs, svs, h1, h2, h3, h4, h5⟩ := h
  have hcs := fun g => h2.cells (g := g)
  rcases h2.2 with ⟨rfl, hn⟩ | ⟨g, cap, cur, rfl, _, _, hnc, hcm, _⟩
  · have : es = [] := List.eq_nil_of_length_eq_zero hn
    subst this
    exact ⟨none, 0, rfl, Nat.le_refl _, by simp [maxLen], fun i x hx => by simp at hx⟩
  · refine ⟨_, cap, rfl, hnc, hcm, fun i e he => ?_⟩
    have hi : i < es.length := by rw [List.getElem?_eq_some_iff] at he; exact he.1
    obtain ⟨sv, hsv⟩ := get_of_len h1 hi
    obtain ⟨a1, a2, a3⟩ := h4 i e sv he hsv
    refine ⟨g, 0, sv, rfl, h3 g rfl, ?_, ?_, a3.read⟩
    · have := hcs g rfl (i * 2) _ a1
      rwa [add_off] at this
    · have := hcs g rfl (i * 2 + 1) _ a2
      rwa [add_off] at this

theorem OEnts.nil (F : Nat → Prop) (w : World) : OEnts F w (.slice none 0 0) [] := ⟨[], [], rfl, World.ownsRow_nil _ _ _ _, fun g h => by simp [Value.ownBlock] at h, fun i e sv he => by simp at he, fun i j si sj _ h => by simp at h⟩

theorem OEnts.shape {F : Nat → Prop} {w : World} {v : Value} {es : KV} (h : OEnts F w v es) : ∃ a cap, v = .slice a es.length cap := by
  obtain ⟨xs, svs, h1, h2, h3, h4, h5⟩ := h
  exact ownsRow_shape h2

/-- one entry more: its row lies in no block of the others -/
theorem lie_snoc {F : Nat → Prop} {w : World} {es : KV} {xs svs : List Value} {e : Ent} {sv : Value} (h : Lie F w es xs svs) (h1 : svs.length = es.length) (hx : xs.length = es.length * 2) (hsv : OStrs F w sv e.2) :
    Lie F w (es ++ [e]) (xs ++ [encStr e.1, sv]) (svs ++ [sv]) := by
  intro i e' sv' he hs
  by_cases hi : i < es.length
  · rw [List.getElem?_append_left hi] at he
    rw [List.getElem?_append_left (by omega)] at hs
    obtain ⟨a1, a2, a3⟩ := h i e' sv' he hs
    rw [List.getElem?_append_left (by omega), List.getElem?_append_left (by omega)]
    exact ⟨a1, a2, a3⟩
  · have hi' : i = es.length := by
      have := (List.getElem?_eq_some_iff.1 he).1
      simp only [List.length_append, List.length_cons, List.length_nil] at this
      omega
    subst hi'
    rw [List.getElem?_append_right (Nat.le_refl _)] at he
    rw [List.getElem?_append_right (by omega)] at hs
    rw [List.getElem?_append_right (by omega), List.getElem?_append_right (by omega)]
    simp at he
    rw [h1] at hs
    simp at hs
    subst he
    subst hs
    rw [hx, show es.length * 2 - es.length * 2 = 0 by omega, show es.length * 2 + 1 - es.length * 2 = 1 by omega]
    exact ⟨rfl, rfl, hsv⟩

theorem apart_snoc {svs : List Value} {sv : Value} (h : Apart svs) (hn : ∀ s ∈ svs, sv.ownBlock = none ∨ sv.ownBlock ≠ s.ownBlock) : Apart (svs ++ [sv]) := by
  intro i j si sj hij hi hj
  have hil := (List.getElem?_eq_some_iff.1 hi).1
  have hjl := (List.getElem?_eq_some_iff.1 hj).1
  simp at hil hjl
  by_cases h1 : i < svs.length <;> by_cases h2 : j < svs.length
  · rw [List.getElem?_append_left h1] at hi
    rw [List.getElem?_append_left h2] at hj
    exact h i j si sj hij hi hj
  · rw [List.getElem?_append_left h1] at hi
    rw [List.getElem?_append_right (by omega), show j - svs.length = 0 by omega] at hj
    simp at hj
    subst hj
    rcases hn si (List.mem_of_getElem? hi) with h0 | h0
    · cases hs : si.ownBlock with
      | none => exact .inl rfl
      | some g => right; rw [h0]; simp
    · exact .inr (fun e => h0 e.symm)
  · rw [List.getElem?_append_left h2] at hj
    rw [List.getElem?_append_right (by omega), show i - svs.length = 0 by omega] at hi
    simp at hi
    subst hi
    exact hn sj (List.mem_of_getElem? hj)
  · omega

/-- the row of every entry lies in a block that is there -/
theorem Lie.row_lt {F : Nat → Prop} {w : World} {es : KV} {xs svs : List Value} (h : Lie F w es xs svs) (h1 : svs.length = es.length) {s : Value} (hs : s ∈ svs) : ∀ g, s.ownBlock = some g → g < w.heap.size := by
  obtain ⟨i, hi⟩ := List.getElem?_of_mem hs
  have hil := (List.getElem?_eq_some_iff.1 hi).1
  obtain ⟨e, he⟩ := get_of_len (l := es) rfl (by omega : i < es.length)
  exact fun g hg => ((h i e s he hi).2.2.1.lt g hg).2
theorem Lie.row_in {F : Nat → Prop} {w : World} {es : KV} {xs svs : List Value} (h : Lie F w es xs svs) (h1 : svs.length = es.length) {s : Value} (hs : s ∈ svs) : ∀ g, s.ownBlock = some g → F g := by
  obtain ⟨i, hi⟩ := List.getElem?_of_mem hs
  have hil := (List.getElem?_eq_some_iff.1 hi).1
  obtain ⟨e, he⟩ := get_of_len (l := es) rfl (by omega : i < es.length)
  exact (h i e s he hi).2.2.2

/-- the row of one entry is another one -/
theorem lie_upd {F : Nat → Prop} {w w' : World} {es : KV} {xs svs : List Value} {j : Nat} {k : Bytes} {ts : List Bytes} {v' : Value} (h : Lie F w es xs svs) (h1 : svs.length = es.length) (hx : xs.length = es.length * 2) (hj : j < es.length) (hk : es[j].1 = k)
    (hkp : ∀ (i : Nat) (s : Value), i ≠ j → svs[i]? = some s → ∀ ss, OStrs F w s ss → OStrs F w' s ss) (hv : OStrs F w' v' ts) : Lie F w' (es.set j (k, ts)) (xs.set (j * 2 + 1) v') (svs.set j v') := by
  intro i e sv he hs
  by_cases hij : i = j
  · subst hij
    rw [List.getElem?_set_self hj] at he
    rw [List.getElem?_set_self (by omega)] at hs
    injection he with he
    injection hs with hs
    subst he
    subst hs
    obtain ⟨sv0, hsv0⟩ := get_of_len h1 hj
    obtain ⟨a1, _, _⟩ := h i es[i] sv0 (by simp [hj]) hsv0
    rw [List.getElem?_set_ne (by omega), List.getElem?_set_self (by omega)]
    exact ⟨by rw [a1, hk], rfl, hv⟩
  · rw [List.getElem?_set_ne (fun x => hij x.symm)] at he hs
    obtain ⟨a1, a2, a3⟩ := h i e sv he hs
    rw [List.getElem?_set_ne (by omega), List.getElem?_set_ne (by omega)]
    exact ⟨a1, a2, hkp i sv hij hs _ a3⟩

theorem apart_upd {svs : List Value} {j : Nat} {v' : Value} (h : Apart svs) (hj : j < svs.length) (hn : ∀ (i : Nat) (s : Value), i ≠ j → svs[i]? = some s → v'.ownBlock = none ∨ v'.ownBlock ≠ s.ownBlock) : Apart (svs.set j v') := by
  intro i i' si si' hne hi hi'
  by_cases h1 : i = j <;> by_cases h2 : i' = j
  · exact absurd (h1.trans h2.symm) hne
  · subst h1
    rw [List.getElem?_set_self hj] at hi
    injection hi with hi
    subst hi
    rw [List.getElem?_set_ne (fun x => h2 x.symm)] at hi'
    exact hn i' si' h2 hi'
  · subst h2
    rw [List.getElem?_set_self hj] at hi'
    injection hi' with hi'
    subst hi'
    rw [List.getElem?_set_ne (fun x => h1 x.symm)] at hi
    rcases hn i si h1 hi with h0 | h0
    · cases hs : si.ownBlock with
      | none => exact .inl rfl
      | some g => right; rw [h0]; simp
    · exact .inr (fun e => h0 e.symm)
  · rw [List.getElem?_set_ne (fun x => h1 x.symm)] at hi
    rw [List.getElem?_set_ne (fun x => h2 x.symm)] at hi'
    exact h i i' si si' hne hi hi'

/-- a row of entries is in no block of a row of texts -/
theorem row_ne {F : Nat → Prop} {w : World} {v sv : Value} {n : Nat} {xs : List Value} {ss : List Bytes} (h : w.ownsRow 0 24 2 v n xs) (hs : OStrs F w sv ss) {g : Nat} (h1 : v.ownBlock = some g) (h2 : sv.ownBlock = some g) : False := by
  rcases h.2 with ⟨rfl, _⟩ | ⟨g1, _, c1, rfl, _, hg1, _⟩
  · simp [Value.ownBlock] at h1
  · rcases hs.1.2 with ⟨rfl, _⟩ | ⟨g2, _, c2, rfl, _, hg2, _⟩
    · simp [Value.ownBlock] at h2
    · simp [Value.ownBlock] at h1 h2
      subst h1
      subst h2
      rw [hg1] at hg2
      injection hg2 with e
      injection e with _ e
      exact absurd e (by decide)
end Go.Proofs.Ytkenogafadjkcaa
