/-
  Slices of answers that the call owns; slices of steps that are read.
-/
import Derived.Test.YtcbenidcaaegnaaDoorOEnts
import Derived.Test.YtcbenidcaaegnaaDoorPlayPure
namespace Go.Proofs.YtcbenidcaaegnaaDoor
open Go.RowKit
open Uv (Bytes Ent KV Ans St)

theorem elAns : ElT Tryd.prog 40 63 (.agg #[.string ⟨#[]⟩, .bool false, .slice none 0 0]) 3 48 := ElT.mk' (by kernel_rfl) (by kernel_rfl) rfl (by decide)
theorem elStep : ElT Tryd.prog 43 61 (.agg #[.int .i64 0, .string ⟨#[]⟩, .string ⟨#[]⟩]) 3 40 := ElT.mk' (by kernel_rfl) (by kernel_rfl) rfl (by decide)

/-- the cells xs and the rows svs are the answers ans -/
def ASays (F : Nat → Prop) (w : World) (ans : List Ans) (xs svs : List Value) : Prop :=
  ∀ (i : Nat) (a : Ans) (sv : Value), ans[i]? = some a → svs[i]? = some sv → xs[i * 3]? = some (encStr a.1) ∧ xs[i * 3 + 1]? = some (.bool a.2.1) ∧ xs[i * 3 + 2]? = some sv ∧ OStrs F w sv a.2.2
/-- A slice of answers that the call owns, in blocks of F. -/
def OAns (F : Nat → Prop) (w : World) (v : Value) (ans : List Ans) : Prop :=
  ∃ xs svs, svs.length = ans.length ∧ w.ownsRow 0 63 3 v ans.length xs ∧ (∀ g, v.ownBlock = some g → F g) ∧ ASays F w ans xs svs ∧ Apart svs

theorem ASays.kept {F G : Nat → Prop} {w w' : World} {ans : List Ans} {xs svs : List Value} (h : ASays F w ans xs svs) (hc : Chg G w w') (hd : ∀ k, k < w.heap.size → F k → ¬ G k) : ASays F w' ans xs svs := fun i a sv ha hs => by
  obtain ⟨h1, h2, h3, h4⟩ := h i a sv ha hs
  exact ⟨h1, h2, h3, h4.kept hc (fun g hg => hd g (h4.1.lt g hg).2 (h4.2 g hg))⟩
theorem OAns.kept {F G : Nat → Prop} {w w' : World} {v : Value} {ans : List Ans} (h : OAns F w v ans) (hc : Chg G w w') (hd : ∀ k, k < w.heap.size → F k → ¬ G k) : OAns F w' v ans := by
  obtain ⟨xs, svs, h1, h2, h3, h4, h5⟩ := h
  exact ⟨xs, svs, h1, ownsRow_chg h2 hc (fun g hg => hd g (h2.lt g hg).2 (h3 g hg)), h3, h4.kept hc hd, h5⟩
theorem OAns.new {F : Nat → Prop} {w w' : World} {v : Value} {ans : List Ans} (h : OAns F w v ans) (hc : Chg None w w') : OAns F w' v ans := h.kept hc (fun _ _ _ x => x)
theorem OAns.shape {F : Nat → Prop} {w : World} {v : Value} {ans : List Ans} (h : OAns F w v ans) : ∃ a cap, v = .slice a ans.length cap := by
  obtain ⟨xs, svs, h1, h2, _⟩ := h
  exact ownsRow_shape h2
theorem OAns.made {F : Nat → Prop} (w : World) (hF : F w.heap.size) : OAns F (w.alloc (.cells #[] 63)) (.slice (some ⟨w.heap.size, 0, none⟩) 0 0) [] :=
  ⟨[], [], rfl, World.ownsRow_lit w #[] 0 (Nat.zero_le _) (by simp [maxLen]) rfl, fun g hg => by rw [own_new hg]; exact hF, fun i a sv ha => by simp at ha, fun i j si sj _ hi => by simp at hi⟩
/-- one answer: its cells -/
theorem OAns.at' {F : Nat → Prop} {w : World} {v : Value} {ans : List Ans} (h : OAns F w v ans) {i : Nat} (hi : i < ans.length) :
    ∃ g cap sv, v = .slice (some ⟨g, 0, none⟩) ans.length cap ∧ ans.length ≤ cap ∧ cap ≤ maxLen ∧ F g ∧ w.cell? ⟨g, i * 3, none⟩ = some (encStr ans[i].1) ∧ w.cell? ⟨g, i * 3 + 1, none⟩ = some (.bool ans[i].2.1) ∧ w.cell? ⟨g, i * 3 + 2, none⟩ = some sv ∧ OStrs F w sv ans[i].2.2 := by
  obtain ⟨xs, svs, h1, h2, h3, h4, h5⟩ := h
  obtain ⟨sv, hsv⟩ := get_of_len h1 hi
  obtain ⟨a1, a2, a3, a4⟩ := h4 i ans[i] sv (by simp [hi]) hsv
  have hcs := fun g => h2.cells (g := g)
  rcases h2.2 with ⟨_, hn⟩ | ⟨g, cap, cur, rfl, _, _, hnc, hcm, _⟩
  · omega
  · refine ⟨g, cap, sv, rfl, hnc, hcm, h3 g rfl, ?_, ?_, ?_, a4⟩
    · have := hcs g rfl _ _ a1
      rwa [add_off, Nat.zero_add] at this
    · have := hcs g rfl _ _ a2
      rwa [add_off, Nat.zero_add] at this
    · have := hcs g rfl _ _ a3
      rwa [add_off, Nat.zero_add] at this
/-- a row of answers is in no block of a row of texts -/
theorem arow_ne {F : Nat → Prop} {w : World} {v sv : Value} {n : Nat} {xs : List Value} {ss : List Bytes} (h : w.ownsRow 0 63 3 v n xs) (hs : OStrs F w sv ss) {g : Nat} (h1 : v.ownBlock = some g) (h2 : sv.ownBlock = some g) : False := by
  rcases h.2 with ⟨rfl, _⟩ | ⟨g1, _, c1, rfl, _, hg1, _⟩
  · simp [Value.ownBlock] at h1
  · rcases hs.1.2 with ⟨rfl, _⟩ | ⟨g2, _, c2, rfl, _, hg2, _⟩
    · simp [Value.ownBlock] at h2
    · simp [Value.ownBlock] at h1 h2
      subst h1
      subst h2
      rw [hg1] at hg2
      injection hg2 with e
      injection e with _ e
      exact absurd e (by decide)
/-- 'append(out, Answer..)' -/
theorem oans_snoc {F : Nat → Prop} {w W3 w4 : World} {v v' : Value} {ans : List Ans} {n : Nat} {xs ys svs : List Value} {a : Ans} {sv : Value} (hsl : svs.length = ans.length) (hown : w.ownsRow 0 63 3 v ans.length xs) (hvF : ∀ g, v.ownBlock = some g → F g) (hsay : ASays F w ans xs svs) (hap : Apart svs)
    (hc : Chg None w W3) (hg : W3.grownBy w4 v.ownBlock) (hs : w4.ownsRow 0 63 3 v' n ys) (hn : n = ans.length + 1) (hy : ys = xs ++ [encStr a.1, .bool a.2.1, sv]) (hl : v'.ownBlock = v.ownBlock ∨ v'.ownBlock = some W3.heap.size)
    (hsv : OStrs (fun g => w.heap.size ≤ g) W3 sv a.2.2) (hF : ∀ g, w.heap.size ≤ g → F g) : OAns F w4 v' (ans ++ [a]) := by
  subst hn
  subst hy
  have hg4 : Chg (fun g => some g = v.ownBlock) w w4 := hc.any.trans (Chg.ofGrown hg)
  have hsv4 : OStrs (fun g => w.heap.size ≤ g) w4 sv a.2.2 := hsv.kept (Chg.ofGrown hg) (fun g hgs e => by have h1 := hsv.2 g hgs; have h2 := (hown.lt g e.symm).2; omega)
  refine ⟨_, svs ++ [sv], by simp [hsl], by simpa using hs, fun g hgv => ?_, ?_, ?_⟩
  · rcases hl with hl | hl
    · exact hvF g (hl ▸ hgv)
    · rw [hl] at hgv
      injection hgv with hgv
      exact hF g (by have := hc.size; omega)
  · have hx := hown.1
    intro i e' sv' he hs'
    by_cases hi : i < ans.length
    · rw [List.getElem?_append_left hi] at he
      rw [List.getElem?_append_left (by omega)] at hs'
      obtain ⟨a1, a2, a3, a4⟩ := hsay i e' sv' he hs'
      rw [List.getElem?_append_left (by omega), List.getElem?_append_left (by omega), List.getElem?_append_left (by omega)]
      exact ⟨a1, a2, a3, a4.kept hg4 (fun g hgs e => arow_ne hown a4 e.symm hgs)⟩
    · have hi' : i = ans.length := by
        have := (List.getElem?_eq_some_iff.1 he).1
        simp only [List.length_append, List.length_cons, List.length_nil] at this
        omega
      subst hi'
      rw [List.getElem?_append_right (Nat.le_refl _)] at he
      rw [List.getElem?_append_right (by omega)] at hs'
      rw [List.getElem?_append_right (by omega), List.getElem?_append_right (by omega), List.getElem?_append_right (by omega)]
      simp at he
      rw [hsl] at hs'
      simp at hs'
      subst he
      subst hs'
      rw [hx, show ans.length * 3 - ans.length * 3 = 0 by omega, show ans.length * 3 + 1 - ans.length * 3 = 1 by omega, show ans.length * 3 + 2 - ans.length * 3 = 2 by omega]
      exact ⟨rfl, rfl, rfl, hsv4.mono (fun g _ h => hF g h)⟩
  · refine apart_snoc hap (fun s hs => ?_)
    cases hgs : sv.ownBlock with
    | none => exact .inl rfl
    | some g =>
      right
      intro e
      have h1 := hsv.2 g hgs
      obtain ⟨i, hi⟩ := List.getElem?_of_mem hs
      have hil := (List.getElem?_eq_some_iff.1 hi).1
      obtain ⟨a', ha'⟩ := get_of_len (l := ans) rfl (by omega : i < ans.length)
      have h2 := ((hsay i a' s ha' hi).2.2.2.1.lt g e.symm).2
      omega

/-- A slice that reads ans steps, in blocks of F. -/
def RSteps (F : Nat → Prop) (w : World) (v : Value) (ss : List St) : Prop :=
  ∃ a cap, v = .slice a ss.length cap ∧ ss.length ≤ cap ∧ cap ≤ maxLen ∧
    ∀ i s, ss[i]? = some s → ∃ b off, a = some ⟨b, off, none⟩ ∧ F b ∧ w.cell? ⟨b, off + i * 3, none⟩ = some (.int .i64 s.1) ∧ w.cell? ⟨b, off + i * 3 + 1, none⟩ = some (encStr s.2.1) ∧ w.cell? ⟨b, off + i * 3 + 2, none⟩ = some (encStr s.2.2)
theorem RSteps.kept {F G : Nat → Prop} {w w' : World} {v : Value} {ss : List St} (h : RSteps F w v ss) (hc : Chg G w w') (hd : ∀ k, k < w.heap.size → F k → ¬ G k) : RSteps F w' v ss := by
  obtain ⟨a, cap, rfl, h1, h2, h3⟩ := h
  refine ⟨a, cap, rfl, h1, h2, fun i s hs => ?_⟩
  obtain ⟨b, off, ha, hf, c1, c2, c3⟩ := h3 i s hs
  have hn := hd b (World.block_lt_of_cell? w _ c1) hf
  exact ⟨b, off, ha, hf, hc.cell c1 hn, hc.cell c2 hn, hc.cell c3 hn⟩
theorem RSteps.new {F : Nat → Prop} {w w' : World} {v : Value} {ss : List St} (h : RSteps F w v ss) (hc : Chg None w w') : RSteps F w' v ss := h.kept hc (fun _ _ _ x => x)
theorem RSteps.mono {F G : Nat → Prop} {w : World} {v : Value} {ss : List St} (h : RSteps F w v ss) (hs : ∀ k, k < w.heap.size → F k → G k) : RSteps G w v ss := by
  obtain ⟨a, cap, rfl, h1, h2, h3⟩ := h
  refine ⟨a, cap, rfl, h1, h2, fun i s hi => ?_⟩
  obtain ⟨b, off, ha, hf, c1, c2, c3⟩ := h3 i s hi
  exact ⟨b, off, ha, hs b (World.block_lt_of_cell? w _ c1) hf, c1, c2, c3⟩
end Go.Proofs.YtcbenidcaaegnaaDoor
