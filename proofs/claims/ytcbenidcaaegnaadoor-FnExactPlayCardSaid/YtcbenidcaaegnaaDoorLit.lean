/-
  Literals: steps, texts; none at all.
-/
import Derived.Test.YtcbenidcaaegnaaDoorHeld
import Derived.Deep.AppendLies
namespace Go.Proofs.YtcbenidcaaegnaaDoor
open Go.RowKit
open Uv (Bytes Ent KV St)
/-- steps, laid as a literal -/
theorem steps_lit (w : World) (ss : List St) (hl : ss.length ≤ 4194304) : RSteps (fun _ => True) (w.alloc (.cells (stFlat ss).toArray 61)) (.slice (some ⟨w.heap.size, 0, none⟩) ss.length ss.length) ss :=
  OSteps.read ⟨World.ownsRow_lit w (stFlat ss).toArray ss.length (Nat.zero_le _) (by unfold maxLen; omega) (by simp [stFlat_len]), fun _ _ => trivial⟩
theorem steps_nil (w : World) : RSteps (fun _ => True) w (.slice none 0 0) [] := ⟨_, 0, rfl, Nat.le_refl _, by simp [maxLen], fun i s hs => by simp at hs⟩
theorem ents_nil (w : World) : REnts (fun _ => True) w (.slice none 0 0) [] := ⟨_, 0, rfl, Nat.le_refl _, by simp [maxLen], fun i s hs => by simp at hs⟩
/-- one text, laid as a literal -/
theorem text_lit (w : World) (x : Bytes) : RStrs (fun _ => True) (w.alloc (.cells #[encStr x] 9)) (.slice (some ⟨w.heap.size, 0, none⟩) 1 1) [x] :=
  OStrs.read ⟨World.ownsRow_lit w #[encStr x] 1 (Nat.zero_le _) (by simp [maxLen]) rfl, fun _ _ => trivial⟩
/-- what an append of texts leaves -/
theorem strs_app {B : Nat} {w W w2 : World} {u v' : Value} {l k : List Bytes} {n : Nat} {xs : List Value} (h : OStrs (fun g => B ≤ g) w u l) (hc : Chg None w W) (hB : B ≤ W.heap.size) (hs : w2.ownsRow 0 9 1 v' n xs) (hn : n = (l ++ k).length) (hx : xs = (l ++ k).map encStr)
    (hl : v'.ownBlock = u.ownBlock ∨ v'.ownBlock = some W.heap.size) (hg : W.grownBy w2 u.ownBlock) : OStrs (fun g => B ≤ g) w2 v' (l ++ k) ∧ Chg (fun g => B ≤ g) w w2 := by
  subst hn
  subst hx
  refine ⟨⟨hs, fun g hg => ?_⟩, hc.any.trans ((Chg.ofGrown hg).mono (fun k _ hk => h.2 k hk.symm))⟩
  rcases hl with e | e
  · exact h.2 g (e ▸ hg)
  · rw [e] at hg
    injection hg with hg
    omega
/-- '[]string{}' -/
theorem texts_made (w : World) : OStrs (fun g => w.heap.size ≤ g) (w.alloc (.cells #[] 9)) (.slice (some ⟨w.heap.size, 0, none⟩) 0 0) [] := ⟨World.ownsRow_lit w #[] 0 (Nat.zero_le _) (by simp [maxLen]) rfl, fun g hg => Nat.le_of_eq (own_new hg).symm⟩
/-- all answers: their cells -/
theorem OAns.cells {F : Nat → Prop} {w : World} {v : Value} {ans : List Uv.Ans} (h : OAns F w v ans) (hne : 0 < ans.length) :
    ∃ g cap, v = .slice (some ⟨g, 0, none⟩) ans.length cap ∧ ans.length ≤ cap ∧ cap ≤ maxLen ∧ ∀ i (hi : i < ans.length), ∃ sv, w.cell? ⟨g, i * 3, none⟩ = some (encStr ans[i].1) ∧ w.cell? ⟨g, i * 3 + 1, none⟩ = some (.bool ans[i].2.1) ∧ w.cell? ⟨g, i * 3 + 2, none⟩ = some sv ∧ OStrs F w sv ans[i].2.2 := by
  obtain ⟨g, cap, _, h1, h2, h3, _⟩ := h.at' hne
  refine ⟨g, cap, h1, h2, h3, fun i hi => ?_⟩
  obtain ⟨g', cap', sv, e1, _, _, _, a1, a2, a3, a4⟩ := h.at' hi
  rw [h1] at e1
  injection e1 with e1 _ _
  injection e1 with e1
  injection e1 with e1
  subst e1
  exact ⟨sv, a1, a2, a3, a4⟩
/-- append, at an operation whose guard says yes -/
theorem wpList_appW {P : Program} (w : World) {t e : TypeId} {z : Value} {size bytes : Nat} (E : ElT P t e z size bytes) {ops : Array Oper} {rest : List Oper} {o : Oper} {a : Act} {Q : Exit → Act → World → Prop} (hw : Region.wanted o (yielded ops a.tmps) = true) (s x : Operand) (tx : TypeId)
    (ho : o.op = .call { callee := .builtin .append, args := #[s, x], argTypes := #[t, tx] }) {v : Value} {n : Nat} {xs : List Value} (hown : w.ownsRow 0 e size v n xs) (hv : a.eval s = v)
    {u : Value} {m : Nat} {news : List Value} (hs : Src P size tx u m news w) (hu : a.eval x = u) (h63 : n + m ≤ maxLen) (hbytes : (n + m) * bytes ≤ 140737488355328)
    (h : ∀ a' cap' w', w'.ownsRow 0 e size (.slice a' (n + m) cap') (n + m) (xs ++ news) → w.grownBy w' v.ownBlock → ((Value.slice a' (n + m) cap').ownBlock = v.ownBlock ∨ (Value.slice a' (n + m) cap').ownBlock = some w.heap.size) →
      wpList P ops Q rest (a.put o.dst (.slice a' (n + m) cap')) w') : wpList P ops Q (o :: rest) a w :=
  BigFrame.wpList_want hw fun _ hK => wp_app w E s x tx ho v n xs hv hown u m news hu hs h63 hbytes fun a' cap' w' h2 h3 h4 => hK _ _ (h a' cap' w' h2 h3 h4)
/-- the same at a step of a region that draws its order -/
theorem step_appW {P : Program} (w : World) {t e : TypeId} {z : Value} {size bytes : Nat} (E : ElT P t e z size bytes) {ops : Array Oper} {o : Oper} {a : Act} {K : Act → World → Prop} {Q : Exit → Act → World → Prop} {X : Prop} (hw : Region.wanted o (yielded ops a.tmps) = true) (s x : Operand) (tx : TypeId)
    (ho : o.op = .call { callee := .builtin .append, args := #[s, x], argTypes := #[t, tx] }) {v : Value} {n : Nat} {xs : List Value} (hown : w.ownsRow 0 e size v n xs) (hv : a.eval s = v)
    {u : Value} {m : Nat} {news : List Value} (hs : Src P size tx u m news w) (hu : a.eval x = u) (h63 : n + m ≤ maxLen) (hbytes : (n + m) * bytes ≤ 140737488355328)
    (h : ∀ a' cap' w', w'.ownsRow 0 e size (.slice a' (n + m) cap') (n + m) (xs ++ news) → w.grownBy w' v.ownBlock → ((Value.slice a' (n + m) cap').ownBlock = v.ownBlock ∨ (Value.slice a' (n + m) cap').ownBlock = some w.heap.size) →
      K (a.put o.dst (.slice a' (n + m) cap')) w') : if Region.wanted o (yielded ops a.tmps) = true then Oper.wp P o a w K Q else X := by
  rw [if_pos hw]
  exact wp_app w E s x tx ho v n xs hv hown u m news hu hs h63 hbytes h
end Go.Proofs.YtcbenidcaaegnaaDoor
