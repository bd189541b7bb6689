/-
  The slice types of this program; rows of texts that the call owns.
-/
import Derived.Test.YtkenogafadjkcaaElT
namespace Go.Proofs.Ytkenogafadjkcaa
open Go.RowKit
open Uv (Bytes Ent KV)

/-! ### the slice types of this program -/
theorem elStr : ElT Try.prog 22 9 (.string ⟨#[]⟩) 1 16 := ElT.mk' (by kernel_rfl) (by kernel_rfl) rfl (by decide)
theorem elEnt : ElT Try.prog 25 24 (.agg #[.string ⟨#[]⟩, .slice none 0 0]) 2 40 := ElT.mk' (by kernel_rfl) (by kernel_rfl) rfl (by decide)

theorem encStr_one (ss : List Bytes) : ∀ u ∈ ss.map encStr, u.oneCell' = true := by
  intro u hu
  obtain ⟨x, _, rfl⟩ := List.mem_map.1 hu
  rfl

/-- a slice that reads as texts is a source -/
theorem RStrs.src {F : Nat → Prop} {w : World} {v : Value} {ss : List Bytes} (h : RStrs F w v ss) : Src Try.prog 1 22 v ss.length (ss.map encStr) w := by
  obtain ⟨a, cap, rfl, h1, h2, h3⟩ := h
  cases a with
  | none =>
    have : ss = [] := by
      cases ss with
      | nil => rfl
      | cons x r =>
        obtain ⟨b, off, h, _⟩ := h3 0 x rfl
        cases h
    subst this
    exact Src.ofNil w elStr.ht cap
  | some ad =>
    refine Src.ofSlice w elStr.ht ad ss.length cap _ (by simp) (fun j u hj => ?_) (encStr_one ss)
    rw [List.getElem?_map] at hj
    cases hs : ss[j]? with
    | none => rw [hs] at hj; cases hj
    | some x =>
      rw [hs] at hj
      simp at hj
      subst hj
      obtain ⟨b, off, ha, _, hc⟩ := h3 j x hs
      cases ha
      rw [add_off]
      exact hc

/-- a row of texts that the call owns, in blocks of F -/
def OStrs (F : Nat → Prop) (w : World) (v : Value) (ss : List Bytes) : Prop :=
  w.ownsRow 0 9 1 v ss.length (ss.map encStr) ∧ ∀ g, v.ownBlock = some g → F g

theorem OStrs.read {F : Nat → Prop} {w : World} {v : Value} {ss : List Bytes} (h : OStrs F w v ss) : RStrs F w v ss := by
  obtain ⟨h1, h2⟩ := h
  have hcs := fun g => h1.cells (g := g)
  rcases h1.2 with ⟨rfl, hn⟩ | ⟨g, cap, cur, rfl, _, _, hnc, hcm, _⟩
  · have : ss = [] := List.eq_nil_of_length_eq_zero hn
    subst this
    exact ⟨none, 0, rfl, Nat.le_refl _, by simp [maxLen], fun i x hx => by simp at hx⟩
  · refine ⟨_, cap, rfl, hnc, hcm, fun i x hx => ⟨g, 0, rfl, h2 g rfl, ?_⟩⟩
    have := hcs g rfl i (encStr x) (by rw [List.getElem?_map, hx]; rfl)
    rwa [add_off] at this

theorem OStrs.nil (F : Nat → Prop) (w : World) : OStrs F w (.slice none 0 0) [] := ⟨World.ownsRow_nil _ _ _ _, fun g h => by simp [Value.ownBlock] at h⟩
theorem OStrs.mono {F G : Nat → Prop} {w : World} {v : Value} {ss : List Bytes} (h : OStrs F w v ss) (hs : ∀ k, k < w.heap.size → F k → G k) : OStrs G w v ss :=
  ⟨h.1, fun g hg => hs g (h.1.lt g hg).2 (h.2 g hg)⟩

theorem OStrs.kept {F G : Nat → Prop} {w w' : World} {v : Value} {ss : List Bytes} (h : OStrs F w v ss) (hc : Chg G w w') (hd : ∀ g, v.ownBlock = some g → ¬ G g) : OStrs F w' v ss :=
  ⟨ownsRow_chg h.1 hc hd, h.2⟩

theorem OStrs.len_le {F : Nat → Prop} {w : World} {v : Value} {ss : List Bytes} (h : OStrs F w v ss) : ss.length ≤ maxLen := by
  obtain ⟨_, _, _, h1, h2, _⟩ := h.read
  omega
end Go.Proofs.Ytkenogafadjkcaa
