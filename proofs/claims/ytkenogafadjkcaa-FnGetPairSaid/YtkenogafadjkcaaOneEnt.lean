/-
  One entry, laid whole.
-/
import Derived.Test.YtkenogafadjkcaaEnts
namespace Go.Proofs.Ytkenogafadjkcaa
open Go.RowKit
open Uv (Bytes Ent KV lk vals has bulk bulkS kept)

/-- one entry, laid whole -/
theorem one_ent {F : Nat → Prop} {w : World} {k : Bytes} {sv : Value} {ss : List Bytes} (h : RStrs F w sv ss) : REnts (fun _ => True) (w.alloc (.cells #[encStr k, sv] 24)) (.slice (some ⟨w.heap.size, 0, none⟩) 1 1) [(k, ss)] := by
  refine ⟨some ⟨w.heap.size, 0, none⟩, 1, rfl, Nat.le_refl _, by simp [maxLen], fun i e he => ?_⟩
  have hi : i = 0 := by
    have := (List.getElem?_eq_some_iff.1 he).1
    simp at this
    omega
  subst hi
  simp at he
  subst he
  exact ⟨w.heap.size, 0, sv, rfl, trivial, by simp, by simp, (h.new ((Chg.refl _ _).alloc _)).mono (fun _ _ _ => trivial)⟩

theorem kept_one (k : Bytes) (ss : List Bytes) : kept [(k, ss)] = [(k, ss)] := rfl
theorem valOk_one {k : Bytes} {ss : List Bytes} (hk : k.length ≤ maxLen) (hs : ss.length * 16 ≤ 140737488355328) : ValOk [(k, ss)] := by
  refine ⟨by simp [maxLen], fun e he => by simp at he; subst he; exact hk, fun j hj => ?_⟩
  have : j = 0 := by simp at hj; omega
  subst this
  simpa [kept, Uv.keptFrom, vals, lk] using hs
end Go.Proofs.Ytkenogafadjkcaa
