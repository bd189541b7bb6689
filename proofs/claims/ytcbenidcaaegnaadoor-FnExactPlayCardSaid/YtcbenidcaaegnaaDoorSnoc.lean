/-
  One entry more behind a slice of entries that the call owns.
-/
import Derived.Test.YtcbenidcaaegnaaDoorOEnts
namespace Go.Proofs.YtcbenidcaaegnaaDoor
open Go.RowKit
open Uv (Bytes Ent KV)

/-- 'append(out, Entry..)': the slice behind it -/
theorem oents_snoc {F : Nat → Prop} {w W3 w4 : World} {v v' : Value} {es : KV} {xs svs : List Value} {e : Ent} {sv : Value} (hsl : svs.length = es.length) (hown : w.ownsRow 0 28 2 v es.length xs) (hvF : ∀ g, v.ownBlock = some g → F g) (hlie : Lie F w es xs svs) (hap : Apart svs)
    (hc : Chg None w W3) (hg : W3.grownBy w4 v.ownBlock) (hs : w4.ownsRow 0 28 2 v' (es.length + 1) (xs ++ [encStr e.1, sv])) (hl : v'.ownBlock = v.ownBlock ∨ v'.ownBlock = some W3.heap.size)
    (hsv : OStrs (fun g => w.heap.size ≤ g) W3 sv e.2) (hF : ∀ g, w.heap.size ≤ g → F g) : OEnts F w4 v' (es ++ [e]) := by
  have hg4 : Chg (fun g => some g = v.ownBlock) w w4 := hc.any.trans (Chg.ofGrown hg)
  have hrow : ∀ (s : Value) ss X, OStrs X w s ss → ∀ g, s.ownBlock = some g → ¬ (some g = v.ownBlock) := fun s ss X ho g hgs e => row_ne hown ho e.symm hgs
  have hsv4 : OStrs (fun g => w.heap.size ≤ g) w4 sv e.2 := hsv.kept (Chg.ofGrown hg) (fun g hgs e => by have h1 := hsv.2 g hgs; have h2 := (hown.lt g e.symm).2; omega)
  refine ⟨_, svs ++ [sv], by simp [hsl], by simpa using hs, fun g hgv => ?_, ?_, ?_⟩
  · rcases hl with hl | hl
    · exact hvF g (hl ▸ hgv)
    · rw [hl] at hgv
      injection hgv with hgv
      exact hF g (by have := hc.size; omega)
  · refine lie_snoc (fun i e' s he hs => ?_) hsl hown.1 (hsv4.mono (fun g _ hg => hF g hg))
    obtain ⟨a1, a2, a3⟩ := hlie i e' s he hs
    exact ⟨a1, a2, a3.kept hg4 (fun g hg => hrow _ _ _ a3 g hg)⟩
  · refine apart_snoc hap (fun s hs => ?_)
    cases hgs : sv.ownBlock with
    | none => exact .inl rfl
    | some g =>
      right
      intro e
      have h1 := hsv.2 g hgs
      have h2 := hlie.row_lt hsl hs g e.symm
      omega

end Go.Proofs.YtcbenidcaaegnaaDoor
