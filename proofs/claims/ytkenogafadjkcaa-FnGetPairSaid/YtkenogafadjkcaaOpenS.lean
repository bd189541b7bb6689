/-
  A slice of texts among the arguments, opened: how many there are.
-/
import Derived.Test.YtkenogafadjkcaaOpen
namespace Go.Proofs.Ytkenogafadjkcaa
open Go.RowKit Go.ChangeShapes Go.WideShapes
open Uv (Bytes)

section
variable {H : Type} {enc : TypeId × Value → H} {W : World} {base : Nat} {sp : Nat → Bool} {held : Bool}
theorem open_texts_len {fuel : Nat} {cs : List Value} {x : DataW H × List MemPlace} (h : DataW.trod enc Try.prog W base sp held fuel 22 cs = some x) :
    ∃ a n cap, cs = [.slice a n cap] ∧ (n = 0 ∨ ∃ elems spare, x.1 = .slice elems spare ∧ n ≤ elems.length) := by
  rcases Deep.open_strs (e := 9) (by kernel_rfl) (by kernel_rfl) (by kernel_rfl) h with ⟨rfl, rfl⟩ | ⟨a, len, cap, m, Sx, rfl, _, hl, hm, hmm, rfl, hx⟩
  · exact ⟨_, 0, 0, rfl, .inl rfl⟩
  · exact ⟨_, len, cap, rfl, .inr ⟨_, _, rfl, by simp⟩⟩
end
end Go.Proofs.Ytkenogafadjkcaa
