/-
  Rows of bytes that the call owns.
-/
import Derived.Test.YtcbenidcaaegnaaDoorBytes
import Derived.Deep.AppendLies
namespace Go.Proofs.YtcbenidcaaegnaaDoor
open Go.RowKit
open Uv (Bytes)

/-- a row of bytes that the call owns, in blocks of F -/
def OBytes (F : Nat → Prop) (w : World) (v : Value) (l : Bytes) : Prop :=
  w.ownsRow 0 5 1 v l.length (l.map byteV) ∧ ∀ g, v.ownBlock = some g → F g
theorem OBytes.kept {F G : Nat → Prop} {w w' : World} {v : Value} {l : Bytes} (h : OBytes F w v l) (hc : Chg G w w') (hd : ∀ g, v.ownBlock = some g → ¬ G g) : OBytes F w' v l :=
  ⟨ownsRow_chg h.1 hc hd, h.2⟩
theorem OBytes.new {F : Nat → Prop} {w w' : World} {v : Value} {l : Bytes} (h : OBytes F w v l) (hc : Chg None w w') : OBytes F w' v l := h.kept hc (fun _ _ x => x)
theorem OBytes.made {F : Nat → Prop} (w : World) (hF : F w.heap.size) : OBytes F (w.alloc (.cells #[] 5)) (.slice (some ⟨w.heap.size, 0, none⟩) 0 0) [] :=
  ⟨World.ownsRow_lit w #[] 0 (Nat.zero_le _) (by simp [maxLen]) rfl, fun g hg => by injection hg with hg; exact hg ▸ hF⟩
theorem OBytes.shape {F : Nat → Prop} {w : World} {v : Value} {l : Bytes} (h : OBytes F w v l) : ∃ a cap, v = .slice a l.length cap := ownsRow_shape h.1
theorem text_nil (w : World) : (convert 87 9 (.slice none 0 0)).run Tryd.prog w = .ok (encStr []) w := by kernel_rfl
/-- its text -/
theorem OBytes.text {F : Nat → Prop} {w : World} {v : Value} {l : Bytes} (h : OBytes F w v l) : (convert 87 9 v).run Tryd.prog w = .ok (encStr l) w := by
  have hcs := fun g => h.1.cells (g := g)
  rcases h.1.2 with ⟨rfl, hn⟩ | ⟨g, cap, cur, rfl, _⟩
  · have : l = [] := List.eq_nil_of_length_eq_zero hn
    subst this
    exact text_nil w
  · exact run_convert_bytes_back (P := Tryd.prog) w 87 9 5 ⟨g, 0, none⟩ cap l (by kernel_rfl) (by kernel_rfl) (by kernel_rfl) (fun j hj => by
      have := hcs g rfl j (byteV l[j]) (by simp [hj])
      rw [add_off] at this ⊢
      exact this)
/-- what an append of new bytes leaves -/
theorem OBytes.app {w W w2 : World} {u v' : Value} {l k : Bytes} {n : Nat} {xs : List Value} {B : Nat} (h : OBytes (fun g => B ≤ g) w u l) (hc : Chg None w W) (hB : B ≤ W.heap.size) (hs : w2.ownsRow 0 5 1 v' n xs) (hn : n = (l ++ k).length) (hx : xs = (l ++ k).map byteV)
    (hl : v'.ownBlock = u.ownBlock ∨ v'.ownBlock = some W.heap.size) (hg : W.grownBy w2 u.ownBlock) : OBytes (fun g => B ≤ g) w2 v' (l ++ k) ∧ Chg (fun g => B ≤ g) w w2 := by
  subst hn
  subst hx
  refine ⟨⟨hs, fun g hg => ?_⟩, hc.any.trans ((Chg.ofGrown hg).mono (fun k _ hk => h.2 k hk.symm))⟩
  rcases hl with e | e
  · exact h.2 g (e ▸ hg)
  · rw [e] at hg
    injection hg with hg
    omega
theorem chg_new {B : Nat} {w w1 w2 : World} (h : Chg None w w1) (h2 : Chg (fun g => B ≤ g) w1 w2) (hB : w.heap.size ≤ B) : Chg None w w2 := h.then h2 (fun i hi e => by omega)

end Go.Proofs.YtcbenidcaaegnaaDoor
