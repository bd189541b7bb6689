/-
  A slice of bytes among the arguments, opened.
-/
import Derived.Test.YtbnefebheecccaaDoorOpen
import Derived.Test.YtbnefebheecccaaDoorBytes
import Derived.ChangeSlices
namespace Go.Proofs.YtbnefebheecccaaDoor
open Go.RowKit Go.ChangeShapes Go.WideShapes
open Uv (Bytes)

/-- A slice that reads as bytes, in blocks of F. -/
def RBytes (F : Nat → Prop) (w : World) (v : Value) (l : Bytes) : Prop :=
  ∃ a cap, v = .slice a l.length cap ∧ l.length ≤ cap ∧ cap ≤ maxLen ∧ ∀ i x, l[i]? = some x → ∃ b off, a = some ⟨b, off, none⟩ ∧ F b ∧ w.cell? ⟨b, off + i, none⟩ = some (byteV x)

section
variable {H : Type} {enc : TypeId × Value → H} {W : World} {base : Nat} {sp : Nat → Bool} {held : Bool}
theorem open_bytes {fuel : Nat} {cs : List Value} {x : DataW H × List MemPlace} (h : DataW.trod enc Tryd.prog W base sp held fuel 45 cs = some x) :
    ∃ v l, cs = [v] ∧ RBytes All W v l ∧ True := by
  rcases open_ints (e := 5) (k := .u8) (by kernel_rfl) (by kernel_rfl) (by kernel_rfl) h with ⟨rfl, rfl⟩ | ⟨a, len, cap, zs, rfl, _, hl, hm, hz, rfl, hc, hw⟩
  · exact ⟨_, [], rfl, ⟨none, 0, rfl, Nat.le_refl _, by simp [maxLen], fun i x hx => by simp at hx⟩, trivial⟩
  · have hlz : len ≤ zs.length := by rw [hz]; split <;> omega
    refine ⟨_, (List.range len).map fun i => UInt8.ofNat (zs.getD i 0).toNat, rfl, ⟨some a, cap, by simp, by simpa using hl, hm, fun i y hy => ?_⟩, trivial⟩
    simp only [List.getElem?_map, Option.map_eq_some_iff] at hy
    obtain ⟨j, hj, rfl⟩ := hy
    have hi := (List.getElem?_eq_some_iff.1 hj).1
    simp only [List.length_range] at hi
    simp [hi] at hj
    subst hj
    obtain ⟨b, off, rfl, hcc⟩ := addr_at (w := W) (a := a) (n := len) (V := fun i => .int .u8 (zs.getD i 0)) (fun i hi => hc i (by omega)) (by omega)
    refine ⟨b, off, rfl, trivial, ?_⟩
    rw [hcc i hi]
    have hwf := hw (zs.getD i 0) (by rw [List.getD_eq_getElem?_getD, List.getElem?_eq_getElem (by omega)]; simp)
    simp only [Lit.wf, Bool.and_eq_true, decide_eq_true_eq] at hwf
    have h0 : (0 : Int) ≤ zs.getD i 0 := hwf.1
    have h1 : zs.getD i 0 ≤ 255 := hwf.2
    generalize zs.getD i 0 = z at *
    have e : ((UInt8.ofNat z.toNat).toNat : Int) = z := by
      rw [UInt8.toNat_ofNat']
      omega
    show some (Value.int .u8 z) = some (Value.int .u8 ((UInt8.ofNat z.toNat).toNat : Int))
    rw [e]
end
end Go.Proofs.YtbnefebheecccaaDoor
