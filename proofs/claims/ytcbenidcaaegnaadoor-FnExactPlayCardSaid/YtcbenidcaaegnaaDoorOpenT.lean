/-
  A slice of steps among the arguments, opened.
-/
import Derived.Test.YtcbenidcaaegnaaDoorOpen
import Derived.Test.YtcbenidcaaegnaaDoorOAns
import Derived.Deep.Strs
namespace Go.Proofs.YtcbenidcaaegnaaDoor
open Go.RowKit Go.ChangeShapes Go.WideShapes
open Uv (Bytes St)

section
variable {H : Type} {enc : TypeId × Value → H} {W : World} {base : Nat} {sp : Nat → Bool} {held : Bool}
theorem open_steps {fuel : Nat} {cs : List Value} {x : DataW H × List MemPlace} (h : DataW.trod enc Tryd.prog W base sp held fuel 37 cs = some x) :
    ∃ v ss, cs = [v] ∧ RSteps All W v ss ∧ (∀ s ∈ ss, s.2.1.length ≤ maxLen ∧ s.2.2.length ≤ maxLen) := by
  have hc3 : Tryd.prog.cellsOf 67 = 3 := by kernel_rfl
  have cells1 : Tryd.prog.cellsOf 9 = 1 := by kernel_rfl
  have cells1i : Tryd.prog.cellsOf 3 = 1 := by kernel_rfl
  have undI : Tryd.prog.underlying 3 = some (.int .i64) := by kernel_rfl
  rcases Deep.open_slice (e := 67) (by kernel_rfl) h with ⟨rfl, rfl⟩ | ⟨a, len, cap, m, n, D, Pl, rfl, _, hl, hm, hmm, rfl, hx⟩
  · exact ⟨_, [], rfl, ⟨none, 0, rfl, Nat.le_refl _, by simp [maxLen], fun i x hx => by simp at hx⟩, fun y hy => by simp at hy⟩
  · have hlm : len ≤ m := by rw [hmm]; split <;> omega
    rw [hc3] at hx
    have each : ∀ i, i < len → ∃ p : St, W.cell? (a.add (i * 3)) = some (.int .i64 p.1) ∧ W.cell? ((a.add (i * 3)).add 1) = some (encStr p.2.1) ∧ W.cell? ((a.add (i * 3)).add 2) = some (encStr p.2.2) ∧ p.2.1.length ≤ maxLen ∧ p.2.2.length ≤ maxLen := fun i hi => by
      obtain ⟨cs', h1, h2⟩ := hx i (by omega)
      obtain ⟨_, hlen, hcell⟩ := World.cells?_some h1
      match cs', hlen with
      | [c0, c1, c2], _ =>
        obtain ⟨y0, y1, y2, n', _, _, t0, t1, t2⟩ := Deep.trod_struct3 Tryd.underlying67 h2
        simp only [List.drop_zero, List.drop_succ_cons, cells1, cells1i, List.take_succ_cons, List.take_zero] at t0 t1 t2
        obtain ⟨d, hd, _, _⟩ := DataW.trod_int undI t0
        obtain ⟨s, hs, _, hsz⟩ := DataW.trod_string undK t1
        obtain ⟨u, hu, _, huz⟩ := DataW.trod_string undK t2
        have hd' : c0 = .int .i64 d := by simpa using hd
        have hs' : c1 = .string s := by simpa using hs
        have hu' : c2 = .string u := by simpa using hu
        subst hd'
        subst hs'
        subst hu'
        refine ⟨(d, s.data.toList, u.data.toList), ?_, ?_, ?_, by rw [size_toList]; exact hsz, by rw [size_toList]; exact huz⟩
        · have := hcell 0 (by omega)
          simpa [Addr.add] using this
        · rw [← str_eta]
          simpa using hcell 1 (by omega)
        · rw [← str_eta]
          simpa using hcell 2 (by omega)
    obtain ⟨S, hS⟩ := Deep.choose_lt each
    refine ⟨_, listOf len S, rfl, ⟨some a, cap, by rw [length_listOf], by rw [length_listOf]; exact hl, hm, fun i y hy => ?_⟩, fun e he => ?_⟩
    · obtain ⟨hi, rfl⟩ := getElem?_listOf hy
      obtain ⟨b, off, rfl⟩ := addr_form (w := W) (by simpa using (hS 0 (by omega)).1)
      obtain ⟨h1, h2, h3, _⟩ := hS i hi
      rw [add_off] at h1 h2 h3
      rw [add_off] at h2 h3
      exact ⟨b, off, rfl, trivial, h1, h2, h3⟩
    · obtain ⟨i, hi, rfl⟩ := mem_listOf he
      exact (hS i hi).2.2.2
end
end Go.Proofs.YtcbenidcaaegnaaDoor
