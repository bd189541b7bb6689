/-
  Slices of steps: as a source of an append; rows of steps that the call owns.
-/
import Derived.Test.YtcbenidcaaegnaaDoorOAns
namespace Go.Proofs.YtcbenidcaaegnaaDoor
open Go.RowKit
open Uv (Bytes Ent KV Ans St)

def stCells (s : St) : List Value := [.int .i64 s.1, encStr s.2.1, encStr s.2.2]
def stFlat : List St → List Value
  | [] => []
  | s :: r => .int .i64 s.1 :: encStr s.2.1 :: encStr s.2.2 :: stFlat r
theorem stFlat_len (ss : List St) : (stFlat ss).length = ss.length * 3 := by
  induction ss with
  | nil => rfl
  | cons s r ih => simp only [stFlat, List.length_cons, ih]; omega
theorem stFlat_append (a b : List St) : stFlat (a ++ b) = stFlat a ++ stFlat b := by
  induction a with
  | nil => rfl
  | cons s r ih => simp only [List.cons_append, stFlat, ih]
theorem stFlat_get (ss : List St) (i : Nat) (s : St) (h : ss[i]? = some s) : (stFlat ss)[i * 3]? = some (.int .i64 s.1) ∧ (stFlat ss)[i * 3 + 1]? = some (encStr s.2.1) ∧ (stFlat ss)[i * 3 + 2]? = some (encStr s.2.2) := by
  induction ss generalizing i with
  | nil => simp at h
  | cons x r ih =>
    cases i with
    | zero =>
      simp at h
      subst h
      exact ⟨rfl, rfl, rfl⟩
    | succ i =>
      have := ih i (by simpa using h)
      rw [show (i + 1) * 3 = i * 3 + 1 + 1 + 1 by omega]
      simpa [stFlat] using this
theorem stFlat_one (ss : List St) : ∀ u ∈ stFlat ss, u.oneCell' = true := by
  induction ss with
  | nil => intro u hu; cases hu
  | cons s r ih =>
    intro u hu
    simp only [stFlat, List.mem_cons] at hu
    rcases hu with rfl | rfl | rfl | hu
    · rfl
    · rfl
    · rfl
    · exact ih u hu
theorem RSteps.src {F : Nat → Prop} {w : World} {v : Value} {ss : List St} (h : RSteps F w v ss) : Src Tryd.prog 3 43 v ss.length (stFlat ss) w := by
  obtain ⟨a, cap, rfl, h1, h2, h3⟩ := h
  cases a with
  | none =>
    have : ss = [] := by
      cases ss with
      | nil => rfl
      | cons x r =>
        obtain ⟨b, off, h, _⟩ := h3 0 x rfl
        cases h
    subst this
    exact Src.ofNil w elStep.ht cap
  | some ad =>
    refine Src.ofSlice w elStep.ht ad ss.length cap _ (stFlat_len ss) (fun j u hj => ?_) (stFlat_one ss)
    have hjl := (List.getElem?_eq_some_iff.1 hj).1
    rw [stFlat_len] at hjl
    have hi : j / 3 < ss.length := by omega
    obtain ⟨b, off, ha, _, c1, c2, c3⟩ := h3 (j / 3) ss[j / 3] (by simp [hi])
    injection ha with ha
    subst ha
    obtain ⟨g1, g2, g3⟩ := stFlat_get ss (j / 3) ss[j / 3] (by simp [hi])
    rw [add_off]
    have hm : j % 3 = 0 ∨ j % 3 = 1 ∨ j % 3 = 2 := by omega
    rcases hm with hm | hm | hm
    · rw [show j / 3 * 3 = j by omega, hj] at g1
      injection g1 with g1
      subst g1
      rwa [show j / 3 * 3 = j by omega] at c1
    · rw [show j / 3 * 3 + 1 = j by omega, hj] at g2
      injection g2 with g2
      subst g2
      rwa [show off + j / 3 * 3 + 1 = off + j by omega] at c2
    · rw [show j / 3 * 3 + 2 = j by omega, hj] at g3
      injection g3 with g3
      subst g3
      rwa [show off + j / 3 * 3 + 2 = off + j by omega] at c3

/-- a row of steps that the call owns, in blocks of F -/
def OSteps (F : Nat → Prop) (w : World) (v : Value) (ss : List St) : Prop :=
  w.ownsRow 0 61 3 v ss.length (stFlat ss) ∧ ∀ g, v.ownBlock = some g → F g
theorem OSteps.read {F : Nat → Prop} {w : World} {v : Value} {ss : List St} (h : OSteps F w v ss) : RSteps F w v ss := by
  obtain ⟨h1, h2⟩ := h
  have hcs := fun g => h1.cells (g := g)
  rcases h1.2 with ⟨rfl, hn⟩ | ⟨g, cap, cur, rfl, _, _, hnc, hcm, _⟩
  · have : ss = [] := List.eq_nil_of_length_eq_zero hn
    subst this
    exact ⟨none, 0, rfl, Nat.le_refl _, by simp [maxLen], fun i x hx => by simp at hx⟩
  · refine ⟨_, cap, rfl, hnc, hcm, fun i s hs => ⟨g, 0, rfl, h2 g rfl, ?_, ?_, ?_⟩⟩
    · have := hcs g rfl _ _ (stFlat_get ss i s hs).1
      rwa [add_off] at this
    · have := hcs g rfl _ _ (stFlat_get ss i s hs).2.1
      rwa [add_off] at this
    · have := hcs g rfl _ _ (stFlat_get ss i s hs).2.2
      rwa [add_off] at this
theorem OSteps.kept {F G : Nat → Prop} {w w' : World} {v : Value} {ss : List St} (h : OSteps F w v ss) (hc : Chg G w w') (hd : ∀ g, v.ownBlock = some g → ¬ G g) : OSteps F w' v ss := ⟨ownsRow_chg h.1 hc hd, h.2⟩
theorem OSteps.new {F : Nat → Prop} {w w' : World} {v : Value} {ss : List St} (h : OSteps F w v ss) (hc : Chg None w w') : OSteps F w' v ss := h.kept hc (fun _ _ x => x)
end Go.Proofs.YtcbenidcaaegnaaDoor
