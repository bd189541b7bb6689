/-
  Slices of texts: compared (eqStringS, same).
-/
import Derived.Test.YtkenogafadjkcaaBase
import Derived.Deep.QuietTactic
import Derived.BigQuiet
import Derived.Outline
namespace Go.Proofs.Ytkenogafadjkcaa
open Go.RowKit
open Uv (Bytes Ent KV)

theorem ret_bool {x y : Bool} (h : x = y) : Ending.returned (.bool x) = .returned (.bool y) := by rw [h]
theorem ret_int {k : IntKind} {a b : Int} (h : a = b) : Ending.returned (.int k a) = .returned (.int k b) := by rw [h]
theorem take_eq_all {α : Type} {ss ts : List α} {k : Nat} (hl : ss.length = ts.length) (hk : ¬ k < ss.length) (h : ss.take k = ts.take k) : ss = ts := by
  rwa [List.take_of_length_le (by omega), List.take_of_length_le (by omega)] at h
theorem take_succ_eq {α : Type} {ss ts : List α} {k : Nat} (h1 : k < ss.length) (h2 : k < ts.length) (h : ss.take k = ts.take k) (e : ss[k] = ts[k]) : ss.take (k + 1) = ts.take (k + 1) := by
  rw [List.take_succ_eq_append_getElem h1, List.take_succ_eq_append_getElem h2, h, e]
theorem ne_of_get {α : Type} {ss ts : List α} {k : Nat} (h1 : k < ss.length) (h2 : k < ts.length) (e : ¬ ss[k] = ts[k]) : ¬ ss = ts := by
  intro h; subst h; exact e rfl


end Go.Proofs.Ytkenogafadjkcaa
