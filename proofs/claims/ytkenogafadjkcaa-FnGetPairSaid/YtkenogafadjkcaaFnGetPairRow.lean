/-
  Rows.FnGetPairSaid: 'laws.FnGetPair' returns true for every input, and each argument reads as before. No condition.
-/
import Derived.Test.YtkenogafadjkcaaFnGetPair
import Derived.Test.YtkenogafadjkcaaOpenS
import Derived.ChangeOld
import Derived.SizedLaws
namespace Go.Proofs.Ytkenogafadjkcaa.fnGetPair
open Go.ChangeShapes Go.WideShapes Go.ChangeAt Go.RowKit
open Go.ChangeMaps (open_string shut_string)
open Uv (Bytes Ent KV)

theorem own : ownKnob Try.prog.godebug = none := by kernel_rfl
theorem laidOut : laidOutB Try.prog = true := by kernel_rfl

set_option maxRecDepth 100000 in
theorem contract (H : Type) (enc : TypeId × Value → H) (W : World) (base : Nat) (args : Array Value) (ds gs : List (DataW H)) (before : List MemPlace)
    (hval : ∀ (j : Nat) t v, Try.f3.params[j]? = some t → args[j]? = some v → Value.okWide Try.prog W .any base t v)
    (hW : DataW.Whole enc Try.prog Try.f3.params.toList Rows.fnGetPairSpec.vars false W args.toList ds gs before)
    (hz : (DataW.weightsEach Try.prog (Try.f3.params.toList ++ Rows.fnGetPairSpec.plain.varTypes Try.prog) (ds ++ gs)).all (· ≤ reachBytes) = true) :
    Calls Try.prog 3 args W fun e W' => ∃ v, e = .returned v ∧ Rows.fnGetPairSpec.post enc Try.prog Try.f3 false true false false W args v W' := by
  have hW' := hW
  obtain ⟨p, q, hA0, hV, rfl, hfz, hnd⟩ := hW
  have hA : DataW.TrodAll enc Try.prog W 0 (fun _ => true) true Try.f3.params.toList args.toList ds p := hA0
  rw [Try.params3] at hA hval
  obtain ⟨v0, vs0, d0, ds0, p0, q0, hargs, rfl, rfl, h0, r0⟩ := trodAll_cons hA
  obtain ⟨v1, vs1, d1, ds1, p1, q1, rfl, rfl, rfl, h1, r1⟩ := trodAll_cons r0
  obtain ⟨v2, vs2, d2, ds2, p2, q2, rfl, rfl, rfl, h2, r2⟩ := trodAll_cons r1
  obtain ⟨rfl, rfl, rfl⟩ := trodAll_nil r2
  obtain rfl : args = #[v0, v1, v2] := by cases args; simp_all
  obtain ⟨rfl, rfl⟩ := trodVars_none hV
  obtain ⟨s0, rfl, rfl, rfl, z0⟩ := open_string Try.underlying9 (hval 0 9 v0 rfl rfl) h0
  have y0 : s0.data.toList.length ≤ maxLen := by rw [size_toList]; exact z0
  obtain ⟨a1, len1, cap1, rfl⟩ := okWide_slice Try.underlying22 (hval 1 22 v1 rfl rfl)
  have k1 := h1
  have lt1 : ∀ x ∈ p1, x.block < W.heap.size := by obtain ⟨m, hm⟩ := k1; exact DataW.trod_lt m _ _ _ hm
  obtain ⟨fu1, hf1⟩ := h1
  obtain ⟨ax, nx, cx, ex, hx⟩ := open_texts_len hf1
  obtain ⟨x1, l1, e1, g1, -, -⟩ := open_texts hf1
  obtain rfl : Value.slice a1 len1 cap1 = x1 := by simpa [Value.cells] using e1
  obtain ⟨s2, rfl, rfl, rfl, z2⟩ := open_string Try.underlying9 (hval 2 9 v2 rfl rfl) h2
  have y2 : s2.data.toList.length ≤ maxLen := by rw [size_toList]; exact z2
  have hn : l1.length * 16 ≤ 140737488355328 := by
    obtain ⟨a9, c9, e9, _⟩ := id g1
    have e10 : Value.slice a1 len1 cap1 = Value.slice ax nx cx := by simpa [Value.cells] using ex
    rw [e10] at e9
    injection e9 with _ e9 _
    rw [← e9]
    rcases hx with h0 | ⟨elems, spare, hd, hle⟩
    · rw [h0]; simp
    · have hsz := sized_slice hz (j := 1) (t := 22) (e := 9) (elems := elems) (spare := spare) rfl (by rw [← hd]; rfl) Try.underlying22
      have hby : Try.prog.bytesOf 9 = 16 := by kernel_rfl
      rw [hby] at hsz
      have hr : reachBytes = 140737488351232 := rfl
      rw [hr] at hsz
      omega
  clear hA0
  rw [show Value.string s0 = encStr s0.data.toList from str_eta s0]
  rw [show Value.string s2 = encStr s2.data.toList from str_eta s2]
  refine (walk s0.data.toList (.slice a1 len1 cap1) l1 s2.data.toList W y0 g1 y2 hn).mono fun e W' ⟨he, hch⟩ => ?_
  subst he
  have bel := hch.new
  rw [show encStr s0.data.toList = Value.string s0 from (str_eta s0).symm]
  rw [show encStr s2.data.toList = Value.string s2 from (str_eta s2).symm]
  exact ⟨_, rfl, _, _, _, [], _, [], hW', trodAll_mk1 (shut_bool Try.underlying4 _), trodAll_cons_mk (shut_string Try.underlying9 z0) (trodAll_cons_mk (Below.trod laidOut (by kernel_rfl) (of_decide_eq_true (by kernel_rfl)) k1 bel lt1) (trodAll_cons_mk (shut_string Try.underlying9 z2) trodAll_mk0)), rfl, bel.frame _, fun h => by cases h⟩

set_option maxRecDepth 100000 in
theorem lifted (os : Os) (started : os.Started) (H : Type) (enc : TypeId × Value → H) :
    ReturnsInHanded {} Try.checked os 3 .any (Rows.fnGetPairSpec.pre6 enc Try.prog Try.f3 Rows.fnGetPairRow.domain false) (Rows.fnGetPairSpec.post enc Try.prog Try.f3 false true false false) := by
  refine returnsInHanded_of_change_sized (C := Try.checked) own started (by kernel_rfl) Try.func3
    (ChangeSpec.witness6 (enc := enc) (C := Try.checked) false ⟨#[], #[.string .empty, .slice none 0 0, .string .empty], []⟩ 8 (by kernel_rfl) (by kernel_rfl) (by kernel_rfl) (by kernel_rfl)) ?_
  intro W base args ds gs before hval hW _ hz _
  exact contract H enc W base args ds gs before hval hW hz

theorem proved : Rows.FnGetPairSaid :=
  OpenClaim.holds_of_wide 3 Try.f3 rfl rfl rfl rfl rfl rfl rfl ⟨rfl, rfl, rfl, rfl, rfl⟩ rfl rfl rfl rfl rfl (by kernel_rfl) Try.func3 (by kernel_rfl)
    (of_decide_eq_true (by kernel_rfl)) (by unfold Func.isWrapper; first | (rw [if_pos (by decide +kernel)]; kernel_rfl) | (rw [if_neg (by decide +kernel)]; exact ⟨rfl, rfl⟩))
    (fun os started H enc _ => lifted os started H enc)
end Go.Proofs.Ytkenogafadjkcaa.fnGetPair
