/-
  laws.FnEscapeJoined's walk.
-/
import Derived.Test.YteippkkeocmghaaDoorQEsc
import Derived.OpenShut
import Derived.ProofKit
import Derived.ShutString
import Derived.Below
namespace Go.Proofs.YteippkkeocmghaaDoor.fnEscapeJoined
open Go.RowKit
open Uv (Bytes esc)

theorem esc_ne (s : Bytes) : ¬ esc (s ++ [97]) = [] := by
  rw [Uv.esc_append]
  intro h
  have := congrArg List.length h
  rw [List.length_append] at this
  have e : (esc [97]).length = 1 := by decide
  rw [e] at this
  simp at this

set_option maxHeartbeats 400000 in
theorem walk (s t : Bytes) (w : World) (hb : s.length + t.length ≤ 1048576) (hT : Tab w) : Calls Tryd.prog 3 #[encStr s, encStr t] w (Ret (.bool true) w) := by
  have HA := Lib.hid (Uv.esc_append s t)
  obtain ⟨c, r, hcr⟩ := List.exists_cons_of_ne_nil (esc_ne s)
  have HN := Lib.hid hcr
  clear hcr
  have e1 : (⟨s.toArray⟩ : ByteArray) ++ ⟨t.toArray⟩ = ⟨(s ++ t).toArray⟩ := str_add s t
  go_enter Tryd.func3, Tryd.ntmps3
  go_wp2_with fail
  refine (implQueryEscape_ok (s ++ t) _ hT (by simp; omega)).mono ?_
  rw [HA.out]
  clear e1
  rintro e w1 ⟨rfl, c1⟩
  have hT1 := hT.new c1
  go_wp2_with fail
  refine (implQueryEscape_ok s _ hT1 (by omega)).mono ?_
  rintro e w2 ⟨rfl, c2⟩
  have hT2 := hT1.new c2
  go_wp2_with fail
  refine (implQueryEscape_ok t _ hT2 (by omega)).mono ?_
  rintro e w3 ⟨rfl, c3⟩
  have hT3 := hT2.new c3
  have hl : (esc s).length + (esc t).length ≤ 3145728 := by
    have h1 := Uv.length_esc s
    have h2 := Uv.length_esc t
    have h3 := Uv.hxc_le s
    have h4 := Uv.hxc_le t
    omega
  have e2 : (⟨(esc s).toArray⟩ : ByteArray) ++ ⟨(esc t).toArray⟩ = ⟨(esc s ++ esc t).toArray⟩ := str_add _ _
  have e3 : (⟨s.toArray⟩ : ByteArray) ++ ⟨#[97]⟩ = ⟨(s ++ [97]).toArray⟩ := str_add s [97]
  go_wp2_with fail
  refine (implQueryEscape_ok (s ++ [97]) _ hT3 (by simp; omega)).mono ?_
  rw [HN.out]
  clear e2 e3
  rintro e w4 ⟨rfl, c4⟩
  go_wp2
  go_ret
  exact ⟨rfl, ((c1.trans c2).trans c3).trans c4⟩
end Go.Proofs.YteippkkeocmghaaDoor.fnEscapeJoined
