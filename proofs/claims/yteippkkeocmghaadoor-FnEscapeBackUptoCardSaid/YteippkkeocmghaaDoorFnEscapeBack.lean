/-
  laws.FnEscapeBack's walk: for every text of at most 1048576 bytes the law returns true, and writes nothing that was there.
-/
import Derived.Test.YteippkkeocmghaaDoorQEsc
import Derived.Test.YteippkkeocmghaaDoorUnesc
import Derived.OpenShut
import Derived.ProofKit
import Derived.ShutString
import Derived.Below
namespace Go.Proofs.YteippkkeocmghaaDoor.fnEscapeBack
open Go.RowKit
open Uv (Bytes esc un unT)

theorem tame (s : Bytes) (i : Nat) (h : i < (esc s).length) : ¬ (esc s)[i].toNat = 38 ∧ ¬ (esc s)[i].toNat = 61 ∧ ¬ (esc s)[i].toNat = 32 ∧ ¬ (esc s)[i].toNat = 35 ∧ (esc s)[i].toNat < 128 := by
  rcases Uv.esc_mem (List.getElem_mem h) with h | h | h
  · simp [Uv.safeB] at h
    omega
  · omega
  · omega

set_option maxRecDepth 100000 in
set_option maxHeartbeats 400000 in
theorem walk (s : Bytes) (w : World) (hb : s.length ≤ 1048576) (hT : Tab w) : Calls Tryd.prog 6 #[encStr s] w (Ret (.bool true) w) := by
  have hl : (esc s).length ≤ 3145728 := by
    have h1 := Uv.length_esc s
    have h3 := Uv.hxc_le s
    omega
  have HU := Lib.hid (Uv.un_esc s)
  have HT := Lib.hid (Uv.unT_esc s)
  go_enter Tryd.func6, Tryd.ntmps6
  go_wp2_with fail
  refine (implQueryEscape_ok s _ hT (by omega)).mono ?_
  rintro e w1 ⟨rfl, c1⟩
  have hT1 := hT.new c1
  go_wp2_with fail
  refine (implQueryUnescape_ok (esc s) _ hT1 (by omega)).mono ?_
  rw [HU.out, HT.out]
  rintro e w2 ⟨rfl, c2⟩
  have HM := Lib.hid (tame s)
  generalize esc s = t at *
  go_wp2
  go_loop [6] (fun iv => ∃ i : Nat, i ≤ t.length ∧ iv = .int .i64 i) (fun iv => t.length - (intOf iv).toNat)
  case atStart => exact ⟨0, Nat.zero_le _, rfl⟩
  case round =>
    obtain ⟨i, hi, rfl⟩ := hrel
    by_cases hlt : i < t.length
    · have hix := run_textAt t i hlt
      obtain ⟨m1, m2, m3, m4, m5⟩ := HM.out i hlt
      have e1 : ((t[i].toNat : Int) == 38) = false := by simp; omega
      have e2 : ((t[i].toNat : Int) == 61) = false := by simp; omega
      have e3 : ((t[i].toNat : Int) == 32) = false := by simp; omega
      have e4 : ((t[i].toNat : Int) == 35) = false := by simp; omega
      have e5 : decide ((128 : Int) ≤ (t[i].toNat : Int)) = false := by simp; omega
      clear m1 m2 m3 m4
      go_wp2
      go_round
      case rel => exact ⟨i + 1, by omega, by go_num⟩
      case measure => simp [intOf]; omega
    · go_wp2
      go_ret
      exact ⟨rfl, c1.trans c2⟩
end Go.Proofs.YteippkkeocmghaaDoor.fnEscapeBack
