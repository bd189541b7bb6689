/-
  The reference's bytes: spec.Safe, hex, value.
-/
import Derived.Test.YtcbenidcaaegnaaDoorBytes
import Derived.Test.YtcbenidcaaegnaaDoorUnPure
namespace Go.Proofs.YtcbenidcaaegnaaDoor
open Go.RowKit
open Uv (Bytes safeB)

theorem ret_boolS {x y : Bool} (h : x = y) : Ending.returned (.bool x) = .returned (.bool y) := by rw [h]
theorem ret_intS {k : IntKind} {a b : Int} (h : a = b) : Ending.returned (.int k a) = .returned (.int k b) := by rw [h]

set_option maxHeartbeats 1000000 in
theorem specSafe_ok (c : UInt8) (w : World) : Calls Tryd.prog 72 #[.int .u8 c.toNat] w (fun e w' => e = .returned (.bool (safeB c)) ∧ w = w') := by
  have hlt := c.toNat_lt
  rcases (by omega : (0 ≤ c.toNat ∧ c.toNat ≤ 44) ∨ (45 ≤ c.toNat ∧ c.toNat ≤ 45) ∨ (46 ≤ c.toNat ∧ c.toNat ≤ 46) ∨ (47 ≤ c.toNat ∧ c.toNat ≤ 47) ∨ (48 ≤ c.toNat ∧ c.toNat ≤ 57) ∨ (58 ≤ c.toNat ∧ c.toNat ≤ 64) ∨ (65 ≤ c.toNat ∧ c.toNat ≤ 90) ∨ (91 ≤ c.toNat ∧ c.toNat ≤ 94) ∨ (95 ≤ c.toNat ∧ c.toNat ≤ 95) ∨ (96 ≤ c.toNat ∧ c.toNat ≤ 96) ∨ (97 ≤ c.toNat ∧ c.toNat ≤ 122) ∨ (123 ≤ c.toNat ∧ c.toNat ≤ 125) ∨ (126 ≤ c.toNat ∧ c.toNat ≤ 126) ∨ (127 ≤ c.toNat ∧ c.toNat ≤ 255)) with ⟨h1, h2⟩ | ⟨h1, h2⟩ | ⟨h1, h2⟩ | ⟨h1, h2⟩ | ⟨h1, h2⟩ | ⟨h1, h2⟩ | ⟨h1, h2⟩ | ⟨h1, h2⟩ | ⟨h1, h2⟩ | ⟨h1, h2⟩ | ⟨h1, h2⟩ | ⟨h1, h2⟩ | ⟨h1, h2⟩ | ⟨h1, h2⟩
  · have hs : safeB c = false := by simp [safeB]; omega
    have H := Lib.hid hs
    clear hs
    have e45 : ((c.toNat : Int) == 45) = false := by simp; omega
    have e95 : ((c.toNat : Int) == 95) = false := by simp; omega
    have e46 : ((c.toNat : Int) == 46) = false := by simp; omega
    have e126 : ((c.toNat : Int) == 126) = false := by simp; omega
    go_enter Tryd.func72, Tryd.ntmps72
    go_wp2
    go_ret
    exact ⟨by rw [H.out]; exact ret_boolS (by first | rfl | (simp; done) | (simp; omega)), rfl⟩
  · have hs : safeB c = true := by simp [safeB]; omega
    have H := Lib.hid hs
    clear hs
    have e45 : ((c.toNat : Int) == 45) = true := by simp; omega
    have e95 : ((c.toNat : Int) == 95) = false := by simp; omega
    have e46 : ((c.toNat : Int) == 46) = false := by simp; omega
    have e126 : ((c.toNat : Int) == 126) = false := by simp; omega
    go_enter Tryd.func72, Tryd.ntmps72
    go_wp2
    go_ret
    exact ⟨by rw [H.out]; exact ret_boolS (by first | rfl | (simp; done) | (simp; omega)), rfl⟩
  · have hs : safeB c = true := by simp [safeB]; omega
    have H := Lib.hid hs
    clear hs
    have e45 : ((c.toNat : Int) == 45) = false := by simp; omega
    have e95 : ((c.toNat : Int) == 95) = false := by simp; omega
    have e46 : ((c.toNat : Int) == 46) = true := by simp; omega
    have e126 : ((c.toNat : Int) == 126) = false := by simp; omega
    go_enter Tryd.func72, Tryd.ntmps72
    go_wp2
    go_ret
    exact ⟨by rw [H.out]; exact ret_boolS (by first | rfl | (simp; done) | (simp; omega)), rfl⟩
  · have hs : safeB c = false := by simp [safeB]; omega
    have H := Lib.hid hs
    clear hs
    have e45 : ((c.toNat : Int) == 45) = false := by simp; omega
    have e95 : ((c.toNat : Int) == 95) = false := by simp; omega
    have e46 : ((c.toNat : Int) == 46) = false := by simp; omega
    have e126 : ((c.toNat : Int) == 126) = false := by simp; omega
    go_enter Tryd.func72, Tryd.ntmps72
    go_wp2
    go_ret
    exact ⟨by rw [H.out]; exact ret_boolS (by first | rfl | (simp; done) | (simp; omega)), rfl⟩
  · have hs : safeB c = true := by simp [safeB]; omega
    have H := Lib.hid hs
    clear hs
    have e45 : ((c.toNat : Int) == 45) = false := by simp; omega
    have e95 : ((c.toNat : Int) == 95) = false := by simp; omega
    have e46 : ((c.toNat : Int) == 46) = false := by simp; omega
    have e126 : ((c.toNat : Int) == 126) = false := by simp; omega
    go_enter Tryd.func72, Tryd.ntmps72
    go_wp2
    go_ret
    exact ⟨by rw [H.out]; exact ret_boolS (by first | rfl | (simp; done) | (simp; omega)), rfl⟩
  · have hs : safeB c = false := by simp [safeB]; omega
    have H := Lib.hid hs
    clear hs
    have e45 : ((c.toNat : Int) == 45) = false := by simp; omega
    have e95 : ((c.toNat : Int) == 95) = false := by simp; omega
    have e46 : ((c.toNat : Int) == 46) = false := by simp; omega
    have e126 : ((c.toNat : Int) == 126) = false := by simp; omega
    go_enter Tryd.func72, Tryd.ntmps72
    go_wp2
    go_ret
    exact ⟨by rw [H.out]; exact ret_boolS (by first | rfl | (simp; done) | (simp; omega)), rfl⟩
  · have hs : safeB c = true := by simp [safeB]; omega
    have H := Lib.hid hs
    clear hs
    have e45 : ((c.toNat : Int) == 45) = false := by simp; omega
    have e95 : ((c.toNat : Int) == 95) = false := by simp; omega
    have e46 : ((c.toNat : Int) == 46) = false := by simp; omega
    have e126 : ((c.toNat : Int) == 126) = false := by simp; omega
    go_enter Tryd.func72, Tryd.ntmps72
    go_wp2
    go_ret
    exact ⟨by rw [H.out]; exact ret_boolS (by first | rfl | (simp; done) | (simp; omega)), rfl⟩
  · have hs : safeB c = false := by simp [safeB]; omega
    have H := Lib.hid hs
    clear hs
    have e45 : ((c.toNat : Int) == 45) = false := by simp; omega
    have e95 : ((c.toNat : Int) == 95) = false := by simp; omega
    have e46 : ((c.toNat : Int) == 46) = false := by simp; omega
    have e126 : ((c.toNat : Int) == 126) = false := by simp; omega
    go_enter Tryd.func72, Tryd.ntmps72
    go_wp2
    go_ret
    exact ⟨by rw [H.out]; exact ret_boolS (by first | rfl | (simp; done) | (simp; omega)), rfl⟩
  · have hs : safeB c = true := by simp [safeB]; omega
    have H := Lib.hid hs
    clear hs
    have e45 : ((c.toNat : Int) == 45) = false := by simp; omega
    have e95 : ((c.toNat : Int) == 95) = true := by simp; omega
    have e46 : ((c.toNat : Int) == 46) = false := by simp; omega
    have e126 : ((c.toNat : Int) == 126) = false := by simp; omega
    go_enter Tryd.func72, Tryd.ntmps72
    go_wp2
    go_ret
    exact ⟨by rw [H.out]; exact ret_boolS (by first | rfl | (simp; done) | (simp; omega)), rfl⟩
  · have hs : safeB c = false := by simp [safeB]; omega
    have H := Lib.hid hs
    clear hs
    have e45 : ((c.toNat : Int) == 45) = false := by simp; omega
    have e95 : ((c.toNat : Int) == 95) = false := by simp; omega
    have e46 : ((c.toNat : Int) == 46) = false := by simp; omega
    have e126 : ((c.toNat : Int) == 126) = false := by simp; omega
    go_enter Tryd.func72, Tryd.ntmps72
    go_wp2
    go_ret
    exact ⟨by rw [H.out]; exact ret_boolS (by first | rfl | (simp; done) | (simp; omega)), rfl⟩
  · have hs : safeB c = true := by simp [safeB]; omega
    have H := Lib.hid hs
    clear hs
    have e45 : ((c.toNat : Int) == 45) = false := by simp; omega
    have e95 : ((c.toNat : Int) == 95) = false := by simp; omega
    have e46 : ((c.toNat : Int) == 46) = false := by simp; omega
    have e126 : ((c.toNat : Int) == 126) = false := by simp; omega
    go_enter Tryd.func72, Tryd.ntmps72
    go_wp2
    go_ret
    exact ⟨by rw [H.out]; exact ret_boolS (by first | rfl | (simp; done) | (simp; omega)), rfl⟩
  · have hs : safeB c = false := by simp [safeB]; omega
    have H := Lib.hid hs
    clear hs
    have e45 : ((c.toNat : Int) == 45) = false := by simp; omega
    have e95 : ((c.toNat : Int) == 95) = false := by simp; omega
    have e46 : ((c.toNat : Int) == 46) = false := by simp; omega
    have e126 : ((c.toNat : Int) == 126) = false := by simp; omega
    go_enter Tryd.func72, Tryd.ntmps72
    go_wp2
    go_ret
    exact ⟨by rw [H.out]; exact ret_boolS (by first | rfl | (simp; done) | (simp; omega)), rfl⟩
  · have hs : safeB c = true := by simp [safeB]; omega
    have H := Lib.hid hs
    clear hs
    have e45 : ((c.toNat : Int) == 45) = false := by simp; omega
    have e95 : ((c.toNat : Int) == 95) = false := by simp; omega
    have e46 : ((c.toNat : Int) == 46) = false := by simp; omega
    have e126 : ((c.toNat : Int) == 126) = true := by simp; omega
    go_enter Tryd.func72, Tryd.ntmps72
    go_wp2
    go_ret
    exact ⟨by rw [H.out]; exact ret_boolS (by first | rfl | (simp; done) | (simp; omega)), rfl⟩
  · have hs : safeB c = false := by simp [safeB]; omega
    have H := Lib.hid hs
    clear hs
    have e45 : ((c.toNat : Int) == 45) = false := by simp; omega
    have e95 : ((c.toNat : Int) == 95) = false := by simp; omega
    have e46 : ((c.toNat : Int) == 46) = false := by simp; omega
    have e126 : ((c.toNat : Int) == 126) = false := by simp; omega
    go_enter Tryd.func72, Tryd.ntmps72
    go_wp2
    go_ret
    exact ⟨by rw [H.out]; exact ret_boolS (by first | rfl | (simp; done) | (simp; omega)), rfl⟩

theorem specHex_ok (n : Nat) (hn : n < 16) (w : World) : Calls Tryd.prog 73 #[.int .u8 (n : Int)] w (fun e w' => e = .returned (byteV (Uv.hexD n)) ∧ w = w') := by
  have h := run_hex0 w n hn
  go_enter Tryd.func73, Tryd.ntmps73
  go_wp2
  go_ret
  exact ⟨rfl, rfl⟩

end Go.Proofs.YtcbenidcaaegnaaDoor