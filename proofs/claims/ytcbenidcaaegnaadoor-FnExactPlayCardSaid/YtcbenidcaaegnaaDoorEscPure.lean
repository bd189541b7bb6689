/-
  PLAIN LEAN, NO PROGRAM: texts escaped byte by byte.
-/
import Derived.Test.YtcbenidcaaegnaaDoorPure
namespace Uv

def safeB (c : UInt8) : Bool := (decide (97 ≤ c.toNat) && decide (c.toNat ≤ 122)) || (decide (65 ≤ c.toNat) && decide (c.toNat ≤ 90)) || (decide (48 ≤ c.toNat) && decide (c.toNat ≤ 57)) || decide (c.toNat = 45) || decide (c.toNat = 95) || decide (c.toNat = 46) || decide (c.toNat = 126)
def hexL : List UInt8 := [48, 49, 50, 51, 52, 53, 54, 55, 56, 57, 65, 66, 67, 68, 69, 70]
def hexD (n : Nat) : UInt8 := hexL.getD n 0
def escB (c : UInt8) : Bytes := if safeB c then [c] else if c.toNat = 32 then [43] else [37, hexD (c.toNat / 16), hexD (c.toNat % 16)]
def esc (s : Bytes) : Bytes := s.flatMap escB
/-- how many blanks; how many bytes that become three -/
def spc : Bytes → Nat
  | [] => 0
  | c :: r => (if c.toNat = 32 then 1 else 0) + spc r
def hxc : Bytes → Nat
  | [] => 0
  | c :: r => (if safeB c = false ∧ ¬ c.toNat = 32 then 1 else 0) + hxc r

theorem safe_space {c : UInt8} (h : c.toNat = 32) : safeB c = false := by simp [safeB, h]
theorem esc_nil : esc [] = [] := rfl
theorem esc_cons (c : UInt8) (s : Bytes) : esc (c :: s) = escB c ++ esc s := by simp [esc]
theorem esc_append (s t : Bytes) : esc (s ++ t) = esc s ++ esc t := by simp [esc]
theorem spc_append (s t : Bytes) : spc (s ++ t) = spc s + spc t := by
  induction s with
  | nil => simp [spc]
  | cons c r ih => simp only [List.cons_append, spc, ih]; omega
theorem hxc_append (s t : Bytes) : hxc (s ++ t) = hxc s + hxc t := by
  induction s with
  | nil => simp [hxc]
  | cons c r ih => simp only [List.cons_append, hxc, ih]; omega
theorem length_escB (c : UInt8) : (escB c).length = 1 + 2 * (if safeB c = false ∧ ¬ c.toNat = 32 then 1 else 0) := by
  unfold escB
  by_cases h : safeB c = true
  · simp [h]
  · by_cases h2 : c.toNat = 32
    · simp [h, h2]
    · simp [h, h2]
theorem length_esc (s : Bytes) : (esc s).length = s.length + 2 * hxc s := by
  induction s with
  | nil => rfl
  | cons c r ih =>
    rw [esc_cons, List.length_append, ih, length_escB]
    simp only [List.length_cons, hxc]
    omega
theorem escB_no {c : UInt8} (h : (if safeB c = false ∧ ¬ c.toNat = 32 then 1 else 0) = 0) : escB c = [if c.toNat = 32 then 43 else c] := by
  unfold escB
  by_cases h1 : safeB c = true
  · have : ¬ c.toNat = 32 := fun e => by rw [safe_space e] at h1; cases h1
    simp [h1, this]
  · by_cases h2 : c.toNat = 32
    · simp [h1, h2]
    · simp [h1, h2] at h
theorem esc_plus {s : Bytes} (h : hxc s = 0) : esc s = s.map (fun c => if c.toNat = 32 then 43 else c) := by
  induction s with
  | nil => rfl
  | cons c r ih =>
    simp only [hxc] at h
    rw [esc_cons, ih (by omega), escB_no (by omega)]
    rfl
theorem esc_none {s : Bytes} (h : spc s = 0) (h2 : hxc s = 0) : esc s = s := by
  rw [esc_plus h2]
  induction s with
  | nil => rfl
  | cons c r ih =>
    simp only [spc] at h
    simp only [hxc] at h2
    have hc : ¬ c.toNat = 32 := fun e => by simp [e] at h
    simp only [List.map_cons, hc, if_false]
    rw [ih (by omega) (by omega)]
theorem spc_le (s : Bytes) : spc s ≤ s.length := by
  induction s with
  | nil => simp [spc]
  | cons c r ih => simp only [spc, List.length_cons]; split <;> omega
theorem hxc_le (s : Bytes) : hxc s ≤ s.length := by
  induction s with
  | nil => simp [hxc]
  | cons c r ih => simp only [hxc, List.length_cons]; split <;> omega
theorem take_snoc {α : Type} {s : List α} {i : Nat} (h : i < s.length) : s.take (i + 1) = s.take i ++ [s[i]] := List.take_succ_eq_append_getElem h
theorem spc_take (s : Bytes) (i : Nat) (h : i < s.length) : spc (s.take (i + 1)) = spc (s.take i) + (if s[i].toNat = 32 then 1 else 0) := by
  rw [take_snoc h, spc_append]; simp [spc]
theorem hxc_take (s : Bytes) (i : Nat) (h : i < s.length) : hxc (s.take (i + 1)) = hxc (s.take i) + (if safeB s[i] = false ∧ ¬ s[i].toNat = 32 then 1 else 0) := by
  rw [take_snoc h, hxc_append]; simp [hxc]
theorem esc_take (s : Bytes) (i : Nat) (h : i < s.length) : esc (s.take (i + 1)) = esc (s.take i) ++ escB s[i] := by
  rw [take_snoc h, esc_append]; simp [esc]
end Uv
