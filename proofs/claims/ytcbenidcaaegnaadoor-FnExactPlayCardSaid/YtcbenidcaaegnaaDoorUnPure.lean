/-
  PLAIN LEAN, NO PROGRAM: texts told again from their escaped form.
-/
import Derived.Test.YtcbenidcaaegnaaDoorEscPure
namespace Uv

/-- what a digit of sixteen counts; 16, if it is none -/
def hexV (c : UInt8) : Nat := if 48 ≤ c.toNat ∧ c.toNat ≤ 57 then c.toNat - 48 else if 97 ≤ c.toNat ∧ c.toNat ≤ 102 then c.toNat - 87 else if 65 ≤ c.toNat ∧ c.toNat ≤ 70 then c.toNat - 55 else 16
def two (a b : UInt8) : UInt8 := UInt8.ofNat (16 * hexV a + hexV b)
def one (c : UInt8) : UInt8 := if c.toNat = 43 then 32 else c
def un : Bytes → Option Bytes
  | [] => some []
  | c :: r => if c.toNat = 37 then (match r with | a :: b :: t => if hexV a < 16 ∧ hexV b < 16 then (un t).map (two a b :: ·) else none | _ => none) else (un r).map (one c :: ·)
theorem un_cons (c : UInt8) (r : Bytes) : un (c :: r) = if c.toNat = 37 then (match r with | a :: b :: t => if hexV a < 16 ∧ hexV b < 16 then (un t).map (two a b :: ·) else none | _ => none) else (un r).map (one c :: ·) := by
  rw [un.eq_def]
  rfl
theorem un_not {c : UInt8} (h : ¬ c.toNat = 37) (r : Bytes) : un (c :: r) = (un r).map (one c :: ·) := by rw [un_cons, if_neg h]
theorem un_yes {c : UInt8} (h : c.toNat = 37) (a b : UInt8) (t : Bytes) : un (c :: a :: b :: t) = if hexV a < 16 ∧ hexV b < 16 then (un t).map (two a b :: ·) else none := by rw [un_cons, if_pos h]
def unT (s : Bytes) : Bytes := (un s).getD []

theorem byte_all {p : UInt8 → Prop} (h : ∀ n, n < 256 → p (UInt8.ofNat n)) (c : UInt8) : p c := by
  have := h c.toNat c.toNat_lt
  rwa [UInt8.ofNat_toNat] at this

theorem hexV_hexD : ∀ n, n < 16 → hexV (hexD n) = n := by decide
theorem two_hex (c : UInt8) : two (hexD (c.toNat / 16)) (hexD (c.toNat % 16)) = c := by
  have h := c.toNat_lt
  unfold two
  rw [hexV_hexD _ (by omega), hexV_hexD _ (by omega), Nat.div_add_mod]
  exact UInt8.ofNat_toNat
theorem safe_37 {c : UInt8} (h : safeB c = true) : ¬ c.toNat = 37 ∧ ¬ c.toNat = 43 := by
  constructor <;> (intro e; simp [safeB, e] at h)

theorem un_esc (s : Bytes) : un (esc s) = some s := by
  induction s with
  | nil => rfl
  | cons c r ih =>
    rw [esc_cons]
    unfold escB
    by_cases h1 : safeB c = true
    · have := safe_37 h1
      simp only [h1, if_true, List.singleton_append]
      rw [un_not this.1, ih]
      simp [one, this.2]
    · by_cases h2 : c.toNat = 32
      · have : c = 32 := by rw [← UInt8.toNat_inj]; exact h2
        subst this
        simp only [h1, Bool.false_eq_true, if_false, List.singleton_append, show (32 : UInt8).toNat = 32 from rfl, if_true]
        rw [un_not (by decide), ih]
        rfl
      · have hd : hexV (hexD (c.toNat / 16)) < 16 ∧ hexV (hexD (c.toNat % 16)) < 16 := by
          have h := c.toNat_lt
          rw [hexV_hexD _ (by omega), hexV_hexD _ (by omega)]
          omega
        simp only [h1, h2, Bool.false_eq_true, if_false, List.cons_append, List.nil_append]
        rw [un_yes rfl, if_pos hd, ih, two_hex]
        rfl
theorem unT_esc (s : Bytes) : unT (esc s) = s := by simp [unT, un_esc]

/-! ### what is left from a place on -/
theorem un_end (s : Bytes) (i : Nat) (h : s.length ≤ i) : un (s.drop i) = some [] := by rw [List.drop_eq_nil_of_le h]; rfl
theorem un_plain (s : Bytes) (i : Nat) (h : i < s.length) (h2 : ¬ s[i].toNat = 37) : un (s.drop i) = (un (s.drop (i + 1))).map (one s[i] :: ·) := by
  rw [List.drop_eq_getElem_cons h, un_not h2]
theorem un_pct (s : Bytes) (i : Nat) (h : i + 2 < s.length) (h2 : s[i].toNat = 37) (h3 : hexV s[i + 1] < 16) (h4 : hexV s[i + 2] < 16) : un (s.drop i) = (un (s.drop (i + 3))).map (two s[i + 1] s[i + 2] :: ·) := by
  rw [List.drop_eq_getElem_cons (by omega : i < s.length), List.drop_eq_getElem_cons (by omega : i + 1 < s.length), List.drop_eq_getElem_cons (by omega : i + 1 + 1 < s.length), un_yes h2, if_pos ⟨h3, h4⟩]
theorem un_short (s : Bytes) (i : Nat) (h : i < s.length) (h0 : s.length ≤ i + 2) (h2 : s[i].toNat = 37) : un (s.drop i) = none := by
  rw [List.drop_eq_getElem_cons h, un_cons, if_pos h2]
  have hl : (s.drop (i + 1)).length ≤ 1 := by simp; omega
  generalize s.drop (i + 1) = r at hl
  match r, hl with
  | [], _ => rfl
  | [_], _ => rfl
theorem un_bad (s : Bytes) (i : Nat) (h : i + 2 < s.length) (h2 : s[i].toNat = 37) (h3 : ¬ (hexV s[i + 1] < 16 ∧ hexV s[i + 2] < 16)) : un (s.drop i) = none := by
  rw [List.drop_eq_getElem_cons (by omega : i < s.length), List.drop_eq_getElem_cons (by omega : i + 1 < s.length), List.drop_eq_getElem_cons (by omega : i + 1 + 1 < s.length), un_yes h2, if_neg h3]

/-- p is told of the first i bytes of s -/
def UnTo (s : Bytes) (i : Nat) (p : Bytes) : Prop := un s = (un (s.drop i)).map (p ++ ·)
theorem UnTo.start (s : Bytes) : UnTo s 0 [] := by
  unfold UnTo
  rw [List.drop_zero]
  cases un s <;> rfl
theorem UnTo.next {s : Bytes} {i j : Nat} {p : Bytes} {x : UInt8} (h : UnTo s i p) (h2 : un (s.drop i) = (un (s.drop j)).map (x :: ·)) : UnTo s j (p ++ [x]) := by
  unfold UnTo at *
  rw [h, h2]
  cases un (s.drop j) <;> simp
theorem UnTo.fin {s : Bytes} {i : Nat} {p : Bytes} (h : UnTo s i p) (hi : s.length ≤ i) : un s = some p := by
  unfold UnTo at h
  rw [h, un_end s i hi]
  simp
theorem UnTo.bad {s : Bytes} {i : Nat} {p : Bytes} (h : UnTo s i p) (h2 : un (s.drop i) = none) : un s = none := by
  unfold UnTo at h
  rw [h, h2]
  rfl
/-- where all can be told, it can be told from each place on -/
theorem UnTo.good {s u : Bytes} {i : Nat} {p : Bytes} (h : UnTo s i p) (hu : un s = some u) : un (s.drop i) ≠ none := by
  intro e
  rw [h.bad e] at hu
  cases hu
theorem UnTo.plain {s : Bytes} {i : Nat} {p : Bytes} (h : UnTo s i p) (hi : i < s.length) (h2 : ¬ s[i].toNat = 37) : UnTo s (i + 1) (p ++ [one s[i]]) := h.next (un_plain s i hi h2)
theorem UnTo.pct {s : Bytes} {i : Nat} {p : Bytes} (h : UnTo s i p) (hi : i + 2 < s.length) (h2 : s[i].toNat = 37) (h3 : hexV s[i + 1] < 16) (h4 : hexV s[i + 2] < 16) : UnTo s (i + 3) (p ++ [two s[i + 1] s[i + 2]]) := h.next (un_pct s i hi h2 h3 h4)
/-- a percent sign in what can be told -/
theorem UnTo.well {s u : Bytes} {i : Nat} {p : Bytes} (h : UnTo s i p) (hu : un s = some u) (hi : i < s.length) (h2 : s[i].toNat = 37) : ∃ h : i + 2 < s.length, hexV s[i + 1] < 16 ∧ hexV s[i + 2] < 16 := by
  by_cases h3 : i + 2 < s.length
  · refine ⟨h3, ?_⟩
    exact Classical.byContradiction fun hn => h.good hu (un_bad s i h3 h2 hn)
  · exact absurd (un_short s i hi (by omega) h2) (h.good hu)
theorem length_two (n : Nat) (p : Bytes) (x : UInt8) {i : Nat} (h : i = p.length + 2 * n) : i + 3 = (p ++ [x]).length + 2 * (n + 1) := by simp; omega

/-- nothing of what is escaped would be of moment -/
theorem esc_mem {s : Bytes} {c : UInt8} (h : c ∈ esc s) : safeB c = true ∨ c.toNat = 43 ∨ c.toNat = 37 := by
  unfold esc at h
  rw [List.mem_flatMap] at h
  obtain ⟨x, _, hx⟩ := h
  unfold escB at hx
  by_cases h1 : safeB x = true
  · simp [h1] at hx
    subst hx
    exact .inl h1
  · by_cases h2 : x.toNat = 32
    · simp [h1, h2] at hx
      subst hx
      exact .inr (.inl rfl)
    · simp [h1, h2] at hx
      have hd : ∀ n, n < 16 → safeB (hexD n) = true := by decide
      have h := x.toNat_lt
      rcases hx with rfl | rfl | rfl
      · exact .inr (.inr rfl)
      · exact .inl (hd _ (by omega))
      · exact .inl (hd _ (by omega))
end Uv
