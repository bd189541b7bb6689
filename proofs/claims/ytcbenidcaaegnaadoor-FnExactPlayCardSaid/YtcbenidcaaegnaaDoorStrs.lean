/-
  Slices of texts: compared (eqStringS, same).
-/
import Derived.Test.YtcbenidcaaegnaaDoorBase
import Derived.Deep.QuietTactic
import Derived.BigQuiet
import Derived.Outline
namespace Go.Proofs.YtcbenidcaaegnaaDoor
open Go.RowKit
open Uv (Bytes Ent KV)

theorem ret_bool {x y : Bool} (h : x = y) : Ending.returned (.bool x) = .returned (.bool y) := by rw [h]
theorem ret_int {k : IntKind} {a b : Int} (h : a = b) : Ending.returned (.int k a) = .returned (.int k b) := by rw [h]
theorem take_eq_all {α : Type} {ss ts : List α} {k : Nat} (hl : ss.length = ts.length) (hk : ¬ k < ss.length) (h : ss.take k = ts.take k) : ss = ts := by
  rwa [List.take_of_length_le (by omega), List.take_of_length_le (by omega)] at h
theorem take_succ_eq {α : Type} {ss ts : List α} {k : Nat} (h1 : k < ss.length) (h2 : k < ts.length) (h : ss.take k = ts.take k) (e : ss[k] = ts[k]) : ss.take (k + 1) = ts.take (k + 1) := by
  rw [List.take_succ_eq_append_getElem h1, List.take_succ_eq_append_getElem h2, h, e]
theorem ne_of_get {α : Type} {ss ts : List α} {k : Nat} (h1 : k < ss.length) (h2 : k < ts.length) (e : ¬ ss[k] = ts[k]) : ¬ ss = ts := by
  intro h; subst h; exact e rfl

set_option maxHeartbeats 400000 in
theorem eqStringS_ok (F G : Nat → Prop) (v u : Value) (ss ts : List Bytes) (w : World) (hv : RStrs F w v ss) (hu : RStrs G w u ts) :
    Calls Tryd.prog 63 #[v, u] w (Ret (.bool (decide (ss = ts))) w) := by
  obtain ⟨a, ca, rfl, ha1, ha2, ha3⟩ := hv
  obtain ⟨c, cc, rfl, hc1, hc2, hc3⟩ := hu
  unfold maxLen at ha2 hc2
  by_cases hlen : ss.length = ts.length
  · have hne : ((ss.length : Int) != (ts.length : Int)) = false := by simp [hlen]
    have HL := Lib.hid hlen
    clear hlen
    have HA := Lib.hid ha3
    have HC := Lib.hid hc3
    clear ha3 hc3
    go_enter Tryd.func63, Tryd.ntmps63
    go_wp2
    go_loopw [5] (fun i wr => ∃ k : Nat, k ≤ ss.length ∧ i = .int .i64 k ∧ ss.take k = ts.take k ∧ Chg None w wr) (fun i _ => ss.length - (intOf i).toNat)
    case atStart => exact ⟨0, Nat.zero_le _, rfl, by simp, Chg.refl _ _⟩
    case round =>
      obtain ⟨k, hk, rfl, htk, hch⟩ := hrel
      have HT := Lib.hid htk
      clear htk
      by_cases hlt : k < ss.length
      · have hlt2 : k < ts.length := by rw [← HL.out]; exact hlt
        obtain ⟨b, off, rfl, _, hcell⟩ := HA.out k ss[k] (by simp [hlt])
        obtain ⟨b2, off2, rfl, _, hcell2⟩ := HC.out k ts[k] (by simp [hlt2])
        have h1 := hch.cell hcell (fun x => x)
        have h2 := hch.cell hcell2 (fun x => x)
        clear hcell hcell2
        go_wp2
        go_quiet (fail)
        go_wp2
        · have hne2 : (!ss[k] == ts[k]) = true := by assumption
          go_ret
          exact ⟨ret_bool (by simp at hne2; simp [ne_of_get hlt hlt2 hne2]), hch.drewN _⟩
        · have he2 : (!ss[k] == ts[k]) = false := by assumption
          go_roundw
          case rel => exact ⟨k + 1, by omega, by go_num, take_succ_eq hlt hlt2 HT.out (by simpa using he2), hch.drewN _⟩
          case measure => simp [intOf]; omega
      · go_wp2
        go_ret
        exact ⟨ret_bool (by simp [take_eq_all HL.out hlt HT.out]), hch⟩
  · have hne : ((ss.length : Int) != (ts.length : Int)) = true := by simpa using (by omega : ¬ (ss.length : Int) = ts.length)
    have HL := Lib.hid hlen
    clear hlen
    go_enter Tryd.func63, Tryd.ntmps63
    go_wp2
    go_ret
    exact ⟨ret_bool (by simp; intro h; exact HL.out (by rw [h])), Chg.refl _ _⟩

set_option maxHeartbeats 400000 in
theorem same_ok (F G : Nat → Prop) (v u : Value) (ss ts : List Bytes) (w : World) (hv : RStrs F w v ss) (hu : RStrs G w u ts) :
    Calls Tryd.prog 10 #[v, u] w (Ret (.bool (decide (ss = ts))) w) := by
  obtain ⟨a, ca, rfl, ha1, ha2, ha3⟩ := hv
  obtain ⟨c, cc, rfl, hc1, hc2, hc3⟩ := hu
  unfold maxLen at ha2 hc2
  by_cases hlen : ss.length = ts.length
  · have hne : ((ss.length : Int) != (ts.length : Int)) = false := by simp [hlen]
    have HL := Lib.hid hlen
    clear hlen
    have HA := Lib.hid ha3
    have HC := Lib.hid hc3
    clear ha3 hc3
    go_enter Tryd.func10, Tryd.ntmps10
    go_wp2
    go_loopw [13] (fun i wr => ∃ k : Nat, k ≤ ss.length ∧ i = .int .i64 k ∧ ss.take k = ts.take k ∧ Chg None w wr) (fun i _ => ss.length - (intOf i).toNat)
    case atStart => exact ⟨0, Nat.zero_le _, rfl, by simp, Chg.refl _ _⟩
    case round =>
      obtain ⟨k, hk, rfl, htk, hch⟩ := hrel
      have HT := Lib.hid htk
      clear htk
      by_cases hlt : k < ss.length
      · have hlt2 : k < ts.length := by rw [← HL.out]; exact hlt
        obtain ⟨b, off, rfl, _, hcell⟩ := HA.out k ss[k] (by simp [hlt])
        obtain ⟨b2, off2, rfl, _, hcell2⟩ := HC.out k ts[k] (by simp [hlt2])
        have h1 := hch.cell hcell (fun x => x)
        have h2 := hch.cell hcell2 (fun x => x)
        clear hcell hcell2
        go_wp2
        go_quiet (fail)
        go_wp2
        · have hne2 : (!ss[k] == ts[k]) = true := by assumption
          go_ret
          exact ⟨ret_bool (by simp at hne2; simp [ne_of_get hlt hlt2 hne2]), hch.drewN _⟩
        · have he2 : (!ss[k] == ts[k]) = false := by assumption
          go_roundw
          case rel => exact ⟨k + 1, by omega, by go_num, take_succ_eq hlt hlt2 HT.out (by simpa using he2), hch.drewN _⟩
          case measure => simp [intOf]; omega
      · go_wp2
        go_ret
        exact ⟨ret_bool (by simp [take_eq_all HL.out hlt HT.out]), hch⟩
  · have hne : ((ss.length : Int) != (ts.length : Int)) = true := by simpa using (by omega : ¬ (ss.length : Int) = ts.length)
    have HL := Lib.hid hlen
    clear hlen
    go_enter Tryd.func10, Tryd.ntmps10
    go_wp2
    go_ret
    exact ⟨ret_bool (by simp; intro h; exact HL.out (by rw [h])), Chg.refl _ _⟩
end Go.Proofs.YtcbenidcaaegnaaDoor
