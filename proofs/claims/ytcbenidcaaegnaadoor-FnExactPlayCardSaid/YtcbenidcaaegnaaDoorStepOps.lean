/-
  Slices of steps: their size, copies, compared, marked.
-/
import Derived.Test.YtcbenidcaaegnaaDoorSteps
import Derived.Test.YtcbenidcaaegnaaDoorToEnt
import Derived.Test.YtcbenidcaaegnaaDoorSz
import Derived.Test.YtcbenidcaaegnaaDoorMark
import Derived.Deep.RegionHeld3
namespace Go.Proofs.YtcbenidcaaegnaaDoor
open Go.RowKit
open Uv (Bytes St szR bulkT)

/-- how many steps and letters -/
def bulkZ : List St → Nat
  | [] => 0
  | s :: r => s.2.1.length + s.2.2.length + 1 + bulkZ r
theorem bulkZ_append (a b : List St) : bulkZ (a ++ b) = bulkZ a + bulkZ b := by
  induction a with
  | nil => simp [bulkZ]
  | cons x r ih => simp only [List.cons_append, bulkZ, ih]; omega
theorem length_le_bulkZ (a : List St) : a.length ≤ bulkZ a := by
  induction a with
  | nil => simp
  | cons x r ih => simp only [List.length_cons, bulkZ]; omega
theorem bulkZ_take_succ (a : List St) (k : Nat) (h : k < a.length) : bulkZ (a.take (k + 1)) = bulkZ (a.take k) + (a[k].2.1.length + a[k].2.2.length + 1) := by
  rw [List.take_succ_eq_append_getElem h, bulkZ_append]
  simp [bulkZ]
theorem bulkZ_take (a : List St) (n : Nat) : bulkZ (a.take n) ≤ bulkZ a := by
  have := bulkZ_append (a.take n) (a.drop n)
  rw [List.take_append_drop] at this
  omega
theorem bulkT_le (a : List St) : bulkT a ≤ 2 * bulkZ a := by
  induction a with
  | nil => simp [bulkT, bulkZ]
  | cons x r ih => simp only [bulkT, bulkZ]; omega

set_option maxHeartbeats 400000 in
theorem szStep_ok (s : St) (L : Nat) (w : World) (hL : L ≤ 1048576) (hk : s.2.1.length ≤ maxLen) (hx : s.2.2.length ≤ maxLen) :
    Calls Tryd.prog 28 #[.agg #[.int .i64 s.1, encStr s.2.1, encStr s.2.2], .int .i64 L] w (Ret (.int .i64 (szR L (s.2.1.length + s.2.2.length))) w) := by
  obtain ⟨d, k, x⟩ := s
  simp only at hk hx ⊢
  unfold maxLen at hk hx
  by_cases h0 : L < k.length
  · have HZ : Hid (szR L (k.length + x.length) = -1) := Uv.szR_no (by omega)
    go_enter Tryd.func28, Tryd.ntmps28
    go_wp2
    go_ret
    exact ⟨by rw [HZ.out]; rfl, (Chg.refl _ _).alloc _⟩
  · by_cases h1 : L < k.length + x.length
    · have HZ : Hid (szR L (k.length + x.length) = -1) := Uv.szR_no h1
      go_enter Tryd.func28, Tryd.ntmps28
      go_wp2
      go_ret
      exact ⟨by rw [HZ.out]; rfl, (Chg.refl _ _).alloc _⟩
    · have HZ : Hid (szR L (k.length + x.length) = (L : Int) - k.length - x.length) := by show _ = _; rw [Uv.szR_yes (by omega)]; omega
      go_enter Tryd.func28, Tryd.ntmps28
      go_wp2
      go_ret
      exact ⟨by rw [HZ.out]; rfl, (Chg.refl _ _).alloc _⟩

set_option maxHeartbeats 1000000 in
theorem szStepS_ok (F : Nat → Prop) (v : Value) (ss : List St) (L : Nat) (w : World) (hv : RSteps F w v ss) (hL : L ≤ 1048576) (hs : ∀ s ∈ ss, s.2.1.length ≤ maxLen ∧ s.2.2.length ≤ maxLen) :
    Calls Tryd.prog 12 #[v, .int .i64 L] w (Ret (.int .i64 (szR L (bulkZ ss))) w) := by
  obtain ⟨a, ca, rfl, ha1, ha2, ha3⟩ := hv
  unfold maxLen at ha2
  have HA := Lib.hid ha3
  have HS := Lib.hid hs
  clear ha3 hs
  have hb := length_le_bulkZ ss
  by_cases h0 : L < ss.length
  · have HZ : Hid (szR L (bulkZ ss) = -1) := Uv.szR_no (by omega)
    go_enter Tryd.func12, Tryd.ntmps12
    go_wp2
    go_ret
    exact ⟨by rw [HZ.out]; rfl, Chg.refl _ _⟩
  · go_enter Tryd.func12, Tryd.ntmps12
    go_wp2
    go_loopw [1, 5] (fun l i wr => ∃ k M : Nat, k ≤ ss.length ∧ i = .int .i64 k ∧ l = .int .i64 M ∧ Hid (M + ss.length + bulkZ (ss.take k) = L + k) ∧ Chg None w wr) (fun _ i _ => ss.length - (intOf i).toNat)
    case atStart =>
      refine ⟨0, L - ss.length, Nat.zero_le _, rfl, ?_, ?_, Chg.refl _ _⟩
      · congr 1; omega
      · show _ = _; simp [bulkZ]; omega
    case round =>
      obtain ⟨k, M, hk, rfl, rfl, HM, hch⟩ := hrel
      by_cases hlt : k < ss.length
      · obtain ⟨b, off, rfl, _, hc1, hc2, hc3⟩ := HA.out k ss[k] (by simp [hlt])
        have hc1 := hch.cell hc1 (fun x => x)
        have hc2 := hch.cell hc2 (fun x => x)
        have hc3 := hch.cell hc3 (fun x => x)
        have hsz := HS.out ss[k] (List.getElem_mem hlt)
        have HT := Lib.hid (bulkZ_take_succ ss k hlt)
        have hm := bulkZ_take ss (k + 1)
        have hkb : k ≤ bulkZ (ss.take k) := by have := length_le_bulkZ (ss.take k); simp at this; omega
        have hML : M ≤ 1048576 := by have := HM.out; omega
        by_cases hn : ss[k].2.1.length + ss[k].2.2.length ≤ M
        · have HZ := Lib.hid (Uv.szR_yes hn)
          go_wp2_with fail
          refine (szStep_ok ss[k] M _ hML hsz.1 hsz.2).mono ?_
          rintro e w1 ⟨rfl, hc⟩
          rw [HZ.out]
          go_wp2
          go_roundw
          case rel =>
            refine ⟨k + 1, M - (ss[k].2.1.length + ss[k].2.2.length), by omega, by go_num, rfl, ?_, hch.trans hc⟩
            show _ = _
            have h1 := HT.out
            have h2 := HM.out
            omega
          case measure => simp [intOf]; omega
        · have HZ := Lib.hid (Uv.szR_no (by omega : M < ss[k].2.1.length + ss[k].2.2.length))
          go_wp2_with fail
          refine (szStep_ok ss[k] M _ hML hsz.1 hsz.2).mono ?_
          rintro e w1 ⟨rfl, hc⟩
          rw [HZ.out]
          go_wp2
          go_ret
          refine ⟨ret_int ?_, hch.trans hc⟩
          have h1 := HT.out
          have h2 := HM.out
          have hlb : bulkZ (ss.take (k + 1)) + (ss.length - (k + 1)) ≤ bulkZ ss := by
            have e1 := bulkZ_append (ss.take (k + 1)) (ss.drop (k + 1))
            rw [List.take_append_drop] at e1
            have e2 := length_le_bulkZ (ss.drop (k + 1))
            rw [List.length_drop] at e2
            omega
          rw [Uv.szR_no (by omega)]
      · go_wp2
        go_ret
        refine ⟨ret_int ?_, hch⟩
        have h2 := HM.out
        rw [List.take_of_length_le (by omega)] at h2
        rw [Uv.szR_yes (by omega)]
        omega

set_option maxHeartbeats 400000 in
theorem toStep_ok (s : St) (w : World) : Calls Tryd.prog 38 #[.agg #[.int .i64 s.1, encStr s.2.1, encStr s.2.2]] w (Ret (.agg #[.int .i64 s.1, encStr s.2.1, encStr s.2.2]) w) := by
  obtain ⟨d, k, x⟩ := s
  simp only
  go_enter Tryd.func38, Tryd.ntmps38
  go_wp2
  refine bodyPost_ret (v := .agg #[.int .i64 d, encStr k, encStr x]) (by simp [results, Tryd.results38, go_sem]) rfl ?_
  exact ⟨rfl, (((Chg.refl None w).alloc _).alloc _).alloc _⟩

theorem take_set3 {α : Type} {xs : List α} {n : Nat} {a b c : α} (h : n + 2 < xs.length) : (((xs.set n a).set (n + 1) b).set (n + 2) c).take (n + 3) = xs.take n ++ [a, b, c] := by
  apply List.ext_getElem
  · simp; omega
  · intro i h1 h2
    simp only [List.length_take, List.length_set] at h1
    rw [List.getElem_take]
    by_cases h3 : i < n
    · rw [List.getElem_append_left (by simp; omega), List.getElem_take, List.getElem_set_ne (by omega), List.getElem_set_ne (by omega), List.getElem_set_ne (by omega)]
    · rw [List.getElem_append_right (by simp; omega)]
      have hl : (xs.take n).length = n := by simp; omega
      have h4 : i = n ∨ i = n + 1 ∨ i = n + 2 := by omega
      rcases h4 with rfl | rfl | rfl
      · rw [List.getElem_set_ne (by omega), List.getElem_set_ne (by omega), List.getElem_set_self]
        simp [hl]
      · rw [List.getElem_set_ne (by omega), List.getElem_set_self]
        simp [hl]
      · rw [List.getElem_set_self]
        simp [hl]

/-- new steps -/
def NewSteps (ss : List St) (w : World) (e : Ending) (w' : World) : Prop :=
  ∃ a cap, e = .returned (.slice a ss.length cap) ∧ OSteps (fun g => w.heap.size ≤ g) w' (.slice a ss.length cap) ss ∧ Chg None w w'

set_option maxHeartbeats 1000000 in
theorem toStepS_ok (F : Nat → Prop) (v : Value) (ss : List St) (w : World) (hv : RSteps F w v ss) (hN : ss.length ≤ 4194304) :
    Calls Tryd.prog 15 #[v] w (NewSteps ss w) := by
  obtain ⟨a, ca, rfl, ha1, ha2, ha3⟩ := hv
  have HA := Lib.hid ha3
  clear ha3
  have hml : ss.length ≤ maxLen := by omega
  unfold maxLen at ha2
  go_enter Tryd.func15, Tryd.ntmps15
  go_wp2_with (at_make; refine wpList_mk elStep rfl _ _ rfl ss.length rfl rfl (by omega) hml ?_; intro w1 hown hch hsz)
  go_loopw [4] (fun i wr => ∃ k : Nat, k ≤ ss.length ∧ i = .int .i64 k ∧ ∃ xs : List Value, wr.ownsRow 0 61 3 (.slice (some ⟨w.heap.size, 0, none⟩) ss.length ss.length) ss.length xs ∧ Hid (xs.take (k * 3) = stFlat (ss.take k)) ∧ Chg None w wr) (fun i _ => ss.length - (intOf i).toNat)
  case atStart => exact ⟨0, Nat.zero_le _, rfl, _, hown, by show _ = _; simp [stFlat], hch⟩
  case round =>
    clear hown hch hsz
    obtain ⟨k, hk, rfl, xs, hown, HT, hch⟩ := hrel
    by_cases hlt : k < ss.length
    · obtain ⟨b, off, rfl, _, hc1, hc2, hc3⟩ := HA.out k ss[k] (by simp [hlt])
      have hc1 := hch.cell hc1 (fun x => x)
      have hc2 := hch.cell hc2 (fun x => x)
      have hc3 := hch.cell hc3 (fun x => x)
      have HF : Hid (stFlat (ss.take (k + 1)) = stFlat (ss.take k) ++ [.int .i64 ss[k].1, encStr ss[k].2.1, encStr ss[k].2.2]) := by show _ = _; rw [List.take_succ_eq_append_getElem hlt, stFlat_append]; rfl
      generalize ss[k] = s at *
      go_wp2_with (go_at_call 38; refine (toStep_ok s _).mono ?_; rintro e w2 ⟨rfl, hc9⟩; have hown2 := ownsRow_chg hown hc9 (fun _ _ x => x); obtain ⟨o1, p1, p2⟩ := own_cell hown2 (j := k * 3) (by omega); obtain ⟨o2, q1, q2⟩ := own_cell hown2 (j := k * 3 + 1) (by omega); obtain ⟨o3, r1, r2⟩ := own_cell hown2 (j := k * 3 + 2) (by omega))
      have hxl := hown.1
      go_roundw
      case rel =>
        refine ⟨k + 1, by omega, by go_num, _, (((hown2.stored (k * 3) (.int .i64 s.1)).1.stored (k * 3 + 1) (encStr s.2.1)).1.stored (k * 3 + 2) (encStr s.2.2)).1, ?_, ?_⟩
        · show _ = _
          rw [HF.out, ← HT.out, show (k + 1) * 3 = k * 3 + 3 by omega]
          exact take_set3 (by omega)
        · exact (((hch.none hc9).setCell (fun h => absurd h (Nat.lt_irrefl _)) _).setCell (fun h => absurd h (Nat.lt_irrefl _)) _).setCell (fun h => absurd h (Nat.lt_irrefl _)) _
      case measure => simp [intOf]; omega
    · go_wp2
      go_ret
      have hk' : k = ss.length := by omega
      have hxl := hown.1
      have hx : xs = stFlat ss := by
        have := HT.out
        rwa [List.take_of_length_le (by omega), List.take_of_length_le (by omega)] at this
      subst hx
      exact ⟨_, _, rfl, ⟨hown, fun g hg => Nat.le_of_eq (own_new hg).symm⟩, hch⟩

set_option maxHeartbeats 400000 in
theorem eqStep_ok (s : St) (w : World) : Calls Tryd.prog 47 #[.agg #[.int .i64 s.1, encStr s.2.1, encStr s.2.2], .agg #[.int .i64 s.1, encStr s.2.1, encStr s.2.2]] w (Ret (.bool true) w) := by
  obtain ⟨d, k, x⟩ := s
  simp only
  have h1 : (d != d) = false := by simp
  have h2 : (!k == k) = false := by simp
  have h3 : (!x == x) = false := by simp
  go_enter Tryd.func47, Tryd.ntmps47
  go_wp2
  go_ret
  exact ⟨rfl, ((Chg.refl _ _).alloc _).alloc _⟩

set_option maxHeartbeats 1000000 in
/-- the same steps are found equal -/
theorem eqStepS_ok (F G : Nat → Prop) (v u : Value) (ss : List St) (w : World) (hv : RSteps F w v ss) (hu : RSteps G w u ss) :
    Calls Tryd.prog 19 #[v, u] w (Ret (.bool true) w) := by
  obtain ⟨a, ca, rfl, ha1, ha2, ha3⟩ := hv
  obtain ⟨c, cc, rfl, hc1, hc2, hc3⟩ := hu
  unfold maxLen at ha2 hc2
  have hne : ((ss.length : Int) != (ss.length : Int)) = false := by simp
  have HA := Lib.hid ha3
  have HC := Lib.hid hc3
  clear ha3 hc3
  go_enter Tryd.func19, Tryd.ntmps19
  go_wp2
  go_loopw [5] (fun i wr => ∃ k : Nat, k ≤ ss.length ∧ i = .int .i64 k ∧ Chg None w wr) (fun i _ => ss.length - (intOf i).toNat)
  case atStart => exact ⟨0, Nat.zero_le _, rfl, Chg.refl _ _⟩
  case round =>
    obtain ⟨k, hk, rfl, hch⟩ := hrel
    by_cases hlt : k < ss.length
    · obtain ⟨b, off, rfl, _, p1, p2, p3⟩ := HA.out k ss[k] (by simp [hlt])
      obtain ⟨b2, off2, rfl, _, q1, q2, q3⟩ := HC.out k ss[k] (by simp [hlt])
      have p1 := hch.cell p1 (fun x => x)
      have p2 := hch.cell p2 (fun x => x)
      have p3 := hch.cell p3 (fun x => x)
      have q1 := hch.cell q1 (fun x => x)
      have q2 := hch.cell q2 (fun x => x)
      have q3 := hch.cell q3 (fun x => x)
      generalize ss[k] = s at *
      go_wp2
      go_region_held3 (fun w' => w'.cell? ⟨b, off + k * 3, none⟩ = some (.int .i64 s.1) ∧ w'.cell? ⟨b, off + k * 3 + 1, none⟩ = some (encStr s.2.1) ∧ w'.cell? ⟨b, off + k * 3 + 2, none⟩ = some (encStr s.2.2) ∧ w'.cell? ⟨b2, off2 + k * 3, none⟩ = some (.int .i64 s.1) ∧ w'.cell? ⟨b2, off2 + k * 3 + 1, none⟩ = some (encStr s.2.1) ∧ w'.cell? ⟨b2, off2 + k * 3 + 2, none⟩ = some (encStr s.2.2))
        (first | (go_split_ands; exact ⟨by go_keep, by go_keep, by go_keep, by go_keep, by go_keep, by go_keep⟩) | (go_split_ands; exact ⟨hc5.cell (by assumption) (fun x => x), hc5.cell (by assumption) (fun x => x), hc5.cell (by assumption) (fun x => x), hc5.cell (by assumption) (fun x => x), hc5.cell (by assumption) (fun x => x), hc5.cell (by assumption) (fun x => x)⟩))
        (first | (go_at_call 47; refine (eqStep_ok s _).mono ?_; rintro e1 w1 ⟨rfl, hc5⟩))
      go_wp2
      go_roundw
      case rel => exact ⟨k + 1, by omega, by go_num, hch.drew.trans hc5⟩
      case measure => simp [intOf]; omega
    · go_wp2
      go_ret
      exact ⟨rfl, hch⟩

set_option maxHeartbeats 1000000 in
theorem markStepS_ok (F : Nat → Prop) (v : Value) (ss : List St) (k : Nat) (w : World) (hv : OSteps F w v ss) (hk : k + 3 * ss.length ≤ 100000000000000) :
    Calls Tryd.prog 21 #[v, .int .i64 k] w (MarksPost F (k + 3 * ss.length) w) := by
  obtain ⟨hown, hF⟩ := hv
  obtain ⟨a, c, hsh⟩ := ownsRow_shape hown
  subst hsh
  generalize ss.length = n at *
  go_enter Tryd.func21, Tryd.ntmps21
  go_wp2
  go_loopw [1, 5] (fun l i wr => ∃ j : Nat, j ≤ n ∧ i = .int .i64 j ∧ l = .int .i64 ((k + 3 * j : Nat) : Int) ∧ (∃ xs : List Value, wr.ownsRow 0 61 3 (.slice a n c) n xs) ∧ Chg F w wr) (fun _ i _ => n - (intOf i).toNat)
  case atStart => exact ⟨0, Nat.zero_le _, rfl, by simp, ⟨_, hown⟩, Chg.refl _ _⟩
  case round =>
    clear hown
    obtain ⟨j, hj, rfl, rfl, ⟨xs, hown⟩, hch⟩ := hrel
    by_cases hlt : j < n
    · obtain ⟨g, cg, hform, -, hgl⟩ := hown.form (by omega)
      simp only [Value.slice.injEq] at hform
      obtain ⟨rfl, -, rfl⟩ := hform
      have hgF : F g := hF g rfl
      obtain ⟨old, q1, q2⟩ := own_cell hown (j := j * 3) (by omega)
      have ho1 := (hown.stored (j * 3) (.int .i64 ((k : Int) + 3 * (j : Int)))).1
      have cc1 : Chg F w (wr.setCell ⟨g, j * 3, none⟩ (.int .i64 ((k : Int) + 3 * (j : Int)))) := hch.setCell (p := ⟨g, j * 3, none⟩) (fun _ => hgF) _
      have HO1 := Lib.hid ho1
      clear ho1
      go_wp2_with fail
      refine (markText_ok (k + 3 * j + 1) _ (by omega)).mono ?_
      rintro e w1 ⟨rfl, hc1⟩
      have ho2 := ownsRow_chg HO1.out hc1 (fun _ _ x => x)
      obtain ⟨old2, q3, q4⟩ := own_cell ho2 (j := j * 3 + 1) (by omega)
      have ho3 := (ho2.stored (j * 3 + 1) (encStr (mark (k + 3 * j + 1)))).1
      have cc3 : Chg F w (w1.setCell ⟨g, j * 3 + 1, none⟩ (encStr (mark (k + 3 * j + 1)))) := (cc1.none hc1).setCell (p := ⟨g, j * 3 + 1, none⟩) (fun _ => hgF) _
      have HO3 := Lib.hid ho3
      clear ho3 ho2 q1 q2 hown HO1
      go_wp2_with fail
      refine (markText_ok (k + 3 * j + 2) _ (by omega)).mono ?_
      rintro e w2 ⟨rfl, hc2⟩
      have ho4 := ownsRow_chg HO3.out hc2 (fun _ _ x => x)
      obtain ⟨old3, q5, q6⟩ := own_cell ho4 (j := j * 3 + 2) (by omega)
      have ho5 := (ho4.stored (j * 3 + 2) (encStr (mark (k + 3 * j + 2)))).1
      have cc5 : Chg F w (w2.setCell ⟨g, j * 3 + 2, none⟩ (encStr (mark (k + 3 * j + 2)))) := (cc3.none hc2).setCell (p := ⟨g, j * 3 + 2, none⟩) (fun _ => hgF) _
      have HO5 := Lib.hid ho5
      clear ho5 ho4 q3 q4 HO3
      go_wp2
      go_roundw
      case rel => exact ⟨j + 1, by omega, by go_num, by go_num, ⟨_, HO5.out⟩, cc5⟩
      case measure => simp [intOf]; omega
    · obtain rfl : j = n := by omega
      go_wp2
      go_ret
      exact ⟨rfl, hch⟩
end Go.Proofs.YtcbenidcaaegnaaDoor
