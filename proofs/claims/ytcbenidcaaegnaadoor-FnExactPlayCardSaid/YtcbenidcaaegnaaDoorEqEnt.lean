/-
  Entries compared (eqEntry, eqEntryS).
-/
import Derived.Test.YtcbenidcaaegnaaDoorEnts
import Derived.StillTailTactics
namespace Go.Proofs.YtcbenidcaaegnaaDoor
open Go.RowKit
open Uv (Bytes Ent KV bulk bulkS)

set_option maxHeartbeats 400000 in
theorem eqEntry_ok (F G : Nat → Prop) (sv su : Value) (e f : Ent) (w : World) (hv : RStrs F w sv e.2) (hu : RStrs G w su f.2) :
    Calls Tryd.prog 46 #[.agg #[encStr e.1, sv], .agg #[encStr f.1, su]] w (Ret (.bool (decide (e = f))) w) := by
  obtain ⟨a, ca, hsv, -⟩ := id hv
  subst hsv
  obtain ⟨b, cb, hsu, -⟩ := id hu
  subst hsu
  have hch : Chg None w ((w.alloc (.cells #[encStr e.1, .slice a e.2.length ca] 28)).alloc (.cells #[encStr f.1, .slice b f.2.length cb] 28)) := ((Chg.refl _ _).alloc _).alloc _
  by_cases h1 : e.1 = f.1
  · have hd : decide (e = f) = decide (e.2 = f.2) := by
      obtain ⟨e1, e2⟩ := e
      obtain ⟨f1, f2⟩ := f
      simp at h1
      subst h1
      simp
    have HD := Lib.hid hd
    clear hd
    have ht : (!e.1 == f.1) = false := by simp [h1]
    have H1 := Lib.hid h1
    clear h1
    by_cases h2 : e.2 = f.2
    · have HB := Lib.hid (decide_eq_true h2)
      have H2 := Lib.hid h2
      clear h2
      go_enter Tryd.func46, Tryd.ntmps46
      go_wp2_with (go_at_call 63; refine (eqStringS_ok F G _ _ e.2 f.2 _ (hv.new hch) (hu.new hch)).mono ?_; rintro e1 w1 ⟨rfl, hc1⟩; rw [HB.out])
      go_ret
      exact ⟨by rw [HD.out, HB.out]; rfl, hch.trans hc1⟩
    · have HB := Lib.hid (decide_eq_false h2)
      have H2 := Lib.hid h2
      clear h2
      go_enter Tryd.func46, Tryd.ntmps46
      go_wp2_with (go_at_call 63; refine (eqStringS_ok F G _ _ e.2 f.2 _ (hv.new hch) (hu.new hch)).mono ?_; rintro e1 w1 ⟨rfl, hc1⟩; rw [HB.out])
      go_ret
      exact ⟨by rw [HD.out, HB.out]; rfl, hch.trans hc1⟩
  · have hd : decide (e = f) = false := decide_eq_false (fun h => h1 (by rw [h]))
    have HD := Lib.hid hd
    clear hd
    have ht : (!e.1 == f.1) = true := by simp [h1]
    have H1 := Lib.hid h1
    clear h1
    go_enter Tryd.func46, Tryd.ntmps46
    go_wp2
    go_ret
    exact ⟨by rw [HD.out]; rfl, hch⟩

set_option maxHeartbeats 1000000 in
theorem eqEntryS_ok (F G : Nat → Prop) (v u : Value) (ss ts : KV) (w : World) (hv : REnts F w v ss) (hu : REnts G w u ts) :
    Calls Tryd.prog 18 #[v, u] w (Ret (.bool (decide (ss = ts))) w) := by
  obtain ⟨a, ca, rfl, ha1, ha2, ha3⟩ := hv
  obtain ⟨c, cc, rfl, hc1, hc2, hc3⟩ := hu
  unfold maxLen at ha2 hc2
  by_cases hlen : ss.length = ts.length
  · have hne : ((ss.length : Int) != (ts.length : Int)) = false := by simp [hlen]
    have HL := Lib.hid hlen
    clear hlen
    have HA := Lib.hid ha3
    have HC := Lib.hid hc3
    clear ha3 hc3
    go_enter Tryd.func18, Tryd.ntmps18
    go_wp2
    go_loopw [5] (fun i wr => ∃ k : Nat, k ≤ ss.length ∧ i = .int .i64 k ∧ ss.take k = ts.take k ∧ Chg None w wr) (fun i _ => ss.length - (intOf i).toNat)
    case atStart => exact ⟨0, Nat.zero_le _, rfl, by simp, Chg.refl _ _⟩
    case round =>
      obtain ⟨k, hk, rfl, htk, hch⟩ := hrel
      have HT := Lib.hid htk
      clear htk
      by_cases hlt : k < ss.length
      · have hlt2 : k < ts.length := by rw [← HL.out]; exact hlt
        obtain ⟨b, off, sv, rfl, _, p1, p2, hr⟩ := HA.out k ss[k] (by simp [hlt])
        obtain ⟨b2, off2, su, rfl, _, q1, q2, hq⟩ := HC.out k ts[k] (by simp [hlt2])
        have p1 := hch.cell p1 (fun x => x)
        have p2 := hch.cell p2 (fun x => x)
        have q1 := hch.cell q1 (fun x => x)
        have q2 := hch.cell q2 (fun x => x)
        have hr := (hr.new hch).new ((Chg.refl None wr).drew)
        have hq := (hq.new hch).new ((Chg.refl None wr).drew)
        by_cases he : ss[k] = ts[k]
        · have HB := Lib.hid (decide_eq_true he)
          have HE := Lib.hid he
          clear he
          go_wp2
          go_region_held3 (fun w' => w'.cell? ⟨b, off + k * 2, none⟩ = some (encStr ss[k].1) ∧ w'.cell? ⟨b, off + k * 2 + 1, none⟩ = some sv ∧ w'.cell? ⟨b2, off2 + k * 2, none⟩ = some (encStr ts[k].1) ∧ w'.cell? ⟨b2, off2 + k * 2 + 1, none⟩ = some su)
            (first | (go_split_ands; exact ⟨by go_keep, by go_keep, by go_keep, by go_keep⟩) | (go_split_ands; exact ⟨hc5.cell (by assumption) (fun x => x), hc5.cell (by assumption) (fun x => x), hc5.cell (by assumption) (fun x => x), hc5.cell (by assumption) (fun x => x)⟩))
            (first | (go_at_call 46; refine (eqEntry_ok F G _ _ ss[k] ts[k] _ hr hq).mono ?_; rintro e1 w1 ⟨rfl, hc5⟩; rw [HB.out]))
          go_wp2
          go_roundw
          case rel => exact ⟨k + 1, by omega, by go_num, take_succ_eq hlt hlt2 HT.out HE.out, hch.drew.trans hc5⟩
          case measure => simp [intOf]; omega
        · have HB := Lib.hid (decide_eq_false he)
          have HE := Lib.hid he
          clear he
          go_wp2
          go_region_held3 (fun w' => w'.cell? ⟨b, off + k * 2, none⟩ = some (encStr ss[k].1) ∧ w'.cell? ⟨b, off + k * 2 + 1, none⟩ = some sv ∧ w'.cell? ⟨b2, off2 + k * 2, none⟩ = some (encStr ts[k].1) ∧ w'.cell? ⟨b2, off2 + k * 2 + 1, none⟩ = some su)
            (first | (go_split_ands; exact ⟨by go_keep, by go_keep, by go_keep, by go_keep⟩) | (go_split_ands; exact ⟨hc5.cell (by assumption) (fun x => x), hc5.cell (by assumption) (fun x => x), hc5.cell (by assumption) (fun x => x), hc5.cell (by assumption) (fun x => x)⟩))
            (first | (go_at_call 46; refine (eqEntry_ok F G _ _ ss[k] ts[k] _ hr hq).mono ?_; rintro e1 w1 ⟨rfl, hc5⟩; rw [HB.out]))
          go_wp2
          go_ret
          exact ⟨ret_bool (by simp [ne_of_get hlt hlt2 HE.out]), hch.drew.trans hc5⟩
      · go_wp2
        go_ret
        exact ⟨ret_bool (by simp [take_eq_all HL.out hlt HT.out]), hch⟩
  · have hne : ((ss.length : Int) != (ts.length : Int)) = true := by simpa using (by omega : ¬ (ss.length : Int) = ts.length)
    have HL := Lib.hid hlen
    clear hlen
    go_enter Tryd.func18, Tryd.ntmps18
    go_wp2
    go_ret
    exact ⟨ret_bool (by simp; intro h; exact HL.out (by rw [h])), Chg.refl _ _⟩
end Go.Proofs.YtcbenidcaaegnaaDoor
