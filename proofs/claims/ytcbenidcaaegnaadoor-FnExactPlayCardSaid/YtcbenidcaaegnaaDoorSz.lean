/-
  How much there is (szStringS, szEntry, szEntryS).
-/
import Derived.Test.YtcbenidcaaegnaaDoorEnts
namespace Go.Proofs.YtcbenidcaaegnaaDoor
open Go.RowKit
open Uv (Bytes Ent KV bulk bulkS lenS szR)

set_option maxHeartbeats 400000 in
theorem szStringS_ok (F : Nat → Prop) (v : Value) (ss : List Bytes) (L : Nat) (w : World) (hv : RStrs F w v ss) (hL : L ≤ 1048576) (hs : ∀ x ∈ ss, x.length ≤ maxLen) :
    Calls Tryd.prog 58 #[v, .int .i64 L] w (Ret (.int .i64 (szR L (bulkS ss))) w) := by
  obtain ⟨a, ca, rfl, ha1, ha2, ha3⟩ := hv
  unfold maxLen at ha2 hs
  have HA := Lib.hid ha3
  have HS := Lib.hid hs
  clear ha3 hs
  by_cases h0 : L < ss.length
  · have hz : szR L (bulkS ss) = -1 := Uv.szR_no (by have := Uv.length_le_bulkS ss; omega)
    have HZ := Lib.hid hz
    clear hz
    go_enter Tryd.func58, Tryd.ntmps58
    go_wp2
    go_ret
    exact ⟨by rw [HZ.out]; rfl, Chg.refl _ _⟩
  · have hb := Uv.bulkS_eq ss
    have HB := Lib.hid hb
    clear hb
    go_enter Tryd.func58, Tryd.ntmps58
    go_wp2
    go_loop [1, 5] (fun l i => ∃ k : Nat, k ≤ ss.length ∧ i = .int .i64 k ∧ ss.length + lenS (ss.take k) ≤ L ∧ l = .int .i64 ((L : Int) - ss.length - lenS (ss.take k))) (fun _ i => ss.length - (intOf i).toNat)
    case atStart => exact ⟨0, Nat.zero_le _, rfl, by simp [lenS]; omega, by simp [lenS]⟩
    case round =>
      obtain ⟨k, hk, rfl, hle, rfl⟩ := hrel
      by_cases hlt : k < ss.length
      · obtain ⟨b, off, rfl, _, hcell⟩ := HA.out k ss[k] (by simp [hlt])
        have hsz := HS.out ss[k] (List.getElem_mem hlt)
        have HT := Lib.hid (Uv.lenS_take_succ ss k hlt)
        have hm := Uv.lenS_take_le ss (k + 1)
        by_cases hn : ss.length + lenS (ss.take k) + ss[k].length ≤ L
        · go_wp2
          go_round
          case rel => exact ⟨k + 1, by omega, by go_num, by rw [HT.out]; omega, by rw [HT.out]; go_num⟩
          case measure => simp [intOf]; omega
        · go_wp2
          go_ret
          refine ⟨ret_int ?_, Chg.refl _ _⟩
          rw [Uv.szR_no (by rw [HB.out]; have := HT.out; omega)]
      · go_wp2
        go_ret
        refine ⟨ret_int ?_, Chg.refl _ _⟩
        rw [List.take_of_length_le (by omega)] at hle ⊢
        rw [Uv.szR_yes (by rw [HB.out]; exact hle), HB.out]
        omega

set_option maxHeartbeats 400000 in
theorem szEntry_ok (F : Nat → Prop) (sv : Value) (e0 : Ent) (L : Nat) (w : World) (hv : RStrs F w sv e0.2) (hL : L ≤ 1048576) (hk : e0.1.length ≤ maxLen) (hs : ∀ x ∈ e0.2, x.length ≤ maxLen) :
    Calls Tryd.prog 27 #[.agg #[encStr e0.1, sv], .int .i64 L] w (Ret (.int .i64 (szR L (e0.1.length + bulkS e0.2))) w) := by
  obtain ⟨a, ca, hsv, -⟩ := id hv
  subst hsv
  have HS := Lib.hid hs
  clear hs
  have hk' := hk
  unfold maxLen at hk'
  by_cases h0 : L < e0.1.length
  · have hz : szR L (e0.1.length + bulkS e0.2) = -1 := Uv.szR_no (by omega)
    have HZ := Lib.hid hz
    clear hz
    go_enter Tryd.func27, Tryd.ntmps27
    go_wp2
    go_ret
    exact ⟨by rw [HZ.out]; rfl, (Chg.refl _ _).alloc _⟩
  · obtain ⟨M, hM⟩ : ∃ M : Nat, L = e0.1.length + M := ⟨L - e0.1.length, by omega⟩
    have hML : M ≤ 1048576 := by omega
    have hi : (L : Int) - (e0.1.length : Int) = (M : Int) := by omega
    have HI := Lib.hid hi
    clear hi
    by_cases h1 : bulkS e0.2 ≤ M
    · have HZ := Lib.hid (Uv.szR_yes h1)
      have HZ2 : Hid (szR L (e0.1.length + bulkS e0.2) = ((M - bulkS e0.2 : Nat) : Int)) := by show _ = _; rw [Uv.szR_yes (by omega)]; omega
      have HM := Lib.hid hM
      clear hM
      go_enter Tryd.func27, Tryd.ntmps27
      go_wp2_with fail
      rw [HI.out]
      refine (szStringS_ok F _ e0.2 M _ (hv.new ((Chg.refl _ _).alloc _)) hML HS.out).mono ?_
      rintro e w1 ⟨rfl, hc⟩
      rw [HZ.out]
      go_wp2
      go_ret
      exact ⟨ret_int (by rw [HZ2.out]), ((Chg.refl _ _).alloc _).trans hc⟩
    · have HZ := Lib.hid (Uv.szR_no (by omega : M < bulkS e0.2))
      have HZ2 : Hid (szR L (e0.1.length + bulkS e0.2) = -1) := Uv.szR_no (by omega)
      have HM := Lib.hid hM
      clear hM
      go_enter Tryd.func27, Tryd.ntmps27
      go_wp2_with fail
      rw [HI.out]
      refine (szStringS_ok F _ e0.2 M _ (hv.new ((Chg.refl _ _).alloc _)) hML HS.out).mono ?_
      rintro e w1 ⟨rfl, hc⟩
      rw [HZ.out]
      go_wp2
      go_ret
      exact ⟨ret_int (by rw [HZ2.out]), ((Chg.refl _ _).alloc _).trans hc⟩

set_option maxHeartbeats 1000000 in
theorem szEntryS_ok (F : Nat → Prop) (v : Value) (es : KV) (L : Nat) (w : World) (hv : REnts F w v es) (hL : L ≤ 1048576) (hs : ∀ e ∈ es, e.1.length ≤ maxLen ∧ ∀ x ∈ e.2, x.length ≤ maxLen) :
    Calls Tryd.prog 11 #[v, .int .i64 L] w (Ret (.int .i64 (szR L (bulk es))) w) := by
  obtain ⟨a, ca, rfl, ha1, ha2, ha3⟩ := hv
  unfold maxLen at ha2
  have HA := Lib.hid ha3
  have HS := Lib.hid hs
  clear ha3 hs
  have hb := Uv.length_le_bulk es
  by_cases h0 : L < es.length
  · have hz : szR L (bulk es) = -1 := Uv.szR_no (by omega)
    have HZ := Lib.hid hz
    clear hz
    go_enter Tryd.func11, Tryd.ntmps11
    go_wp2
    go_ret
    exact ⟨by rw [HZ.out]; rfl, Chg.refl _ _⟩
  · go_enter Tryd.func11, Tryd.ntmps11
    go_wp2
    go_loopw [1, 5] (fun l i wr => ∃ k M : Nat, k ≤ es.length ∧ i = .int .i64 k ∧ l = .int .i64 M ∧ Hid (M + es.length + bulk (es.take k) = L + k) ∧ Chg None w wr) (fun _ i _ => es.length - (intOf i).toNat)
    case atStart =>
      refine ⟨0, L - es.length, Nat.zero_le _, rfl, ?_, ?_, Chg.refl _ _⟩
      · congr 1; omega
      · show _ = _; simp [bulk]; omega
    case round =>
      obtain ⟨k, M, hk, rfl, rfl, HM, hch⟩ := hrel
      by_cases hlt : k < es.length
      · obtain ⟨b, off, sv, rfl, _, hc1, hc2, hr⟩ := HA.out k es[k] (by simp [hlt])
        have hc1 := hch.cell hc1 (fun x => x)
        have hc2 := hch.cell hc2 (fun x => x)
        have hr := hr.new hch
        obtain ⟨a2, cap2, hsv, -⟩ := id hr
        subst hsv
        have hsz := HS.out es[k] (List.getElem_mem hlt)
        have HT := Lib.hid (Uv.bulk_take_succ es k hlt)
        have hm := Uv.bulk_take es (k + 1)
        have hkb : k ≤ bulk (es.take k) := by have := Uv.length_le_bulk (es.take k); simp at this; omega
        have hML : M ≤ 1048576 := by have := HM.out; omega
        by_cases hn : es[k].1.length + bulkS es[k].2 ≤ M
        · have HZ := Lib.hid (Uv.szR_yes hn)
          go_wp2_with fail
          refine (szEntry_ok F _ es[k] M _ hr hML hsz.1 hsz.2).mono ?_
          rintro e w1 ⟨rfl, hc⟩
          rw [HZ.out]
          go_wp2
          go_roundw
          case rel =>
            refine ⟨k + 1, M - (es[k].1.length + bulkS es[k].2), by omega, by go_num, rfl, ?_, hch.trans hc⟩
            show _ = _
            have h1 := HT.out
            have h2 := HM.out
            omega
          case measure => simp [intOf]; omega
        · have HZ := Lib.hid (Uv.szR_no (by omega : M < es[k].1.length + bulkS es[k].2))
          go_wp2_with fail
          refine (szEntry_ok F _ es[k] M _ hr hML hsz.1 hsz.2).mono ?_
          rintro e w1 ⟨rfl, hc⟩
          rw [HZ.out]
          go_wp2
          go_ret
          refine ⟨ret_int ?_, hch.trans hc⟩
          have h1 := HT.out
          have h2 := HM.out
          have hlb : bulk (es.take (k + 1)) + (es.length - (k + 1)) ≤ bulk es := by
            have e1 := Uv.bulk_append (es.take (k + 1)) (es.drop (k + 1))
            rw [List.take_append_drop] at e1
            have e2 := Uv.length_le_bulk (es.drop (k + 1))
            rw [List.length_drop] at e2
            omega
          rw [Uv.szR_no (by omega)]
      · go_wp2
        go_ret
        refine ⟨ret_int ?_, hch⟩
        have h2 := HM.out
        rw [List.take_of_length_le (by omega)] at h2
        rw [Uv.szR_yes (by omega)]
        omega
end Go.Proofs.YtcbenidcaaegnaaDoor
