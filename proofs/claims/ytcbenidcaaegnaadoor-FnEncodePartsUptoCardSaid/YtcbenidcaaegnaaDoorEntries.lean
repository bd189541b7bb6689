/-
  laws.entries: keys with values as entries.
-/
import Derived.Test.YtcbenidcaaegnaaDoorToEnt
import Derived.Test.YtcbenidcaaegnaaDoorSnoc
import Derived.Deep.AppendLies
namespace Go.Proofs.YtcbenidcaaegnaaDoor
open Go.RowKit
open Uv (Bytes Ent KV bulk bulkS)

set_option maxHeartbeats 1600000 in
theorem entries_ok (F : Nat → Prop) (kv vv : Value) (ks : List Bytes) (vss : List (List Bytes)) (w : World) (hk : RStrs F w kv ks) (hv : RTextss F w vv vss) (hN : bulk (ks.zip vss) ≤ 4194304) :
    Calls Tryd.prog 5 #[kv, vv] w (NewEnts (ks.zip vss) w) := by
  obtain ⟨a, ca, rfl, ha1, ha2, ha3⟩ := hk
  obtain ⟨b, cb, rfl, hb1, hb2, hb3⟩ := hv
  unfold maxLen at ha2 hb2
  have HA := Lib.hid ha3
  have HB := Lib.hid hb3
  clear ha3 hb3
  have hzl : (ks.zip vss).length = min ks.length vss.length := List.length_zip
  have HZ := Lib.hid hzl
  clear hzl
  have hln := Uv.length_le_bulk (ks.zip vss)
  go_enter Tryd.func5, Tryd.ntmps5
  go_wp2
  go_loopw [5, 6] (fun o i wr => ∃ k : Nat, k ≤ (ks.zip vss).length ∧ i = .int .i64 k ∧ OEnts (fun g => w.heap.size ≤ g) wr o ((ks.zip vss).take k) ∧ Chg None w wr) (fun _ i _ => (ks.zip vss).length - (intOf i).toNat)
  case atStart => exact ⟨0, Nat.zero_le _, rfl, OEnts.nil _ _, Chg.refl _ _⟩
  case round =>
    obtain ⟨k, hk, rfl, hO, hch⟩ := hrel
    by_cases hlt : k < (ks.zip vss).length
    · have h1 : k < ks.length := by have := HZ.out; omega
      have h2 : k < vss.length := by have := HZ.out; omega
      obtain ⟨b1, o1, rfl, _, p1⟩ := HA.out k ks[k] (by simp [h1])
      obtain ⟨b2, o2, sv, rfl, _, p2, hr⟩ := HB.out k vss[k] (by simp [h2])
      have hbw1 : b1 < w.heap.size := World.block_lt_of_cell? w _ p1
      have hbw2 : b2 < w.heap.size := World.block_lt_of_cell? w _ p2
      have p1 := hch.cell p1 (fun x => x)
      have p2 := hch.cell p2 (fun x => x)
      have hr := (hr.mono (fun g hg _ => hg) : RStrs (fun g => g < w.heap.size) w sv vss[k]).new hch
      have hel : (ks.zip vss)[k] = (ks[k], vss[k]) := by simp
      have hbl := Uv.mem_le_bulk (List.getElem_mem hlt)
      rw [hel] at hbl
      have hvl := Uv.length_le_bulkS vss[k]
      have HE := Lib.hid hel
      clear hel
      obtain ⟨a2, cap2, hsv, -⟩ := id hr
      subst hsv
      obtain ⟨ao, co, ho⟩ := hO.shape
      subst ho
      have HM : Hid ((ks.zip vss).take (k + 1) = (ks.zip vss).take k ++ [(ks[k], vss[k])]) := by show _ = _; rw [List.take_succ_eq_append_getElem hlt, HE.out]
      have hml : ((ks.zip vss).take k).length ≤ k := by simp; omega
      obtain ⟨xs, svs, hsl, hown, hvF, hlie, hap⟩ := hO
      have HSL := Lib.hid hsl
      clear hsl
      generalize (ks.zip vss).take k = m at *
      have d1 : decide ((k : Int) < (ks.length : Int)) = true := by simp; omega
      go_wp2
      have hr1 := hr.new (((Chg.refl None wr).drew).alloc (.cells #[] 9))
      go_region_held3 (fun w' => w'.cell? ⟨b1, o1 + k, none⟩ = some (encStr ks[k]) ∧ w'.cell? ⟨b2, o2 + k, none⟩ = some (.slice a2 vss[k].length cap2))
        (first | (go_split_ands; exact ⟨by go_keep, by go_keep⟩) | (go_split_ands; exact ⟨(Chg.ofGrown hg4).cell (by assumption) (fun e => Nat.not_le.2 hbw1 (hvF b1 e.symm)), (Chg.ofGrown hg4).cell (by assumption) (fun e => Nat.not_le.2 hbw2 (hvF b2 e.symm))⟩) | (go_split_ands; exact ⟨(Chg.ofGrown hg3).cell (by assumption) (fun e => by have : b1 = wr.heap.size := own_new e.symm; have := hch.size; omega), (Chg.ofGrown hg3).cell (by assumption) (fun e => by have : b2 = wr.heap.size := own_new e.symm; have := hch.size; omega)⟩))
        (first | (refine step_app _ elStr rfl _ _ _ rfl (World.ownsRow_lit wr.drew #[] 0 (Nat.zero_le _) (by simp [maxLen]) rfl) rfl hr1.src rfl (by unfold maxLen; omega) (by omega) ?_; rw [Nat.zero_add]; intro a3 c3 w3 hs3 hg3 hl3; have hc3 : Chg None wr w3 := ((Chg.refl None wr).drew.alloc _).then (Chg.ofGrown hg3) (fun i hi e => Nat.ne_of_lt hi (own_new e.symm))) | (refine step_app _ elEnt rfl _ _ _ rfl (ownsRow_chg hown (hc3.alloc _) (fun _ _ x => x)) rfl (Src.ofSlice _ elEnt.ht ⟨w3.heap.size, 0, none⟩ 1 1 [encStr ks[k], .slice a3 vss[k].length c3] rfl (World.news_of_block (cs := #[encStr ks[k], .slice a3 vss[k].length c3]) (t := 28) (fr := (0, 0)) (heap_alloc_new w3 _)) (by simp [Value.oneCell'])) rfl (by unfold maxLen; omega) (by omega) ?_; intro a4 c4 w4 hs4 hg4 hl4))
      go_wp2
      have hs3' : OStrs (fun g => wr.heap.size ≤ g) w3 (.slice a3 vss[k].length c3) vss[k] := by
        refine ⟨by simpa using hs3, fun g hg => ?_⟩
        rcases hl3 with h | h
        · rw [h] at hg
          exact Nat.le_of_eq (own_new hg : g = wr.heap.size).symm
        · rw [h] at hg
          injection hg with hg
          have e1 : wr.heap.size + 1 = g := by simpa using hg
          omega
      go_roundw
      case rel =>
        refine ⟨k + 1, by omega, by go_num, ?_, ?_⟩
        · rw [HM.out]
          exact oents_snoc (e := (ks[k], vss[k])) HSL.out hown hvF hlie hap (hc3.alloc _) hg4 hs4 hl4 (hs3'.kept ((Chg.refl None _).alloc _) (fun _ _ x => x)) (fun g hg => Nat.le_trans hch.size hg)
        · exact (hch.none (hc3.alloc _)).then (Chg.ofGrown hg4) (fun i hi e => absurd hi (Nat.not_lt.2 (hvF i e.symm)))
      case measure => simp [intOf]; omega
    · rw [List.take_of_length_le (by omega)] at hO
      obtain ⟨ao, co, ho⟩ := hO.shape
      subst ho
      by_cases h1 : k < ks.length
      · have h2 : ¬ k < vss.length := by have := HZ.out; omega
        have d1 : decide ((k : Int) < (ks.length : Int)) = true := by simp; omega
        have d2 : decide ((k : Int) < (vss.length : Int)) = false := by simp; omega
        go_wp2
        go_ret
        exact ⟨_, _, rfl, hO, hch⟩
      · have d1 : decide ((k : Int) < (ks.length : Int)) = false := by simp; omega
        go_wp2
        go_ret
        exact ⟨_, _, rfl, hO, hch⟩
end Go.Proofs.YtcbenidcaaegnaaDoor
