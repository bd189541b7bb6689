/-
  FnSetRoads' walk: where keys, values and texts are of bulk at most 1048576 the law returns true, and writes nothing that was there.
-/
import Derived.Test.YtbnefebheecccaaDoorOpen
import Derived.Test.YtbnefebheecccaaDoorEntries
import Derived.Test.YtbnefebheecccaaDoorHeld
namespace Go.Proofs.YtbnefebheecccaaDoor
open Go.RowKit
open Uv (Bytes Ent KV St)
/-- steps, laid as a literal -/
theorem lit_steps (w : World) (ss : List St) (hl : ss.length ≤ 4194304) : RSteps (fun _ => True) (w.alloc (.cells (stFlat ss).toArray 35)) (.slice (some ⟨w.heap.size, 0, none⟩) ss.length ss.length) ss :=
  OSteps.read ⟨World.ownsRow_lit w (stFlat ss).toArray ss.length (Nat.zero_le _) (by unfold maxLen; omega) (by simp [stFlat_len]), fun _ _ => trivial⟩
end Go.Proofs.YtbnefebheecccaaDoor
namespace Go.Proofs.YtbnefebheecccaaDoor.fnSetRoads
open Go.RowKit
open Uv (Bytes Ent KV vals has sett bulk bulkS bulkT kept enc plM)

set_option maxRecDepth 100000 in
set_option maxHeartbeats 1000000 in
theorem walk (kv : Value) (ks : List Bytes) (vv : Value) (vss : List (List Bytes)) (k x o : Bytes) (w : World) (hk : RStrs All w kv ks) (hv : RTextss All w vv vss)
    (hb : bulkS ks + bulkSS vss + k.length + x.length + o.length ≤ 1048576) (hT : Tab w) :
    Calls Tryd.prog 7 #[kv, vv, encStr k, encStr x, encStr o] w (Ret (.bool true) w) := by
  have hz := Uv.bulk_zip ks bulkSS (fun _ _ => rfl) vss
  obtain ⟨es, hes⟩ : ∃ es, ks.zip vss = es := ⟨_, rfl⟩
  have hN0 : bulk (ks.zip vss) ≤ 4194304 := by omega
  rw [hes] at hz
  have HE := Lib.hid hes
  clear hes
  have hbA : bulkT [((1 : Int), k, x)] ≤ 3000000 := by simp only [bulkT]; omega
  have hbB : bulkT [((2 : Int), k, ([] : Bytes)), ((0 : Int), k, x)] ≤ 3000000 := by simp only [bulkT, List.length_nil]; omega
  have HPA : Hid (plM (kept es) [((1 : Int), k, x)] = sett (kept es) k x) := by show _ = _; simp [plM, Uv.stM]
  have HPB : Hid (plM (kept es) [((2 : Int), k, ([] : Bytes)), ((0 : Int), k, x)] = sett (kept es) k x) := by show _ = _; simp [plM, Uv.stM, sett]
  have HH := Lib.hid (Uv.has_sett (kept es) k x o)
  go_enter Tryd.func7, Tryd.ntmps7
  go_wp2_with fail
  refine (entries_ok All _ _ ks vss _ hk hv hN0).mono ?_
  rw [HE.out]
  rintro e w1 ⟨a1, k1, rfl, o1, c1⟩
  have hA := lit_steps w1 [((1 : Int), k, x)] (by simp)
  have hB := lit_steps (w1.alloc (.cells #[.int .i64 1, encStr k, encStr x] 35)) [((2 : Int), k, ([] : Bytes)), ((0 : Int), k, x)] (by simp)
  have hA2 := hA.new ((Chg.refl None _).alloc (.cells (stFlat [((2 : Int), k, ([] : Bytes)), ((0 : Int), k, x)]).toArray 35))
  have hcA : Chg None w1 ((w1.alloc (.cells #[.int .i64 1, encStr k, encStr x] 35)).alloc (.cells (stFlat [((2 : Int), k, ([] : Bytes)), ((0 : Int), k, x)]).toArray 35)) := ((Chg.refl None w1).alloc _).alloc _
  have hz1 : (w1.alloc (.cells #[.int .i64 1, encStr k, encStr x] 35)).heap.size = w1.heap.size + 1 := by simp
  rw [hz1] at hB
  clear hA hz1
  have o2 := o1.read.new hcA
  have c2 := c1.trans hcA
  go_wp2_with fail
  refine (held_ok _ _ _ es _ [((1 : Int), k, x)] o _ o2 hA2 (hT.new c2) (by omega)).mono ?_
  rw [HPA.out]
  rintro e w3 ⟨a3, k3, rfl, s3, c3⟩
  go_wp2_with fail
  refine (held_ok _ _ _ es _ [((2 : Int), k, ([] : Bytes)), ((0 : Int), k, x)] o _ (o2.new c3) (hB.new c3) ((hT.new c2).new c3) (by omega)).mono ?_
  rw [HPB.out]
  rintro e w4 ⟨a4, k4, rfl, s4, c4⟩
  have c14 := (c2.trans c3).trans c4
  have o4 := (o2.new c3).new c4
  have hA4 := (hA2.new c3).new c4
  have hB4 := (hB.new c3).new c4
  have s34 := s3.read.new c4
  have s44 := s4.read
  clear s3 s4 o2 hA2 hB o1 hcA
  generalize vals (sett (kept es) k x) o = vs at *
  generalize hhb : has (sett (kept es) k x) o = hb at *
  clear hhb
  have hbe : (hb == hb) = true := by simp
  go_wp2_with fail
  refine (same_ok _ _ _ _ vs vs _ s34 s44).mono ?_
  rintro e w5 ⟨rfl, c5⟩
  rw [decide_eq_true rfl]
  have c15 := c14.trans c5
  go_wp2_with fail
  refine (encoded_ok _ _ _ es _ [((1 : Int), k, x)] _ (o4.new c5) (hA4.new c5) (hT.new c15) (by omega)).mono ?_
  rw [HPA.out]
  rintro e w6 ⟨rfl, c6⟩
  go_wp2_with fail
  refine (encoded_ok _ _ _ es _ [((2 : Int), k, ([] : Bytes)), ((0 : Int), k, x)] _ ((o4.new c5).new c6) ((hB4.new c5).new c6) ((hT.new c15).new c6) (by omega)).mono ?_
  rw [HPB.out]
  rintro e w7 ⟨rfl, c7⟩
  have hte : (enc (sett (kept es) k x) == enc (sett (kept es) k x)) = true := by simp
  generalize enc (sett (kept es) k x) = t at *
  by_cases hok : o = k
  · have hh : hb = true := by rw [HH.out]; simp [hok]
    subst hh
    have hne : (!o == k) = false := by simp [hok]
    clear hok
    go_wp2
    go_ret
    exact ⟨rfl, (c15.trans c6).trans c7⟩
  · have hne : (!o == k) = true := by simp [hok]
    clear hok
    go_wp2
    go_ret
    exact ⟨rfl, (c15.trans c6).trans c7⟩
end Go.Proofs.YtbnefebheecccaaDoor.fnSetRoads
