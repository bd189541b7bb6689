/-
  FnSetOther's walk: where keys, values and texts are of bulk at most 1048576 the law returns true, and writes nothing that was there.
-/
import Derived.Test.YtbnefebheecccaaDoorOpen
import Derived.Test.YtbnefebheecccaaDoorEntries
import Derived.Test.YtbnefebheecccaaDoorLit
import Derived.Test.YtbnefebheecccaaDoorImpl
namespace Go.Proofs.YtbnefebheecccaaDoor.fnSetOther
open Go.RowKit
open Uv (Bytes Ent KV St vals has sett bulk bulkS bulkT kept plM)

set_option maxRecDepth 100000 in
set_option maxHeartbeats 1000000 in
theorem walk (kv : Value) (ks : List Bytes) (vv : Value) (vss : List (List Bytes)) (k x m y : Bytes) (w : World) (hk : RStrs All w kv ks) (hv : RTextss All w vv vss)
    (hb : bulkS ks + bulkSS vss + k.length + x.length + m.length + y.length ≤ 1048576) (hT : Tab w) :
    Calls Tryd.prog 13 #[kv, vv, encStr k, encStr x, encStr m, encStr y] w (Ret (.bool true) w) := by
  have hz := Uv.bulk_zip ks bulkSS (fun _ _ => rfl) vss
  obtain ⟨es, hes⟩ : ∃ es, ks.zip vss = es := ⟨_, rfl⟩
  have hN0 : bulk (ks.zip vss) ≤ 4194304 := by omega
  rw [hes] at hz
  have HE := Lib.hid hes
  clear hes
  have hbA : bulkT [((1 : Int), k, x), ((1 : Int), m, y)] ≤ 3000000 := by simp only [bulkT]; omega
  have HV : Hid (vals (plM (kept es) [((1 : Int), k, x), ((1 : Int), m, y)]) m = [y]) := by show _ = _; simp [plM, Uv.stM, Uv.vals_sett]
  have HH : Hid (has (plM (kept es) [((1 : Int), k, x), ((1 : Int), m, y)]) m = true) := by show _ = _; simp [plM, Uv.stM, Uv.has_sett]
  go_enter Tryd.func13, Tryd.ntmps13
  go_wp2_with fail
  refine (entries_ok All _ _ ks vss _ hk hv hN0).mono ?_
  rw [HE.out]
  rintro e w1 ⟨a1, k1, rfl, o1, c1⟩
  have hA := steps_lit w1 [((1 : Int), k, x), ((1 : Int), m, y)] (by simp)
  have hcA : Chg None w1 (w1.alloc (.cells (stFlat [((1 : Int), k, x), ((1 : Int), m, y)]).toArray 35)) := (Chg.refl None w1).alloc _
  have o2 := o1.read.new hcA
  have c2 := c1.trans hcA
  go_wp2_with fail
  refine (held_ok _ _ _ es _ [((1 : Int), k, x), ((1 : Int), m, y)] m _ o2 hA (hT.new c2) (by omega)).mono ?_
  rw [HV.out, HH.out]
  rintro e w3 ⟨a3, k3, rfl, s3, c3⟩
  have hnew := text_lit w3 y
  have s3' := s3.read.new ((Chg.refl None w3).alloc (.cells #[encStr y] 9))
  go_wp2_with fail
  refine (same_ok _ _ _ _ [y] [y] _ s3' hnew).mono ?_
  rintro e w4 ⟨rfl, c4⟩
  rw [decide_eq_true rfl]
  have c34 := (c3.alloc (.cells #[encStr y] 9)).trans c4
  have c14 := c2.trans c34
  have o4 := o2.new c34
  clear s3 s3' hnew hA o2 c34 o1
  by_cases hkm : k = m
  · have hne : (k == m) = true := by simp [hkm]
    clear hkm
    go_wp2
    go_ret
    exact ⟨rfl, c14⟩
  · have hne : (k == m) = false := by simp [hkm]
    have hmk : ¬ m = k := fun e => hkm e.symm
    have HV2 : Hid (vals (sett (kept es) k x) m = vals (kept es) m) := by show _ = _; rw [Uv.vals_sett, if_neg hmk]
    have HH2 : Hid (has (sett (kept es) k x) m = has (kept es) m) := by show _ = _; rw [Uv.has_sett]; simp [hmk]
    clear hkm hmk
    go_wp2_with fail
    refine (held_ok _ _ _ es _ [] m _ o4 (steps_nil _) (hT.new c14) (by simp only [bulkT]; omega)).mono ?_
    rw [show plM (kept es) [] = kept es from rfl]
    rintro e w5 ⟨a5, k5, rfl, s5, c5⟩
    go_wp2_with fail
    refine (implSet_ok _ _ es k x m _ (o4.new c5) (by omega) (by unfold maxLen; omega)).mono ?_
    rw [HV2.out, HH2.out]
    rintro e w6 ⟨a6, k6, rfl, s6, c6⟩
    have s56 := s5.read.new c6
    have s66 := s6.read
    have c16 := (c14.trans c5).trans c6
    generalize vals (kept es) m = vs at *
    generalize has (kept es) m = hb at *
    have hbe : (hb == hb) = true := by simp
    clear s5 s6 HV2 HH2
    go_wp2_with fail
    refine (same_ok _ _ _ _ vs vs _ s66 s56).mono ?_
    rintro e w7 ⟨rfl, c7⟩
    rw [decide_eq_true rfl]
    go_wp2
    go_ret
    exact ⟨rfl, c16.trans c7⟩
end Go.Proofs.YtbnefebheecccaaDoor.fnSetOther
