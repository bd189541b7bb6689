/-
  FnAddOther's walk: where keys, values and texts are of bulk at most 1048576 the law returns true, and writes nothing that was there.
-/
import Derived.Test.YtbnefebheecccaaDoorOpen
import Derived.Test.YtbnefebheecccaaDoorEntries
import Derived.Test.YtbnefebheecccaaDoorHeld
import Derived.Test.YtbnefebheecccaaDoorImpl
namespace Go.Proofs.YtbnefebheecccaaDoor.fnAddOther
open Go.RowKit
open Uv (Bytes Ent KV St vals has add bulk bulkS bulkT kept plM)

theorem no_steps (w : World) : RSteps (fun _ => True) w (.slice none 0 0) [] := ⟨_, 0, rfl, Nat.le_refl _, by simp [maxLen], fun i s hs => by simp at hs⟩
theorem no_ents (w : World) : REnts (fun _ => True) w (.slice none 0 0) [] := ⟨_, 0, rfl, Nat.le_refl _, by simp [maxLen], fun i s hs => by simp at hs⟩

set_option maxRecDepth 100000 in
set_option maxHeartbeats 1000000 in
theorem walk (kv : Value) (ks : List Bytes) (vv : Value) (vss : List (List Bytes)) (k x o : Bytes) (w : World) (hk : RStrs All w kv ks) (hv : RTextss All w vv vss)
    (hb : bulkS ks + bulkSS vss + k.length + x.length + o.length ≤ 1048576) (hT : Tab w) :
    Calls Tryd.prog 11 #[kv, vv, encStr k, encStr x, encStr o] w (Ret (.bool true) w) := by
  have hz := Uv.bulk_zip ks bulkSS (fun _ _ => rfl) vss
  obtain ⟨es, hes⟩ : ∃ es, ks.zip vss = es := ⟨_, rfl⟩
  have hN0 : bulk (ks.zip vss) ≤ 4194304 := by omega
  rw [hes] at hz
  have HE := Lib.hid hes
  clear hes
  by_cases hok : o = k
  · have hne : (o == k) = true := by simp [hok]
    clear hok
    go_enter Tryd.func11, Tryd.ntmps11
    go_wp2_with fail
    refine (entries_ok All _ _ ks vss _ hk hv hN0).mono ?_
    rw [HE.out]
    rintro e w1 ⟨a1, k1, rfl, o1, c1⟩
    go_wp2
    go_ret
    exact ⟨rfl, c1⟩
  · have hne : (o == k) = false := by simp [hok]
    have HV : Hid (vals (add (kept es) k x) o = vals (kept es) o) := by show _ = _; rw [Uv.vals_add, if_neg hok]
    have HH : Hid (has (add (kept es) k x) o = has (kept es) o) := by show _ = _; rw [Uv.has_add]; simp [hok]
    have HV2 : Hid (vals (add (kept []) k x) k = [x]) := by show _ = _; rw [Uv.vals_add, if_pos rfl]; simp [kept, Uv.keptFrom, vals, Uv.lk]
    have HH2 : Hid (has (add (kept []) k x) k = true) := by show _ = _; rw [Uv.has_add]; simp
    clear hok
    go_enter Tryd.func11, Tryd.ntmps11
    go_wp2_with fail
    refine (entries_ok All _ _ ks vss _ hk hv hN0).mono ?_
    rw [HE.out]
    rintro e w1 ⟨a1, k1, rfl, o1, c1⟩
    go_wp2_with fail
    refine (held_ok _ _ _ es _ [] o _ o1.read (no_steps _) (hT.new c1) (by simp only [bulkT]; omega)).mono ?_
    rw [show plM (kept es) [] = kept es from rfl]
    rintro e w3 ⟨a3, k3, rfl, s3, c3⟩
    go_wp2_with fail
    refine (implAdd_ok _ _ es k x o _ (o1.read.new c3) (by omega) (by unfold maxLen; omega)).mono ?_
    rw [HV.out, HH.out]
    rintro e w4 ⟨a4, k4, rfl, s4, c4⟩
    go_wp2_with fail
    refine (implAdd_ok _ _ [] k x k _ (no_ents _) (by simp only [bulk]; omega) (by unfold maxLen; omega)).mono ?_
    rw [HV2.out, HH2.out]
    rintro e w5 ⟨a5, k5, rfl, s5, c5⟩
    have s35 := (s3.read.new c4).new c5
    have s45 := s4.read.new c5
    have c15 := ((c1.trans c3).trans c4).trans c5
    generalize vals (kept es) o = vs at *
    generalize has (kept es) o = hb at *
    have hbe : (hb == hb) = true := by simp
    clear s3 s4 HV HH
    go_wp2_with fail
    refine (same_ok _ _ _ _ vs vs _ s45 s35).mono ?_
    rintro e w6 ⟨rfl, c6⟩
    rw [decide_eq_true rfl]
    have hnew : RStrs (fun _ => True) (w6.alloc (.cells #[encStr x] 9)) (.slice (some ⟨w6.heap.size, 0, none⟩) 1 1) [x] :=
      OStrs.read ⟨World.ownsRow_lit w6 #[encStr x] 1 (Nat.zero_le _) (by simp [maxLen]) rfl, fun _ _ => trivial⟩
    have s56 := (s5.read.new c6).new ((Chg.refl None w6).alloc (.cells #[encStr x] 9))
    go_wp2_with fail
    refine (same_ok _ _ _ _ [x] [x] _ s56 hnew).mono ?_
    rintro e w7 ⟨rfl, c7⟩
    rw [decide_eq_true rfl]
    go_wp2
    go_ret
    exact ⟨rfl, ((c15.trans c6).alloc _).trans c7⟩
end Go.Proofs.YtbnefebheecccaaDoor.fnAddOther
