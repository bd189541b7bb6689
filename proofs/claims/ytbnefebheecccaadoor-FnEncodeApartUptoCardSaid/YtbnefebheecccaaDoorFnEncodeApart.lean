/-
  FnEncodeApart's walk: where keys, values and texts are of bulk at most 1048576 the law returns true, and writes nothing that was there.
-/
import Derived.Test.YtbnefebheecccaaDoorOpen
import Derived.Test.YtbnefebheecccaaDoorEntries
import Derived.Test.YtbnefebheecccaaDoorLit
import Derived.Test.YtbnefebheecccaaDoorImpl
import Derived.Test.YtbnefebheecccaaDoorEncode
import Derived.Test.YtbnefebheecccaaDoorCutPure
namespace Go.Proofs.YtbnefebheecccaaDoor.fnEncodeApart
open Go.RowKit
open Uv (Bytes Ent KV St vals has add bulk bulkS bulkT kept plM enc)

set_option maxRecDepth 100000 in
set_option maxHeartbeats 1000000 in
theorem walk (kv : Value) (ks : List Bytes) (vv : Value) (vss : List (List Bytes)) (ov : Value) (oss : List (List Bytes)) (k : Bytes) (w : World) (hk : RStrs All w kv ks) (hv : RTextss All w vv vss) (ho : RTextss All w ov oss)
    (hb : bulkS ks + bulkSS vss + bulkSS oss + k.length ≤ 1048576) (hT : Tab w) :
    Calls Tryd.prog 3 #[kv, vv, ov, encStr k] w (Ret (.bool true) w) := by
  have hz := Uv.bulk_zip ks bulkSS (fun _ _ => rfl) vss
  have hz2 := Uv.bulk_zip ks bulkSS (fun _ _ => rfl) oss
  obtain ⟨es, hes⟩ : ∃ es, ks.zip vss = es := ⟨_, rfl⟩
  obtain ⟨fs, hfs⟩ : ∃ fs, ks.zip oss = fs := ⟨_, rfl⟩
  have hN0 : bulk (ks.zip vss) ≤ 4194304 := by omega
  have hN1 : bulk (ks.zip oss) ≤ 4194304 := by omega
  rw [hes] at hz
  rw [hfs] at hz2
  have HE := Lib.hid hes
  have HF := Lib.hid hfs
  clear hes hfs
  go_enter Tryd.func3, Tryd.ntmps3
  go_wp2_with fail
  refine (entries_ok All _ _ ks vss _ hk hv hN0).mono ?_
  rw [HE.out]
  rintro e w1 ⟨a1, k1, rfl, o1, c1⟩
  go_wp2_with fail
  refine (entries_ok All _ _ ks oss _ (hk.new c1) (ho.new c1) hN1).mono ?_
  rw [HF.out]
  rintro e w2 ⟨a2, k2, rfl, o2, c2⟩
  have c12 := c1.trans c2
  have o1' := o1.read.new c2
  have o2' := o2.read
  clear o1 o2
  go_wp2_with fail
  refine (implEncode_ok _ _ es _ o1' (hT.new c12) (by omega)).mono ?_
  rintro e w3 ⟨rfl, c3⟩
  go_wp2_with fail
  refine (implEncode_ok _ _ fs _ (o2'.new c3) ((hT.new c12).new c3) (by omega)).mono ?_
  rintro e w4 ⟨rfl, c4⟩
  have c14 := (c12.trans c3).trans c4
  have o14 := (o1'.new c3).new c4
  have o24 := (o2'.new c3).new c4
  clear o1' o2'
  by_cases he : enc (kept es) = enc (kept fs)
  · have HQ := Lib.hid (Uv.enc_inj (Uv.uniq_kept es) (Uv.uniq_kept fs) he k)
    have hne : (!enc (kept es) == enc (kept fs)) = false := by simp [he]
    have HL : Hid ((vals (add (kept es) k [120]) k).length = (vals (kept es) k).length + 1) := by show _ = _; rw [Uv.vals_add, if_pos rfl]; simp
    have hvl := Uv.length_vals (kept es) k
    have hbk := Uv.bulk_kept es
    clear he
    generalize enc (kept es) = t1 at *
    generalize enc (kept fs) = t2 at *
    go_wp2_with fail
    refine (held_ok _ _ _ es _ [] k _ o14 (steps_nil _) (hT.new c14) (by simp only [bulkT]; omega)).mono ?_
    rw [show plM (kept es) [] = kept es from rfl]
    rintro e w5 ⟨a5, k5, rfl, s5, c5⟩
    go_wp2_with fail
    refine (held_ok _ _ _ fs _ [] k _ (o24.new c5) (steps_nil _) ((hT.new c14).new c5) (by simp only [bulkT]; omega)).mono ?_
    rw [show plM (kept fs) [] = kept fs from rfl, ← HQ.out]
    rintro e w6 ⟨a6, k6, rfl, s6, c6⟩
    go_wp2_with fail
    refine (implAdd_ok _ _ es k [120] k _ ((o14.new c5).new c6) (by simp; omega) (by unfold maxLen; omega)).mono ?_
    rintro e w7 ⟨a7, k7, rfl, s7, c7⟩
    rw [HL.out]
    have s57 := (s5.read.new c6).new c7
    have s67 := s6.read.new c7
    have c17 := ((c14.trans c5).trans c6).trans c7
    clear s5 s6 s7 HQ HL
    generalize vals (kept es) k = vs at *
    go_wp2_with fail
    refine (same_ok _ _ _ _ vs vs _ s57 s67).mono ?_
    rintro e w8 ⟨rfl, c8⟩
    rw [decide_eq_true rfl]
    have hle : ((vs.length : Int) + 1 == (vs.length : Int) + 1) = true := by simp
    have hle2 : (((vs.length + 1 : Nat) : Int) == (vs.length : Int) + 1) = true := by simp
    go_wp2
    go_ret
    exact ⟨rfl, c17.trans c8⟩
  · have hne : (!enc (kept es) == enc (kept fs)) = true := by simp [he]
    clear he
    go_wp2
    go_ret
    exact ⟨rfl, c14⟩
end Go.Proofs.YtbnefebheecccaaDoor.fnEncodeApart
