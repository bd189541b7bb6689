/-
  FnDelGone's walk: where keys, values and texts are of bulk at most 1048576 the law returns true, and writes nothing that was there.
-/
import Derived.Test.YtbnefebheecccaaDoorOpen
import Derived.Test.YtbnefebheecccaaDoorEntries
import Derived.Test.YtbnefebheecccaaDoorLit
import Derived.Test.YtbnefebheecccaaDoorImpl
namespace Go.Proofs.YtbnefebheecccaaDoor.fnDelGone
open Go.RowKit
open Uv (Bytes Ent KV St Ans vals has del bulk bulkS bulkT kept plM plA enc)

def gone (k : Bytes) : List St := [((2 : Int), k, []), ((3 : Int), k, []), ((4 : Int), k, []), ((6 : Int), k, []), ((5 : Int), [], []), ((2 : Int), k, []), ((5 : Int), [], [])]
def told (t : Bytes) : List Ans := [([], false, []), ([], false, []), ([], false, []), ([], false, []), (t, false, []), ([], false, []), (t, false, [])]
theorem gone_told (m : KV) (k : Bytes) : plA m (gone k) = told (enc (del m k)) := by
  simp [gone, told, plA, Uv.stA, Uv.stM, Uv.vals_del, Uv.has_del, Uv.hd, Uv.del_del]

set_option maxRecDepth 100000 in
set_option maxHeartbeats 1000000 in
theorem walk (kv : Value) (ks : List Bytes) (vv : Value) (vss : List (List Bytes)) (k o : Bytes) (w : World) (hk : RStrs All w kv ks) (hv : RTextss All w vv vss)
    (hb : bulkS ks + bulkSS vss + k.length + o.length ≤ 1048576) (hT : Tab w) :
    Calls Tryd.prog 12 #[kv, vv, encStr k, encStr o] w (Ret (.bool true) w) := by
  have hz := Uv.bulk_zip ks bulkSS (fun _ _ => rfl) vss
  obtain ⟨es, hes⟩ : ∃ es, ks.zip vss = es := ⟨_, rfl⟩
  have hN0 : bulk (ks.zip vss) ≤ 4194304 := by omega
  rw [hes] at hz
  have HE := Lib.hid hes
  clear hes
  have HF : Hid (Uv.Fits es (gone k)) := Lib.hid (Uv.fits_adds (by simp [Uv.addTs, Uv.addT, gone]; omega) (by simp [gone]) (fun s hs => by
    simp only [gone, List.mem_cons, List.not_mem_nil, or_false] at hs
    rcases hs with rfl | rfl | rfl | rfl | rfl | rfl | rfl <;> simp <;> omega))
  have HG := Lib.hid (gone_told (kept es) k)
  go_enter Tryd.func12, Tryd.ntmps12
  go_wp2_with fail
  refine (entries_ok All _ _ ks vss _ hk hv hN0).mono ?_
  rw [HE.out]
  rintro e w1 ⟨a1, k1, rfl, o1, c1⟩
  have hA := steps_lit w1 (gone k) (by simp [gone])
  have hcA : Chg None w1 (w1.alloc (.cells (stFlat (gone k)).toArray 35)) := (Chg.refl None w1).alloc _
  have o2 := o1.read.new hcA
  have c2 := c1.trans hcA
  go_wp2_with fail
  refine (implPlay_fits _ _ _ es _ (gone k) _ o2 hA (hT.new c2) HF.out).mono ?_
  rw [HG.out]
  rintro e w3 ⟨a3, k3, rfl, hA3, c3⟩
  generalize enc (del (kept es) k) = t at *
  obtain ⟨g, cap, hsh, hcp, hcm, hcs⟩ := hA3.cells (by simp [told])
  obtain ⟨s1, p1, _, _, _⟩ := hcs 1 (by simp [told])
  obtain ⟨s2, _, p2, _, _⟩ := hcs 2 (by simp [told])
  obtain ⟨s3, _, p3, p4, hs3⟩ := hcs 3 (by simp [told])
  obtain ⟨s4, p5, _, _, _⟩ := hcs 4 (by simp [told])
  obtain ⟨s6, p6, _, _, _⟩ := hcs 6 (by simp [told])
  obtain ⟨sa, sc, hss⟩ := ownsRow_shape hs3.1
  subst hss
  injection hsh with hsh1 _ hsh3
  subst hsh1
  subst hsh3
  replace p1 : w3.cell? ⟨g, 3, none⟩ = some (encStr []) := p1
  replace p2 : w3.cell? ⟨g, 7, none⟩ = some (.bool false) := p2
  replace p3 : w3.cell? ⟨g, 10, none⟩ = some (.bool false) := p3
  replace p4 : w3.cell? ⟨g, 11, none⟩ = some (.slice sa 0 sc) := p4
  replace p5 : w3.cell? ⟨g, 12, none⟩ = some (encStr t) := p5
  replace p6 : w3.cell? ⟨g, 18, none⟩ = some (encStr t) := p6
  replace hcp : 7 ≤ k3 := hcp
  unfold maxLen at hcm
  have c03 := c2.trans c3
  have o3 := o2.new c3
  clear hcs hs3 hA3 hA o1 o2 hcA HG HF
  have htt : (!t == t) = false := by simp
  rw [show (told t).length = 7 from rfl]
  by_cases hko : k = o
  · have hne : (k == o) = true := by simp [hko]
    clear hko
    go_wp2
    go_quiet (fail)
    go_wp2
    go_ret
    exact ⟨rfl, c03.drewN _⟩
  · have hne : (k == o) = false := by simp [hko]
    have hok : ¬ o = k := fun e => hko e.symm
    have HV : Hid (vals (del (kept es) k) o = vals (kept es) o) := by show _ = _; rw [Uv.vals_del, if_neg hok]
    have HH : Hid (has (del (kept es) k) o = has (kept es) o) := by show _ = _; rw [Uv.has_del]; simp [hok]
    clear hko hok
    go_wp2
    go_quiet (fail)
    go_wp2_with fail
    refine (held_ok _ _ _ es _ [] o _ (o3.new ((Chg.refl None w3).drewN _)) (steps_nil _) ((hT.new c03).new ((Chg.refl None w3).drewN _)) (by simp only [bulkT]; omega)).mono ?_
    rw [show plM (kept es) [] = kept es from rfl]
    rintro e w5 ⟨a5, k5, rfl, s5, c5⟩
    have c35 := ((Chg.refl None w3).drewN _).trans c5
    clear p1 p2 p3 p4 p5 p6
    go_wp2_with fail
    refine (implDel_ok _ _ es k o _ (o3.new c35) (by omega) (by unfold maxLen; omega) (by unfold maxLen; omega)).mono ?_
    rw [HV.out, HH.out]
    rintro e w6 ⟨a6, k6, rfl, s6, c6⟩
    have s56 := s5.read.new c6
    have s66 := s6.read
    have c06 := (c03.trans c35).trans c6
    generalize vals (kept es) o = vs at *
    generalize has (kept es) o = hb at *
    have hbe : (hb == hb) = true := by simp
    clear s5 s6 HV HH
    go_wp2_with fail
    refine (same_ok _ _ _ _ vs vs _ s66 s56).mono ?_
    rintro e w7 ⟨rfl, c7⟩
    rw [decide_eq_true rfl]
    go_wp2
    go_ret
    exact ⟨rfl, c06.trans c7⟩
end Go.Proofs.YtbnefebheecccaaDoor.fnDelGone
