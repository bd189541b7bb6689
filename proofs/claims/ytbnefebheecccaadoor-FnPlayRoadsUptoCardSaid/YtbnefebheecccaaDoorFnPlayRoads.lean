/-
  FnPlayRoads' walk: where keys, values and texts are of bulk at most 1048576 the law returns true, and writes nothing that was there.
-/
import Derived.Test.YtbnefebheecccaaDoorOpen
import Derived.Test.YtbnefebheecccaaDoorEntries
import Derived.Test.YtbnefebheecccaaDoorLit
import Derived.Test.YtbnefebheecccaaDoorImpl
import Derived.Deep.RegionHeld3
namespace Go.Proofs.YtbnefebheecccaaDoor.fnPlayRoads
open Go.RowKit
open Uv (Bytes Ent KV St Ans vals has del add bulk bulkS bulkT kept plM plA enc)

def asks (k : Bytes) : List St := [((3 : Int), k, []), ((4 : Int), k, []), ((5 : Int), [], [])]
def told (f : Bytes) (b : Bool) (t : Bytes) : List Ans := [(f, false, []), ([], b, []), (t, false, [])]
theorem asks_told (m : KV) (k : Bytes) : plA m (asks k) = told (Uv.hd (vals m k)) (has m k) (enc m) := by
  simp [asks, told, plA, Uv.stA, Uv.stM]

set_option maxRecDepth 100000 in
set_option maxHeartbeats 1000000 in
theorem walk (kv : Value) (ks : List Bytes) (vv : Value) (vss : List (List Bytes)) (k x o : Bytes) (w : World) (hk : RStrs All w kv ks) (hv : RTextss All w vv vss)
    (hb : bulkS ks + bulkSS vss + k.length + x.length + o.length ≤ 1048576) (hT : Tab w) :
    Calls Tryd.prog 4 #[kv, vv, encStr k, encStr x, encStr o] w (Ret (.bool true) w) := by
  have hz := Uv.bulk_zip ks bulkSS (fun _ _ => rfl) vss
  obtain ⟨es, hes⟩ : ∃ es, ks.zip vss = es := ⟨_, rfl⟩
  have hN0 : bulk (ks.zip vss) ≤ 4194304 := by omega
  rw [hes] at hz
  have HE := Lib.hid hes
  clear hes
  have HF : Hid (Uv.Fits es (asks k)) := Lib.hid (Uv.fits_adds (by simp [Uv.addTs, Uv.addT, asks]; omega) (by simp [asks]) (fun s hs => by
    simp only [asks, List.mem_cons, List.not_mem_nil, or_false] at hs
    rcases hs with rfl | rfl | rfl <;> simp <;> omega))
  have HG := Lib.hid (asks_told (kept es) k)
  have HPA : Hid (plM (kept es) [((0 : Int), k, x)] = add (kept es) k x) := by show _ = _; simp [plM, Uv.stM]
  have HPD : Hid (plM (kept es) [((2 : Int), k, ([] : Bytes))] = del (kept es) k) := by show _ = _; simp [plM, Uv.stM]
  have hbA : bulkT [((0 : Int), k, x)] ≤ 3000000 := by simp only [bulkT]; omega
  have hbD : bulkT [((2 : Int), k, ([] : Bytes))] ≤ 2000000 := by simp only [bulkT, List.length_nil]; omega
  go_enter Tryd.func4, Tryd.ntmps4
  go_wp2_with fail
  refine (entries_ok All _ _ ks vss _ hk hv hN0).mono ?_
  rw [HE.out]
  rintro e w1 ⟨a1, k1, rfl, o1, c1⟩
  have hA := steps_lit w1 (asks k) (by simp [asks])
  have hcA : Chg None w1 (w1.alloc (.cells (stFlat (asks k)).toArray 35)) := (Chg.refl None w1).alloc _
  have o2 := o1.read.new hcA
  have c2 := c1.trans hcA
  go_wp2_with fail
  refine (implPlay_fits _ _ _ es _ (asks k) _ o2 hA (hT.new c2) HF.out).mono ?_
  rw [HG.out]
  rintro e w3 ⟨a3, k3, rfl, hA3, c3⟩
  obtain ⟨f, hf⟩ : ∃ f, Uv.hd (vals (kept es) k) = f := ⟨_, rfl⟩
  obtain ⟨b, hbk⟩ : ∃ b, has (kept es) k = b := ⟨_, rfl⟩
  obtain ⟨t, ht⟩ : ∃ t, enc (kept es) = t := ⟨_, rfl⟩
  have HFF := Lib.hid hf
  have HBK := Lib.hid hbk
  have HT := Lib.hid ht
  rw [hf, hbk, ht] at hA3 ⊢
  clear hf hbk ht
  obtain ⟨g, cap, hsh, hcp, hcm, hcs⟩ := hA3.cells (by simp [told])
  obtain ⟨s0, p0, _, _, _⟩ := hcs 0 (by simp [told])
  obtain ⟨s1, _, p1, _, _⟩ := hcs 1 (by simp [told])
  obtain ⟨s2, p2, _, _, _⟩ := hcs 2 (by simp [told])
  injection hsh with hsh1 _ hsh3
  subst hsh1
  subst hsh3
  replace p0 : w3.cell? ⟨g, 0, none⟩ = some (encStr f) := p0
  replace p1 : w3.cell? ⟨g, 4, none⟩ = some (.bool b) := p1
  replace p2 : w3.cell? ⟨g, 6, none⟩ = some (encStr t) := p2
  replace hcp : 3 ≤ k3 := hcp
  unfold maxLen at hcm
  rw [show (told f b t).length = 3 from rfl]
  have c03 := c2.trans c3
  have o3 := o2.new c3
  clear hcs hA3 hA o1 o2 hcA HG HF
  have hA := steps_lit w3 [((0 : Int), k, x)] (by simp)
  have hcA : Chg None w3 (w3.alloc (.cells (stFlat [((0 : Int), k, x)]).toArray 35)) := (Chg.refl None w3).alloc _
  go_wp2_with fail
  refine (held_ok _ _ _ es _ [((0 : Int), k, x)] o _ (o3.new hcA) hA (hT.new (c03.trans hcA)) (by omega)).mono ?_
  rw [HPA.out]
  rintro e w4 ⟨a4, k4, rfl, s4, c4⟩
  have c34 := hcA.trans c4
  go_wp2_with fail
  refine (implAdd_ok _ _ es k x o _ (o3.new c34) (by omega) (by unfold maxLen; omega)).mono ?_
  rintro e w5 ⟨a5, k5, rfl, s5, c5⟩
  have c35 := c34.trans c5
  have s45 := s4.read.new c5
  have s55 := s5.read
  clear s4 s5 hA hcA c34
  generalize vals (add (kept es) k x) o = va at *
  generalize has (add (kept es) k x) o = ba at *
  have hA := steps_lit w5 [((2 : Int), k, ([] : Bytes))] (by simp)
  have hcA : Chg None w5 (w5.alloc (.cells (stFlat [((2 : Int), k, ([] : Bytes))]).toArray 35)) := (Chg.refl None w5).alloc _
  have c36 := c35.trans hcA
  go_wp2_with fail
  refine (held_ok _ _ _ es _ [((2 : Int), k, ([] : Bytes))] o _ (o3.new c36) hA (hT.new (c03.trans c36)) (by omega)).mono ?_
  rw [HPD.out]
  rintro e w7 ⟨a7, k7, rfl, s7, c7⟩
  have c37 := c36.trans c7
  go_wp2_with fail
  refine (implDel_ok _ _ es k o _ (o3.new c37) (by omega) (by unfold maxLen; omega) (by unfold maxLen; omega)).mono ?_
  rintro e w8 ⟨a8, k8, rfl, s8, c8⟩
  have c38 := c37.trans c8
  have c58 := (hcA.trans c7).trans c8
  have s48 := s45.new c58
  have s58 := s55.new c58
  have s78 := s7.read.new c8
  have s88 := s8.read
  replace p0 := c38.cell p0 (fun x => x)
  replace p1 := c38.cell p1 (fun x => x)
  replace p2 := c38.cell p2 (fun x => x)
  have o8 := o3.new c38
  have c08 := c03.trans c38
  clear s7 s8 hA hcA s45 s55 c58 c37 c36 c35 o3 HPA HPD
  generalize vals (del (kept es) k) o = vd at *
  generalize has (del (kept es) k) o = bd at *
  have hd8 : Chg None w8 w8.drew := (Chg.refl None w8).drew
  have o8d := o8.new hd8
  have hT8 := (hT.new c08).new hd8
  have s48d := s48.new hd8
  have s58d := s58.new hd8
  have s78d := s78.new hd8
  have s88d := s88.new hd8
  have hff : (f == f) = true := by simp
  have hbb : (b == b) = true := by simp
  have htt : (t == t) = true := by simp
  have hba : (ba == ba) = true := by simp
  have hbd : (bd == bd) = true := by simp
  have hvo : ValOk es := valOk_of_bulk (by omega)
  have hkm : k.length ≤ maxLen := by unfold maxLen; omega
  clear s48 s58 s78 s88 o8
  have tok : True := trivial
  go_wp2
  go_region_held3 (fun w' => w'.cell? ⟨g, 0, none⟩ = some (encStr f) ∧ w'.cell? ⟨g, 4, none⟩ = some (.bool b) ∧ w'.cell? ⟨g, 6, none⟩ = some (encStr t))
    (first | (go_split_ands; exact ⟨by go_keep, by go_keep, by go_keep⟩) | (go_split_ands; exact ⟨c9.cell (by assumption) (fun x => x), c9.cell (by assumption) (fun x => x), c9.cell (by assumption) (fun x => x)⟩) | (go_split_ands; exact ⟨c10.cell (by assumption) (fun x => x), c10.cell (by assumption) (fun x => x), c10.cell (by assumption) (fun x => x)⟩) | (go_split_ands; exact ⟨c11.cell (by assumption) (fun x => x), c11.cell (by assumption) (fun x => x), c11.cell (by assumption) (fun x => x)⟩) | (go_split_ands; exact ⟨c12.cell (by assumption) (fun x => x), c12.cell (by assumption) (fun x => x), c12.cell (by assumption) (fun x => x)⟩) | (go_split_ands; exact ⟨c13.cell (by assumption) (fun x => x), c13.cell (by assumption) (fun x => x), c13.cell (by assumption) (fun x => x)⟩))
    (first | (go_at_call 22; refine (implGet_ok _ _ es k _ o8d hvo hkm).mono ?_; rw [HFF.out]; rintro e w9 ⟨rfl, c9⟩) | (go_at_call 23; refine (implHas_ok _ _ es k _ (o8d.new c9) hvo hkm).mono ?_; rw [HBK.out]; rintro e w10 ⟨rfl, c10⟩) | (go_at_call 16; refine (implEncode_ok _ _ es _ ((o8d.new c9).new c10) ((hT8.new c9).new c10) (by omega)).mono ?_; rw [HT.out]; rintro e w11 ⟨rfl, c11⟩) | (go_at_call 19; have _t := tok; refine (same_ok _ _ _ _ va va _ (((s48d.new c9).new c10).new c11) (((s58d.new c9).new c10).new c11)).mono ?_; rw [decide_eq_true rfl]; rintro e w12 ⟨rfl, c12⟩; clear tok) | (go_at_call 19; refine (same_ok _ _ _ _ vd vd _ ((((s78d.new c9).new c10).new c11).new c12) ((((s88d.new c9).new c10).new c11).new c12)).mono ?_; rw [decide_eq_true rfl]; rintro e w13 ⟨rfl, c13⟩))
  go_wp2
  go_ret
  exact ⟨rfl, (((((c08.drew).trans c9).trans c10).trans c11).trans c12).trans c13⟩
end Go.Proofs.YtbnefebheecccaaDoor.fnPlayRoads
