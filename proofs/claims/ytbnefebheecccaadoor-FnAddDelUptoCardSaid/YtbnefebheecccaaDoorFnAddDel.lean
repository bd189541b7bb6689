/-
  FnAddDel's walk: where keys, values and texts are of bulk at most 1048576 the law returns true, and writes nothing that was there.
-/
import Derived.Test.YtbnefebheecccaaDoorOpen
import Derived.Test.YtbnefebheecccaaDoorEntries
import Derived.Test.YtbnefebheecccaaDoorLit
import Derived.Test.YtbnefebheecccaaDoorFind
import Derived.Deep.RegionHeld3
namespace Go.Proofs.YtbnefebheecccaaDoor.fnAddDel
open Go.RowKit
open Uv (Bytes Ent KV St Ans vals has del add bulk bulkS bulkT kept plM plA enc)

def gone (k x : Bytes) : List St := [((0 : Int), k, x), ((4 : Int), k, []), ((2 : Int), k, []), ((4 : Int), k, []), ((5 : Int), [], [])]
def told (t : Bytes) : List Ans := [([], false, []), ([], true, []), ([], false, []), ([], false, []), (t, false, [])]
theorem gone_told {m : KV} (hu : Uv.Uniq m) {k : Bytes} (h : has m k = false) (x : Bytes) : plA m (gone k x) = told (enc m) := by
  have e : enc (del (add m k x) k) = enc m := Uv.enc_vals ((hu.addAll k [x]).del k) hu (Uv.vals_add_del h x)
  simp [gone, told, plA, Uv.stA, Uv.stM, Uv.has_del, Uv.has_add, e]

set_option maxRecDepth 100000 in
set_option maxHeartbeats 1000000 in
theorem walk (kv : Value) (ks : List Bytes) (vv : Value) (vss : List (List Bytes)) (k x : Bytes) (w : World) (hk : RStrs All w kv ks) (hv : RTextss All w vv vss)
    (hb : bulkS ks + bulkSS vss + k.length + x.length ≤ 1048576) (hT : Tab w) :
    Calls Tryd.prog 8 #[kv, vv, encStr k, encStr x] w (Ret (.bool true) w) := by
  have hz := Uv.bulk_zip ks bulkSS (fun _ _ => rfl) vss
  obtain ⟨es, hes⟩ : ∃ es, ks.zip vss = es := ⟨_, rfl⟩
  have hN0 : bulk (ks.zip vss) ≤ 4194304 := by omega
  rw [hes] at hz
  have HE := Lib.hid hes
  clear hes
  have HF : Hid (Uv.Fits es (gone k x)) := Lib.hid (Uv.fits_adds (by simp [Uv.addTs, Uv.addT, gone]; omega) (by simp [gone]) (fun s hs => by
    simp only [gone, List.mem_cons, List.not_mem_nil, or_false] at hs
    rcases hs with rfl | rfl | rfl | rfl | rfl <;> simp <;> omega))
  cases hh : has es k with
  | true =>
    have HH := Lib.hid hh
    clear hh
    go_enter Tryd.func8, Tryd.ntmps8
    go_wp2_with fail
    refine (entries_ok All _ _ ks vss _ hk hv hN0).mono ?_
    rw [HE.out]
    rintro e w1 ⟨a1, k1, rfl, o1, c1⟩
    go_wp2_with fail
    refine (specHas_ok _ _ es k _ o1.read).mono ?_
    rw [HH.out]
    rintro e w2 ⟨rfl, c2⟩
    go_wp2
    go_ret
    exact ⟨rfl, c1.trans c2⟩
  | false =>
    have HH := Lib.hid hh
    have HG := Lib.hid (gone_told (Uv.uniq_kept es) (k := k) (by rw [Uv.has_kept]; exact hh) x)
    clear hh
    go_enter Tryd.func8, Tryd.ntmps8
    go_wp2_with fail
    refine (entries_ok All _ _ ks vss _ hk hv hN0).mono ?_
    rw [HE.out]
    rintro e w1 ⟨a1, k1, rfl, o1, c1⟩
    go_wp2_with fail
    refine (specHas_ok _ _ es k _ o1.read).mono ?_
    rw [HH.out]
    rintro e w2 ⟨rfl, c2⟩
    have hA := steps_lit w2 (gone k x) (by simp [gone])
    have hcA : Chg None w2 (w2.alloc (.cells (stFlat (gone k x)).toArray 35)) := (Chg.refl None w2).alloc _
    have o2 := (o1.read.new c2).new hcA
    have c02 := (c1.trans c2).trans hcA
    go_wp2_with fail
    refine (implPlay_fits _ _ _ es _ (gone k x) _ o2 hA (hT.new c02) HF.out).mono ?_
    rw [HG.out]
    rintro e w3 ⟨a3, k3, rfl, hA3, c3⟩
    obtain ⟨t, ht⟩ : ∃ t, enc (kept es) = t := ⟨_, rfl⟩
    have HT := Lib.hid ht
    rw [ht] at hA3 ⊢
    clear ht
    obtain ⟨g, cap, hsh, hcp, hcm, hcs⟩ := hA3.cells (by simp [told])
    obtain ⟨s1, _, p1, _, _⟩ := hcs 1 (by simp [told])
    obtain ⟨s3, _, p2, _, _⟩ := hcs 3 (by simp [told])
    obtain ⟨s4, p3, _, _, _⟩ := hcs 4 (by simp [told])
    injection hsh with hsh1 _ hsh3
    subst hsh1
    subst hsh3
    replace p1 : w3.cell? ⟨g, 4, none⟩ = some (.bool true) := p1
    replace p2 : w3.cell? ⟨g, 10, none⟩ = some (.bool false) := p2
    replace p3 : w3.cell? ⟨g, 12, none⟩ = some (encStr t) := p3
    replace hcp : 5 ≤ k3 := hcp
    unfold maxLen at hcm
    have c03 := c02.trans c3
    have hTd := (hT.new c03).new ((Chg.refl None w3).drew)
    have o3d := (o2.new c3).new ((Chg.refl None w3).drew)
    clear hcs hA3 hA o1 o2 hcA HG HF HH
    have htt : (t == t) = true := by simp
    rw [show (told t).length = 5 from rfl]
    go_wp2
    go_region_held3 (fun w' => w'.cell? ⟨g, 4, none⟩ = some (.bool true) ∧ w'.cell? ⟨g, 10, none⟩ = some (.bool false) ∧ w'.cell? ⟨g, 12, none⟩ = some (encStr t))
      (first | (go_split_ands; exact ⟨by go_keep, by go_keep, by go_keep⟩) | (go_split_ands; exact ⟨c5.cell (by assumption) (fun x => x), c5.cell (by assumption) (fun x => x), c5.cell (by assumption) (fun x => x)⟩))
      (first | (go_at_call 16; refine (implEncode_ok _ _ es _ o3d hTd (by omega)).mono ?_; rw [HT.out]; rintro e w5 ⟨rfl, c5⟩))
    go_wp2
    go_ret
    exact ⟨rfl, (c03.drew).trans c5⟩
end Go.Proofs.YtbnefebheecccaaDoor.fnAddDel
