/-
  FnEncodeEmpty's walk: where keys, values and texts are of bulk at most 1048576 the law returns true, and writes nothing that was there.
-/
import Derived.Test.YtoeilmegjjmnkaaDoorOpen
import Derived.Test.YtoeilmegjjmnkaaDoorEntries
import Derived.Test.YtoeilmegjjmnkaaDoorOneEnt
import Derived.Test.YtoeilmegjjmnkaaDoorEncode
import Derived.Test.YtoeilmegjjmnkaaDoorEncLaw
import Derived.Test.YtoeilmegjjmnkaaDoorImpl
import Derived.Test.YtoeilmegjjmnkaaDoorHEnts
namespace Go.Proofs.YtoeilmegjjmnkaaDoor.fnEncodeEmpty
open Go.RowKit
open Uv (Bytes Ent KV bulk bulkS kept enc joinA esc has)

set_option maxRecDepth 100000 in
set_option maxHeartbeats 1000000 in
theorem walk (kv : Value) (ks : List Bytes) (vv : Value) (vss : List (List Bytes)) (k x : Bytes) (w : World) (hk : RStrs All w kv ks) (hv : RTextss All w vv vss)
    (hb : bulkS ks + bulkSS vss + k.length + x.length ≤ 1048576) (hT : Tab w) : Calls Tryd.prog 8 #[kv, vv, encStr k, encStr x] w (Ret (.bool true) w) := by
  have hz := Uv.bulk_zip ks bulkSS (fun _ _ => rfl) vss
  obtain ⟨es, hes⟩ : ∃ es, ks.zip vss = es := ⟨_, rfl⟩
  have hN0 : bulk (ks.zip vss) ≤ 4194304 := by omega
  rw [hes] at hz
  have HE := Lib.hid hes
  clear hes
  have hln := Uv.length_le_bulk es
  have HN := Lib.hid (Uv.enc_none es k)
  have hbm : bulk (es ++ [(k, [])]) ≤ 4194304 := by rw [Uv.bulk_append]; simp only [bulk, bulkS]; omega
  have hb1 : bulk [(k, [x])] ≤ 4194304 := by simp only [bulk, bulkS]; omega
  have HH : Hid (has (kept (es ++ [(k, [])])) k = true) := by show _ = _; rw [Uv.kept_snoc, Uv.has_addAll]; simp
  have HO : Hid (enc (kept [(k, [x])]) = Uv.part k x) := by show _ = _; rw [kept_one, Uv.enc_one]; simp [joinA, Uv.app]
  obtain ⟨c, r, hcr⟩ := List.exists_cons_of_ne_nil (Uv.part_ne k x)
  have HC := Lib.hid hcr
  clear hcr
  go_enter Tryd.func8, Tryd.ntmps8
  go_wp2_with fail
  refine (entries_ok All _ _ ks vss _ hk hv hN0).mono ?_
  rw [HE.out]
  rintro e w1 ⟨a1, k1, rfl, o1, c1⟩
  have o1r : REnts (fun g => w.heap.size ≤ g ∧ g < w1.heap.size) (w1.alloc (.cells #[] 28)) (.slice a1 es.length k1) es := (o1.read.mono (fun g hg h => ⟨h, hg⟩)).new ((Chg.refl None w1).alloc _)
  obtain ⟨news, svs2, hsl2, hsrc, hnews⟩ := o1r.src
  have HNW := Lib.hid hnews
  have HSL := Lib.hid hsl2
  have c1s := c1.size
  clear hnews hsl2
  have hlit : (w1.alloc (.cells #[] 28)).ownsRow 0 28 2 (.slice (some ⟨w1.heap.size, 0, none⟩) 0 0) 0 [] := World.ownsRow_lit w1 #[] 0 (Nat.zero_le _) (by simp [maxLen]) rfl
  have tok : True := trivial
  go_wp2_with (first | (at_builtin; have _t := tok; refine wpList_app _ elEnt rfl _ _ _ rfl hlit rfl hsrc rfl (by unfold maxLen; omega) (by omega) ?_; rw [Nat.zero_add]; intro a2 k2 w2 hs2 hg2 hl2; obtain ⟨hH2, hn2, hc2⟩ := copy_ents HSL.out HNW.out hs2 rfl rfl hg2 hl2; clear tok hs2 hg2 hl2 hsrc hlit; obtain ⟨xs3, svs3, hsl3, hown3, hvF3, hrows3⟩ := hH2; have HS3 := Lib.hid hsl3; have HR3 := Lib.hid hrows3; clear hsl3 hrows3) | (at_builtin; refine wpList_app _ elEnt rfl _ _ _ rfl (ownsRow_chg hown3 ((Chg.refl None w2).alloc _) (fun _ _ x => x)) rfl (Src.ofSlice _ elEnt.ht ⟨w2.heap.size, 0, none⟩ 1 1 [encStr k, .slice none 0 0] rfl (World.news_of_block (cs := #[encStr k, .slice none 0 0]) (t := 28) (fr := (0, 0)) (heap_alloc_new w2 _)) (by simp [Value.oneCell'])) rfl (by unfold maxLen; omega) (by omega) ?_; intro a4 c4 w4 hs4 hg4 hl4))
  have hE : HEnts (fun g => w.heap.size ≤ g) w4 (.slice a4 (es.length + 1) c4) (es ++ [(k, [])]) := hents_snoc (e := (k, [])) HS3.out hown3 HR3.out (fun g hg => Nat.le_trans c1s (hn2 g hg)) (fun g _ h => h.elim (fun h => h) (fun h => Nat.le_trans c1s h)) (fun g hg => Nat.le_trans c1s (Nat.le_trans hc2.size hg)) ((Chg.refl None w2).alloc _) hg4 hs4 hl4 (RStrs.none _ _)
  have hc4 : Chg None w1 w4 := (hc2.alloc _).then (Chg.ofGrown hg4) (fun i hi e => absurd hi (Nat.not_lt.2 (hn2 i e.symm)))
  have hE' : REnts (fun g => w.heap.size ≤ g) w4 (.slice a4 (es.length + 1) c4) (es ++ [(k, [])]) := hE.read
  have o4 := o1.read.new hc4
  have c14 := c1.trans hc4
  clear hE hs4 hg4 hl4 hown3 HR3 HS3 hvF3 hn2 hc2 HNW HSL o1r o1 c1 hc4
  refine (implEncode_ok _ _ (es ++ [(k, [])]) _ hE' (hT.new c14) hbm).mono ?_
  rw [HN.out]
  rintro e w5 ⟨rfl, c5⟩
  go_wp2_with fail
  refine (implEncode_ok _ _ es _ (o4.new c5) ((hT.new c14).new c5) (by omega)).mono ?_
  rintro e w6 ⟨rfl, c6⟩
  have hbe : (enc (kept es) == enc (kept es)) = true := by simp
  generalize enc (kept es) = t at *
  go_wp2_with fail
  refine (implHas_ok _ _ (es ++ [(k, [])]) k _ ((hE'.new c5).new c6) (valOk_of_bulk hbm) (by unfold maxLen; omega)).mono ?_
  rw [HH.out]
  rintro e w7 ⟨rfl, c7⟩
  have hx1 : RStrs All (w7.alloc (.cells #[encStr x] 9)) (.slice (some ⟨w7.heap.size, 0, none⟩) 1 1) [x] := OStrs.read ⟨World.ownsRow_lit w7 #[encStr x] 1 (Nat.zero_le _) (by simp [maxLen]) rfl, fun _ _ => trivial⟩
  have hE7 := one_ent (k := k) hx1
  have c17 := ((((c14.trans c5).trans c6).trans c7).alloc (.cells #[encStr x] 9)).alloc (.cells #[encStr k, .slice (some ⟨w7.heap.size, 0, none⟩) 1 1] 28)
  have hz7 : (w7.alloc (.cells #[encStr x] 9)).heap.size = w7.heap.size + 1 := by simp
  rw [hz7] at hE7
  clear hz7
  go_wp2_with fail
  refine (implEncode_ok _ _ [(k, [x])] _ hE7 (hT.new c17) hb1).mono ?_
  rw [HO.out, HC.out]
  rintro e w8 ⟨rfl, c8⟩
  go_wp2
  go_ret
  exact ⟨rfl, c17.trans c8⟩
end Go.Proofs.YtoeilmegjjmnkaaDoor.fnEncodeEmpty
