/-
  FnPlayReads' walk: where keys, values and texts are of bulk at most 1048576 the law returns true, and writes nothing that was there.
-/
import Derived.Test.YtbnefebheecccaaDoorOpenB
import Derived.Test.YtbnefebheecccaaDoorEntries
import Derived.Test.YtbnefebheecccaaDoorLit
namespace Go.Proofs.YtbnefebheecccaaDoor.fnPlayReads
open Go.RowKit
open Uv (Bytes Ent KV St vals has bulk bulkS bulkT kept plM plA enc)

def rd (key : Bytes) (c : UInt8) : St := (3 + (c.toNat : Int) % 4, key, [])
theorem rd_reads (key : Bytes) (c : UInt8) : Uv.Reads (rd key c) := by
  unfold Uv.Reads rd
  simp only
  omega

set_option maxRecDepth 100000 in
set_option maxHeartbeats 1000000 in
theorem walk (kv : Value) (ks : List Bytes) (vv : Value) (vss : List (List Bytes)) (k : Bytes) (bv : Value) (l : Bytes) (w : World) (hk : RStrs All w kv ks) (hv : RTextss All w vv vss) (hl : RBytes All w bv l)
    (hb : bulkS ks + bulkSS vss + k.length ≤ 1048576) (hT : Tab w) :
    Calls Tryd.prog 10 #[kv, vv, encStr k, bv] w (Ret (.bool true) w) := by
  have hz := Uv.bulk_zip ks bulkSS (fun _ _ => rfl) vss
  obtain ⟨es, hes⟩ : ∃ es, ks.zip vss = es := ⟨_, rfl⟩
  have hN0 : bulk (ks.zip vss) ≤ 4194304 := by omega
  rw [hes] at hz
  have HE := Lib.hid hes
  clear hes
  obtain ⟨a, cap, rfl, h1, h2, h3⟩ := hl
  unfold maxLen at h2
  have H3 := Lib.hid h3
  clear h3
  by_cases hbig : 100 < l.length
  · go_enter Tryd.func10, Tryd.ntmps10
    go_wp2
    go_ret
    exact ⟨rfl, Chg.refl _ _⟩
  · go_enter Tryd.func10, Tryd.ntmps10
    go_wp2_with fail
    refine (entries_ok All _ _ ks vss _ hk hv hN0).mono ?_
    rw [HE.out]
    rintro e w1 ⟨a1, k1, rfl, o1, c1⟩
    go_wp2
    go_loopw [10, 26] (fun o iv wr => ∃ i : Nat, i ≤ l.length ∧ iv = .int .i64 i ∧ OSteps (fun g => w1.heap.size ≤ g) wr o ((l.take i).map (rd k)) ∧ Chg None w1 wr) (fun _ iv _ => l.length - (intOf iv).toNat)
    case atStart => exact ⟨0, Nat.zero_le _, rfl, ⟨World.ownsRow_nil _ _ _ _, fun g h => by simp [Value.ownBlock] at h⟩, Chg.refl _ _⟩
    case round =>
      obtain ⟨i, hi, rfl, hO, hch⟩ := hrel
      by_cases hlt : i < l.length
      · obtain ⟨b, off, rfl, _, hc⟩ := H3.out i l[i] (by simp [hlt])
        have hc := (c1.trans hch).cell hc (fun x => x)
        have HS : Hid ((l.take (i + 1)).map (rd k) = (l.take i).map (rd k) ++ [(3 + (l[i].toNat : Int) % 4, k, [])]) := by show _ = _; rw [List.take_succ_eq_append_getElem hlt, List.map_append]; rfl
        have hsl : ((l.take i).map (rd k)).length ≤ 100 := by simp; omega
        obtain ⟨ao, co, ho⟩ := ownsRow_shape hO.1
        subst ho
        generalize (l.take i).map (rd k) = ss at *
        have h256 := l[i].toNat_lt
        generalize l[i] = c at *
        go_wp2_with (at_builtin; refine wpList_app _ elStep rfl _ _ _ rfl (ownsRow_chg hO.1 ((Chg.refl None wr).alloc _) (fun _ _ x => x)) rfl (Src.ofSlice _ elStep.ht ⟨wr.heap.size, 0, none⟩ 1 1 [.int .i64 (3 + (c.toNat : Int) % 4), encStr k, encStr []] rfl (World.news_of_block (cs := #[.int .i64 (3 + (c.toNat : Int) % 4), encStr k, encStr []]) (t := 35) (fr := (0, 0)) (heap_alloc_new wr _)) (by simp [Value.oneCell'])) rfl (by unfold maxLen; omega) (by omega) ?_; intro a3 c3 w3 hs3 hg3 hl3; obtain ⟨hO3, hc3⟩ := steps_app (k := [(3 + (c.toNat : Int) % 4, k, [])]) hO ((Chg.refl None wr).alloc _) (by have := hch.size; simp; omega) hs3 (by simp) (by rw [stFlat_append]; rfl) hl3 hg3; clear hs3 hg3 hl3)
        go_roundw
        case rel => exact ⟨i + 1, by omega, by go_num, by rw [HS.out]; exact hO3, hch.then hc3 (fun i hi e => by omega)⟩
        case measure => simp [intOf]; omega
      · obtain rfl : i = l.length := by omega
        rw [List.take_of_length_le (Nat.le_refl _)] at hO
        have hR : ∀ s ∈ l.map (rd k), Uv.Reads s := fun s hs => by obtain ⟨c, _, rfl⟩ := List.mem_map.1 hs; exact rd_reads k c
        have hK : ∀ s ∈ l.map (rd k), s.2.1.length ≤ 4194304 := fun s hs => by obtain ⟨c, _, rfl⟩ := List.mem_map.1 hs; show k.length ≤ 4194304; omega
        have hsl : (l.map (rd k)).length ≤ 100 := by simp; omega
        obtain ⟨ao, co, ho⟩ := ownsRow_shape hO.1
        subst ho
        generalize l.map (rd k) = ss at *
        have HP := Lib.hid (Uv.plM_reads (m := kept es) hR)
        have HF := Lib.hid (Uv.fits_reads (es := es) (by omega) (by omega) hR hK)
        have HF6 := Lib.hid (Uv.fits_snoc (s := Uv.ask k) HF.out (by omega) (Uv.reads_ask k) (by show k.length ≤ 4194304; omega))
        have HF5 := Lib.hid (Uv.fits_snoc (s := Uv.ask5) HF.out (by omega) Uv.reads_ask5 (by show ([] : Bytes).length ≤ 4194304; simp))
        have HAL := Lib.hid (Uv.length_plA (kept es) ss)
        have c0r := c1.trans hch
        have o2 := o1.read.new hch
        have hSt := hO.read
        clear hR hK hO o1 hch
        go_wp2_with fail
        refine (held_fits _ _ _ es _ ss k _ o2 hSt (hT.new c0r) HF6.out).mono ?_
        rw [HP.out]
        rintro e w3 ⟨a3, k3, rfl, s3, c3⟩
        go_wp2_with fail
        refine (held_ok _ _ _ es _ [] k _ (o2.new c3) (steps_nil _) ((hT.new c0r).new c3) (by simp only [bulkT]; omega)).mono ?_
        rw [show plM (kept es) [] = kept es from rfl]
        rintro e w4 ⟨a4, k4, rfl, s4, c4⟩
        have c04 := (c0r.trans c3).trans c4
        have o4 := (o2.new c3).new c4
        have hS4 := (hSt.new c3).new c4
        have s34 := s3.read.new c4
        have s44 := s4.read
        clear s3 s4 o2 hSt
        go_wp2_with fail
        refine (implPlay_fits _ _ _ es _ ss _ o4 hS4 (hT.new c04) HF.out).mono ?_
        rintro e w5 ⟨a5, k5, rfl, -, c5⟩
        rw [HAL.out]
        have s35 := s34.new c5
        have s45 := s44.new c5
        have c05 := c04.trans c5
        have o5 := o4.new c5
        have hS5 := hS4.new c5
        clear s34 s44 o4 hS4 HAL HF HF6
        generalize vals (kept es) k = vs at *
        generalize has (kept es) k = hb at *
        have hbb : (hb == hb) = true := by simp
        go_wp2_with fail
        refine (same_ok _ _ _ _ vs vs _ s35 s45).mono ?_
        rintro e w6 ⟨rfl, c6⟩
        rw [decide_eq_true rfl]
        have c06 := c05.trans c6
        go_wp2_with fail
        refine (encoded_fits _ _ _ es _ ss _ (o5.new c6) (hS5.new c6) (hT.new c06) HF5.out).mono ?_
        rw [HP.out]
        rintro e w7 ⟨rfl, c7⟩
        go_wp2_with fail
        refine (implEncode_ok _ _ es _ ((o5.new c6).new c7) ((hT.new c06).new c7) (by omega)).mono ?_
        rintro e w8 ⟨rfl, c8⟩
        have hte : (enc (kept es) == enc (kept es)) = true := by simp
        clear HP HF5
        generalize enc (kept es) = t at *
        have hll : ((ss.length : Int) == (ss.length : Int)) = true := by simp
        go_wp2
        go_ret
        exact ⟨rfl, (c06.trans c7).trans c8⟩
end Go.Proofs.YtbnefebheecccaaDoor.fnPlayReads
