/-
  FnEncodeSet's walk: where keys, values and texts are of bulk at most 1048576 the law returns true, and writes nothing that was there.
-/
import Derived.Test.YtbnefebheecccaaDoorOpen
import Derived.Test.YtbnefebheecccaaDoorEntries
import Derived.Test.YtbnefebheecccaaDoorLit
import Derived.Test.YtbnefebheecccaaDoorCut
import Derived.Test.YtbnefebheecccaaDoorSetPure
import Derived.Test.YtbnefebheecccaaDoorQEsc
namespace Go.Proofs.YtbnefebheecccaaDoor.fnEncodeSet
open Go.RowKit
open Uv (Bytes Ent KV St vals has sett bulk bulkS bulkT kept plM enc parts cntP esc)

set_option maxRecDepth 100000 in
set_option maxHeartbeats 1000000 in
theorem walk (kv : Value) (ks : List Bytes) (vv : Value) (vss : List (List Bytes)) (k x : Bytes) (w : World) (hk : RStrs All w kv ks) (hv : RTextss All w vv vss)
    (hb : bulkS ks + bulkSS vss + k.length + x.length ≤ 1048576) (hT : Tab w) :
    Calls Tryd.prog 9 #[kv, vv, encStr k, encStr x] w (Ret (.bool true) w) := by
  have hz := Uv.bulk_zip ks bulkSS (fun _ _ => rfl) vss
  obtain ⟨es, hes⟩ : ∃ es, ks.zip vss = es := ⟨_, rfl⟩
  have hN0 : bulk (ks.zip vss) ≤ 4194304 := by omega
  rw [hes] at hz
  have HE := Lib.hid hes
  clear hes
  have hbA : bulkT [((1 : Int), k, x)] ≤ 3000000 := by simp only [bulkT]; omega
  obtain ⟨M, hM⟩ : ∃ M, plM (kept es) [((1 : Int), k, x)] = M := ⟨_, rfl⟩
  have hMs : M = sett (kept es) k x := by rw [← hM]; simp [plM, Uv.stM]
  have HM := Lib.hid hM
  have hu : Uv.Uniq M := by rw [← hM]; exact (Uv.uniq_kept es).plM _
  have hvM : vals M k = [x] := by rw [hMs, Uv.vals_sett, if_pos rfl]
  have hbM : bulk M ≤ 4194304 := by
    have h1 := Uv.bulk_sett (kept es) k x
    have h2 := Uv.bulk_kept es
    rw [hMs]
    omega
  have hel : (enc M).length ≤ 120000000000000 := Uv.bnd hu hbM (ps := parts M) (r := []) (by simp)
  have HCUT := Lib.hid (Uv.cut_enc (Uv.parts_ne hu hvM))
  have HCNT := Lib.hid (Uv.count_part hu hvM)
  have hpl : (parts M).length ≤ 4194304 := by
    have h1 := Uv.length_parts hu
    have h2 := Uv.cnt_le M
    omega
  obtain ⟨q, hq⟩ : ∃ q, Uv.part k x = q := ⟨_, rfl⟩
  rw [hq] at HCNT
  obtain ⟨t2, ht2⟩ : ∃ t2, esc k ++ [61] = t2 := ⟨_, rfl⟩
  have ht3 : t2 ++ esc x = q := by rw [← hq, ← ht2]; simp [Uv.part]
  have e2 : (⟨(esc k).toArray⟩ : ByteArray) ++ ⟨#[61]⟩ = ⟨t2.toArray⟩ := by rw [← ht2]; exact str_add (esc k) [61]
  have e3 : (⟨t2.toArray⟩ : ByteArray) ++ ⟨(esc x).toArray⟩ = ⟨q.toArray⟩ := by rw [← ht3]; exact str_add _ _
  have hek := Uv.length_esc_le k
  have hex := Uv.length_esc_le x
  have l2 : t2.length ≤ 4194304 := by rw [← ht2, List.length_append, List.length_singleton]; omega
  clear hM hMs hvM hu ht2 ht3 hq
  go_enter Tryd.func9, Tryd.ntmps9
  go_wp2_with fail
  refine (entries_ok All _ _ ks vss _ hk hv hN0).mono ?_
  rw [HE.out]
  rintro e w1 ⟨a1, k1, rfl, o1, c1⟩
  have hA := steps_lit w1 [((1 : Int), k, x)] (by simp)
  have hcA : Chg None w1 (w1.alloc (.cells (stFlat [((1 : Int), k, x)]).toArray 35)) := (Chg.refl None w1).alloc _
  have c2 := c1.trans hcA
  go_wp2_with fail
  refine (encoded_ok _ _ _ es _ [((1 : Int), k, x)] _ (o1.read.new hcA) hA (hT.new c2) (by omega)).mono ?_
  rw [HM.out]
  rintro e w3 ⟨rfl, c3⟩
  go_wp2_with fail
  refine (cut_ok (enc M) 38 38 rfl _ (by omega) (by rw [HCUT.out]; omega)).mono ?_
  rw [HCUT.out]
  rintro e w4 ⟨a4, k4, rfl, s4, c4⟩
  have c04 := (c2.trans c3).trans c4
  have s4r := s4.read
  clear HCUT HM hA hcA o1 s4 hel
  generalize parts M = ps at *
  obtain ⟨a, cap, hsh, h1, h2, h3⟩ := s4r
  injection hsh with hsh1 _ hsh3
  subst hsh1
  subst hsh3
  unfold maxLen at h2
  have H3 := Lib.hid h3
  clear h3
  have HL : Hid (∀ i, cntP q (ps.take i) ≤ 4194304) := Lib.hid (fun i => by have := Uv.cntP_le q (ps.take i); simp at this; omega)
  go_wp2
  go_loopw [11, 26] (fun nv iv wr => ∃ i : Nat, i ≤ ps.length ∧ iv = .int .i64 i ∧ nv = .int .i64 ((cntP q (ps.take i) : Nat) : Int) ∧ Chg None w4 wr) (fun _ iv _ => ps.length - (intOf iv).toNat)
  case atStart => exact ⟨0, Nat.zero_le _, rfl, rfl, Chg.refl _ _⟩
  case round =>
    obtain ⟨i, hi, rfl, rfl, hch⟩ := hrel
    by_cases hlt : i < ps.length
    · obtain ⟨b, off, rfl, _, hc⟩ := H3.out i ps[i] (by simp [hlt])
      have hc := hch.cell hc (fun x => x)
      have HS := Lib.hid (Uv.cntP_take q ps i hlt)
      have hli := HL.out i
      have hTr := hT.new (c04.trans hch)
      generalize cntP q (ps.take i) = n at *
      generalize ps[i] = y at *
      by_cases hy : y = q
      · have hbe : (y == q) = true := by simp [hy]
        rw [if_pos hy] at HS
        clear hy
        go_wp2_with fail
        refine (implQueryEscape_ok k _ hTr (by omega)).mono ?_
        rintro e w5 ⟨rfl, c5⟩
        go_wp2_with fail
        refine (implQueryEscape_ok x _ (hTr.new c5) (by omega)).mono ?_
        rintro e w6 ⟨rfl, c6⟩
        go_wp2
        go_roundw
        case rel => exact ⟨i + 1, by omega, by go_num, by rw [HS.out]; go_num, (hch.trans c5).trans c6⟩
        case measure => simp [intOf]; omega
      · have hbe : (y == q) = false := by simp [hy]
        rw [if_neg hy] at HS
        clear hy
        go_wp2_with fail
        refine (implQueryEscape_ok k _ hTr (by omega)).mono ?_
        rintro e w5 ⟨rfl, c5⟩
        go_wp2_with fail
        refine (implQueryEscape_ok x _ (hTr.new c5) (by omega)).mono ?_
        rintro e w6 ⟨rfl, c6⟩
        go_wp2
        go_roundw
        case rel => exact ⟨i + 1, by omega, by go_num, by rw [HS.out]; rfl, (hch.trans c5).trans c6⟩
        case measure => simp [intOf]; omega
    · obtain rfl : i = ps.length := by omega
      rw [List.take_of_length_le (Nat.le_refl _), HCNT.out]
      go_wp2
      go_ret
      exact ⟨rfl, c04.trans hch⟩
end Go.Proofs.YtbnefebheecccaaDoor.fnEncodeSet
