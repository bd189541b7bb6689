/-
  (net/url.Values).Encode.
-/
import Derived.Test.YtcbenidcaaegnaaDoorBld
import Derived.Test.YtcbenidcaaegnaaDoorQEsc
import Derived.Test.YtcbenidcaaegnaaDoorEncPure
import Derived.Test.YtcbenidcaaegnaaDoorToEnt
import Derived.Maps.RangeWalk
import Derived.Sort.KeysCollected
import Derived.Sort.OwnSorted
namespace Go.Proofs.YtcbenidcaaegnaaDoor
open Go.RowKit
open Uv (Bytes Ent KV lk vals has keys Uniq bulk srt pts parts joinA enc esc)

theorem nodup_le {ss ks : List Bytes} (h : ss.Nodup) (hs : ∀ x ∈ ss, x ∈ ks) : ss.length ≤ ks.length := by
  induction ss generalizing ks with
  | nil => simp
  | cons x r ih =>
    rw [List.nodup_cons] at h
    have hx := hs x (by simp)
    have := ih (ks := ks.erase x) h.2 (fun y hy => (List.mem_erase_of_ne (fun e : y = x => h.1 (by rw [← e]; exact hy))).2 (hs y (List.mem_cons_of_mem x hy)))
    rw [List.length_erase_of_mem hx] at this
    have hp : 0 < ks.length := List.length_pos_of_mem hx
    simp only [List.length_cons]
    omega
theorem grown_set (w : World) (K i : Nat) (v : Value) : w.grownBy (w.setCell ⟨K, i, none⟩ v) (some K) :=
  ⟨rfl, rfl, rfl, by simp, fun k _ hk => Below.heap_setCell _ _ _ _ (fun e => hk (by subst e; rfl))⟩

/-- a row of texts is no row of bytes, and no builder -/
theorem strRow_not {w : World} {v : Value} {n B b : Nat} {xs : List Value} {l : Bytes} (h : w.ownsRow 0 9 1 v n xs) (hI : IsB B b l w) : ∀ g, v.ownBlock = some g → ¬ Bfr B w b g := by
  intro g hg hf
  rcases h.2 with ⟨rfl, _⟩ | ⟨g', cap, cur, rfl, _, hgg, _⟩
  · simp [Value.ownBlock] at hg
  · simp [Value.ownBlock] at hg
    subst hg
    rcases hf.2 with e | ⟨c, fz, e⟩
    · subst e
      obtain ⟨p, _, _, v', hb, _⟩ := hI
      rw [hgg] at hb
      injection hb with hb
      injection hb with _ hb
      exact absurd hb (by decide)
    · rw [hgg] at e
      injection e with e
      injection e with _ e
      exact absurd e (by decide)
theorem strRow_keepB {w w' : World} {K n c B b : Nat} {xs : List Value} {l : Bytes} (h : w.ownsRow 0 9 1 (.slice (some ⟨K, 0, none⟩) n c) n xs) (hI : IsB B b l w) (hc : Chg (fun g => some g = some K) w w') : IsB B b l w' := by
  have hn := strRow_not h hI K rfl
  have hB := hI.le
  refine hI.kept hc (fun e => ?_) (fun g hg e => ?_)
  · injection e with e
    exact hn ⟨by omega, .inl e.symm⟩
  · injection e with e
    subst e
    rcases h.2 with ⟨e, _⟩ | ⟨g', cap, cur, e, _, hgg, _⟩
    · cases e
    · injection e with e _ _
      injection e with e
      injection e with e
      subst e
      obtain ⟨c', fz, e⟩ := hg
      rw [hgg] at e
      injection e with e
      injection e with _ e
      exact absurd e (by decide)

theorem bstep {F : Nat → Prop} {w wx wy : World} {B b : Nat} {l : Bytes} {v : Value} {ks : List Bytes} (hI : IsB B b l wx) (hO : OStrs F wx v ks) (hch : Chg None w wx) (hc : Chg (Bfr B wx b) wx wy) (hB : w.heap.size ≤ B) : OStrs F wy v ks ∧ Chg None w wy :=
  ⟨hO.kept hc (strRow_not hO.1 hI), chg_new hch hc.bfrBelow hB⟩

theorem keyInv : ∀ key kl, keyOf Tryd.prog 9 key = some kl → ∃ x : Bytes, key = encStr x := fun _ _ h => by
  obtain ⟨x, hx, _⟩ := Maps.keyOf_str undK h
  exact ⟨x, hx⟩

set_option maxRecDepth 100000 in
set_option maxHeartbeats 4000000 in
theorem vEncode_ok (F : Nat → Prop) (b : Nat) (m : KV) (w : World) (hM : VMap F w b m) (hT : Tab w) (hN : bulk m ≤ 4194304) : Calls Tryd.prog 25 #[.map (some b)] w (Ret (encStr (enc m)) w) := by
  have hu := hM.uniq
  have hbw := hM.lt
  have hM0 : VMap (fun g => g < w.heap.size) w b m := hM.mono (fun k hk _ => hk)
  obtain ⟨n, D, vf, hW⟩ := id hM0
  have hown := hW.owns
  have HH := Lib.hid (fun k => hW.has_eq k)
  obtain ⟨N, hNm⟩ : ∃ N, m.length = N := ⟨_, rfl⟩
  have hNl : N ≤ 4194304 := by have := Uv.length_le_bulk m; omega
  have hsz := hW.size
  rw [hNm] at hsz
  have HS := Lib.hid hsz
  have HNM := Lib.hid hNm
  clear hsz hNm hW vf hM
  by_cases h0 : N = 0
  · have HE : Hid (enc m = []) := by
      have : m = [] := List.eq_nil_of_length_eq_zero (HNM.out.trans h0)
      subst this
      show enc [] = []
      simp [enc, parts, pts, srt, keys, joinA]
    have l0 : ((N : Int) == 0) = true := by simp; omega
    clear h0
    go_enter Tryd.func25, Tryd.ntmps25
    go_wp2_with (at_len; refine wpList_len_own _ rfl _ _ rfl _ _ undM RV b n D rfl hown ?_; rw [HS.out])
    go_ret
    exact ⟨by rw [HE.out]; rfl, Chg.refl _ _⟩
  · have l0 : ((N : Int) == 0) = false := by simp; omega
    clear h0
    go_enter Tryd.func25, Tryd.ntmps25
    go_wp2_with (first | (at_len; refine wpList_len_own _ rfl _ _ rfl _ _ undM RV b n D rfl hown ?_; rw [HS.out]) | (at_len; refine wpList_len_own _ rfl _ _ rfl _ _ undM RV b n D rfl (hown.alloc _) ?_; rw [HS.out]) | (at_make; refine wpList_mk elStr rfl _ _ rfl N rfl rfl (by omega) (by unfold maxLen; omega) ?_; intro w2 hrow2 hc2 hlt2) | (at_range; refine wpList_range_own _ rfl _ _ rfl _ _ lawK undM RV b n D rfl (ownsMap_chg hown (((Chg.refl None w).alloc _).trans hc2) (fun x => x)) ?_; intro w3 hrg3 hg3 hz3))
    go_frame
    have hK : (w.alloc (.cells #[.pointer none, .slice none 0 0] 89)).heap.size = w.heap.size + 1 := by simp
    have hch2 : Chg None w w2 := ((Chg.refl None w).alloc _).trans hc2
    have hc3 : Chg None w2 w3 := (Chg.ofGrown hg3).mono (fun k _ hk => by cases hk)
    have hI3 : IsB w.heap.size w.heap.size [] w3 := ((IsB.made w).new hc2).new hc3
    have hrow3 := ownsRow_chg hrow2 hc3 (fun _ _ x => x)
    have hch3 := hch2.trans hc3
    rw [hK] at hrow3
    have hrl : w.heap.size + 1 < w2.heap.size := by rw [hK] at hlt2; exact hlt2
    clear hrow2 hc2 hlt2 hg3 hz3 hK hch2 hc3
    generalize hR : w2.heap.size = R at *
    clear hR
    go_loopw [5] (fun iv wr => ∃ (ss : List Bytes) (left : Lit → Bool) (cnt : Nat) (xs : List Value), iv = .int .i64 (ss.length : Int) ∧ ss.length ≤ N ∧ Go.Collected D left ss ∧ wr.ranges Tryd.prog 9 RV b R n D left cnt ∧ wr.ownsRow 0 9 1 (.slice (some ⟨w.heap.size + 1, 0, none⟩) N N) N xs ∧ xs.take ss.length = ss.map encStr ∧ IsB w.heap.size w.heap.size [] wr ∧ Chg None w wr) (fun _ wr => wr.rangeLeft b R)
    case atStart => exact ⟨[], _, _, _, rfl, Nat.zero_le _, Go.Collected.start D, hrg3, hrow3, rfl, hI3, hch3⟩
    case round =>
      clear hI3 hrow3 hch3 hrg3
      obtain ⟨ss, left, cnt, xs, rfl, hss, hC, hrg, hrow, htk, hI, hch⟩ := hrel
      have HT := Lib.hid htk
      have HC := Lib.hid hC
      clear htk hC
      go_wp2_with (at_next; refine wpList_next_ranges _ rfl _ rfl _ lawK RV encStr (fun v : Value => v) keyInv (fun v _ _ => ⟨v, rfl⟩) b R n D left cnt rfl hrg ?_ ?_)
      · intro hc0 hl0
        have hperm : ss.Perm (keys m) := (List.perm_ext_iff_of_nodup HC.out.1 hu).2 (fun x => by
          rw [HC.out.2 x, HH.out x, hl0]
          simp only [and_true]
          exact Uv.look_some_iff m x)
        have hsl : ss.length = N := by rw [hperm.length_eq, ← HNM.out]; simp [keys]
        have HK := Lib.hid (Uv.srt_congr hperm)
        subst hsl
        have hxs : xs = ss.map encStr := by
          have e := HT.out
          rwa [List.take_of_length_le (by rw [hrow.1]; omega)] at e
        subst hxs
        have hmo := hrg.owns
        clear hrg hc0 hl0 hperm hss HT HC cnt left
        obtain ⟨cur, hblk, hcs, htk⟩ : ∃ cur, wr.heap[w.heap.size + 1]? = some (.cells cur 9 (0, 0)) ∧ cur.size = ss.length * 1 ∧ cur.toList.take ss.length = ss.map encStr := by
          rcases hrow.2 with ⟨e, _⟩ | ⟨g, cap, cur, e, _, hb, _, _, h3, h4⟩
          · cases e
          · injection e with e1 _ e3
            injection e1 with e1
            injection e1 with e1
            subst e1
            subst e3
            exact ⟨cur, hb, h3, by simpa using h4⟩
        have hKl : w.heap.size + 1 < wr.heap.size := (Array.getElem?_eq_some_iff.1 hblk).1
        have HBL := Lib.hid hblk
        have HTK := Lib.hid htk
        clear hblk htk
        go_wp2_with (go_at_call 51; refine (Tryd.slices_Sort_string (w.heap.size + 1) 0 ss.length ss _ (holds_of_block HBL.out HTK.out) hKl (by omega)).mono ?_; rintro e w4 ⟨rfl, n4, os4, h4⟩; have hrow4 := ownsRow_sorted (w := wr) (n := n4) (os := os4) (ts := srt ss) (base := 0) (Uv.length_srt ss) (Nat.zero_le _) HBL.out (Nat.le_refl _) (by unfold maxLen; omega) hcs; have hg4 := grownBy_sorted (w := wr) (g := w.heap.size + 1) (n := n4) (os := os4) (srt ss).toArray; have H4 := Lib.hid h4; clear h4)
        have e4 : w4 = Go.Sort.grow (Go.Sort.putRow encStr (Go.Sort.ahead wr n4) (w.heap.size + 1) 0 (srt ss).toArray) os4 := H4.out
        rw [← e4] at hrow4 hg4
        have hc4 : Chg (fun g => some g = some (w.heap.size + 1)) wr w4 := Chg.ofGrown hg4
        have hI4 := strRow_keepB hrow hI hc4
        have hch4 : Chg None w w4 := hch.then hc4 (fun i hi e => by injection e with e; omega)
        have hkl := Uv.length_srt ss
        rw [HK.out] at hrow4 hkl
        have hO4 : OStrs (fun g => w.heap.size ≤ g) w4 (.slice (some ⟨w.heap.size + 1, 0, none⟩) ss.length ss.length) (srt (keys m)) := ⟨by rw [hkl]; exact hrow4, fun g hg => by rw [own_new hg]; omega⟩
        have HPK : Hid (∀ k ∈ srt (keys m), k ∈ keys m) := Lib.hid (fun k hk => Uv.mem_srt.1 hk)
        have HPP : Hid (pts m (srt (keys m)) = parts m) := Lib.hid rfl
        clear H4 e4 hg4 hrow4 hc4 hrow hI hch hmo HK hcs hKl HBL HTK HS HNM hown HH
        generalize srt (keys m) = ks at *
        generalize ss.length = L at *
        subst hkl
        generalize hB : w.heap.size = B at *
        have HB := Lib.hid hB
        clear hB
        go_loopw [35] (fun jv wr => ∃ j : Nat, j ≤ ks.length ∧ jv = .int .i64 j ∧ IsB B B (joinA (pts m (ks.take j))) wr ∧ OStrs (fun g => B ≤ g) wr (.slice (some ⟨B + 1, 0, none⟩) ks.length ks.length) ks ∧ Chg None w wr) (fun jv _ => ks.length - (intOf jv).toNat)
        case atStart => exact ⟨0, Nat.zero_le _, rfl, by simpa [pts, joinA] using hI4, hO4, hch4⟩
        case round =>
          clear hI4 hO4 hch4
          obtain ⟨wo, rfl⟩ : ∃ wo : World, wo = wr := ⟨_, rfl⟩
          obtain ⟨j, hj, rfl, hI, hO, hch⟩ := hrel
          by_cases hlt : j < ks.length
          · have hkc : wo.cell? ⟨B + 1, j, none⟩ = some (encStr ks[j]) := by
              have := hO.1.cells (g := B + 1) rfl j (encStr ks[j]) (by simp [hlt])
              rwa [add_off, Nat.zero_add] at this
            have hkm : ks[j] ∈ keys m := HPK.out _ (List.getElem_mem hlt)
            have hkl : ks[j].length ≤ 4194304 := by
              obtain ⟨e, he, hek⟩ := List.mem_map.1 hkm
              have := Uv.mem_le_bulk he
              rw [hek] at this
              omega
            have HA := Lib.hid (Uv.ahead_parts m ks j hlt)
            have HSU := Lib.hid (Uv.pts_take_succ m ks j hlt)
            generalize hk : ks[j] = k at *
            clear hk
            obtain ⟨ad, cap, hr, _, hs, _⟩ := hM0.at_key (k := k) (by unfold maxLen; omega)
            have hlkp := hr None wo hch (fun x => x)
            have hrd := hs.read
            have hvl : (vals m k).length ≤ 4194304 := by have := Uv.length_vals m k; omega
            have HV : Hid (∀ v ∈ vals m k, v.length ≤ 4194304) := Lib.hid (fun v hv => by
              have h1 := Uv.mem_le_bulkS hv
              have h2 := Uv.bulkS_vals m k
              omega)
            have HR := Lib.hid hrd
            clear hr hs hkm hrd
            have hel := Uv.length_esc_le k
            go_wp2_with (go_at_call 52; refine (urlQueryEscape_ok k _ (hT.new hch) (by omega)).mono ?_; rintro e w5 ⟨rfl, hc5⟩)
            generalize hvs : vals m k = vs at *
            clear hvs
            have hI5 := hI.new hc5
            have hO5 := hO.kept hc5 (fun _ _ x => x)
            have hch5 := hch.trans hc5
            clear hI hO hlkp hkc hc5
            go_loopw [46] (fun iv wi => ∃ i : Nat, i ≤ vs.length ∧ iv = .int .i64 i ∧ IsB B B (joinA (pts m (ks.take j) ++ (vs.take i).map (Uv.part k))) wi ∧ OStrs (fun g => B ≤ g) wi (.slice (some ⟨B + 1, 0, none⟩) ks.length ks.length) ks ∧ Chg None w wi) (fun iv _ => vs.length - (intOf iv).toNat)
            case atStart => exact ⟨0, Nat.zero_le _, rfl, by simpa using hI5, hO5, hch5⟩
            case round =>
              clear hI5 hO5 hch5
              obtain ⟨i, hi, rfl, hI, hO, hchi⟩ := hrel
              by_cases hli : i < vs.length
              · obtain ⟨a3, cap3, he3, _, _, h3⟩ := HR.out
                obtain ⟨c, off, had, _, hcell⟩ := h3 i vs[i] (by simp [hli])
                simp only [Value.slice.injEq] at he3
                obtain ⟨rfl, _, rfl⟩ := he3
                subst had
                have hvc := hchi.cell hcell (fun x => x)
                have hvm := HV.out vs[i] (List.getElem_mem hli)
                have hev := Uv.length_esc_le vs[i]
                obtain ⟨r, hr⟩ := HA.out i
                rw [HPP.out] at hr
                have hbd := Uv.bnd hu hN hr
                have HSN : Hid (joinA (pts m (ks.take j) ++ (vs.take (i + 1)).map (Uv.part k)) = Uv.app (joinA (pts m (ks.take j) ++ (vs.take i).map (Uv.part k))) (Uv.part k vs[i])) := by
                  show _ = _
                  rw [List.take_succ_eq_append_getElem hli, List.map_append, ← List.append_assoc]
                  exact Uv.joinA_snoc _ _
                clear hr r h3 hcell
                generalize joinA (pts m (ks.take j) ++ (vs.take i).map (Uv.part k)) = l at *
                generalize vs[i] = v at *
                obtain ⟨l1, hl1⟩ : ∃ l1, (if l = [] then [] else l ++ [38]) = l1 := ⟨_, rfl⟩
                have HL : Hid (Uv.app l (Uv.part k v) = ((l1 ++ esc k) ++ [61]) ++ esc v) := by
                  show _ = _
                  unfold Uv.app Uv.part
                  rw [hl1]
                  simp
                rw [HL.out] at HSN
                clear HL
                by_cases hl0 : l = []
                · subst hl0
                  rw [if_pos rfl] at hl1
                  subst hl1
                  go_wp2_with fail
                  refine (bLen_ok B B _ _ hI).mono ?_
                  rintro e w6 ⟨rfl, rfl⟩
                  have hI1 := hI
                  have hO1 := hO
                  have hch1 := hchi
                  go_wp2_with fail
                  refine (bWriteString_ok B B _ (esc k) _ hI1 (by rw [List.length_nil]; omega)).mono ?_
                  rintro e w7 ⟨rfl, hI2, hc2⟩
                  obtain ⟨hO2, hch2⟩ := bstep hI1 hO1 hch1 hc2 (Nat.le_of_eq HB.out)
                  have hl2 : Hid ((([] : Bytes) ++ esc k).length = (([] : Bytes)).length + (esc k).length) := Lib.hid List.length_append
                  go_wp2_with fail
                  refine (bWriteByte_ok B B _ 61 _ hI2 (by rw [hl2.out, List.length_nil]; omega)).mono ?_
                  rintro e w8 ⟨rfl, hI3, hc3⟩
                  obtain ⟨hO3, hch3⟩ := bstep hI2 hO2 hch2 hc3 (Nat.le_of_eq HB.out)
                  go_wp2_with fail
                  refine (urlQueryEscape_ok v _ (hT.new hch3) (by omega)).mono ?_
                  rintro e w9 ⟨rfl, hc4⟩
                  have hI4 := hI3.new hc4
                  have hO4 := hO3.kept hc4 (fun _ _ x => x)
                  have hch4 := hch3.trans hc4
                  go_wp2_with fail
                  refine (bWriteString_ok B B _ (esc v) _ hI4 (by rw [List.length_append, hl2.out, List.length_singleton, List.length_nil]; omega)).mono ?_
                  rintro e w10 ⟨rfl, hI5, hc5⟩
                  obtain ⟨hO5, hch5⟩ := bstep hI4 hO4 hch4 hc5 (Nat.le_of_eq HB.out)
                  clear hI hO hchi hI1 hO1 hch1 hI2 hO2 hch2 hI3 hO3 hch3 hI4 hO4 hch4 hc2 hc3 hc4 hc5 hl2
                  go_wp2
                  go_roundw
                  case rel => exact ⟨i + 1, by omega, by go_num, by rw [HSN.out]; exact hI5, hO5, hch5⟩
                  case measure => simp [intOf]; omega
                · rw [if_neg hl0] at hl1
                  have hpos : 0 < l.length := List.length_pos_iff.2 hl0
                  clear hl0
                  go_wp2_with fail
                  refine (bLen_ok B B _ _ hI).mono ?_
                  rintro e w6 ⟨rfl, rfl⟩
                  go_wp2_with fail
                  refine (bWriteByte_ok B B _ 38 _ hI (by omega)).mono ?_
                  rw [hl1]
                  rintro e w6 ⟨rfl, hI1, hc1⟩
                  obtain ⟨hO1, hch1⟩ := bstep hI hO hchi hc1 (Nat.le_of_eq HB.out)
                  have hll : l1.length = l.length + 1 := by rw [← hl1]; simp
                  have HLL := Lib.hid hll
                  have hll2 : l1.length ≤ 120000000000001 := by omega
                  clear hl1 hll hc1
                  go_wp2_with fail
                  refine (bWriteString_ok B B _ (esc k) _ hI1 (by omega)).mono ?_
                  rintro e w7 ⟨rfl, hI2, hc2⟩
                  obtain ⟨hO2, hch2⟩ := bstep hI1 hO1 hch1 hc2 (Nat.le_of_eq HB.out)
                  have hl2 : Hid ((l1 ++ esc k).length = (l1).length + (esc k).length) := Lib.hid List.length_append
                  go_wp2_with fail
                  refine (bWriteByte_ok B B _ 61 _ hI2 (by rw [hl2.out]; omega)).mono ?_
                  rintro e w8 ⟨rfl, hI3, hc3⟩
                  obtain ⟨hO3, hch3⟩ := bstep hI2 hO2 hch2 hc3 (Nat.le_of_eq HB.out)
                  go_wp2_with fail
                  refine (urlQueryEscape_ok v _ (hT.new hch3) (by omega)).mono ?_
                  rintro e w9 ⟨rfl, hc4⟩
                  have hI4 := hI3.new hc4
                  have hO4 := hO3.kept hc4 (fun _ _ x => x)
                  have hch4 := hch3.trans hc4
                  go_wp2_with fail
                  refine (bWriteString_ok B B _ (esc v) _ hI4 (by rw [List.length_append, hl2.out, List.length_singleton]; omega)).mono ?_
                  rintro e w10 ⟨rfl, hI5, hc5⟩
                  obtain ⟨hO5, hch5⟩ := bstep hI4 hO4 hch4 hc5 (Nat.le_of_eq HB.out)
                  clear hI hO hchi hI1 hO1 hch1 hI2 hO2 hch2 hI3 hO3 hch3 hI4 hO4 hch4 hc2 hc3 hc4 hc5 hl2
                  go_wp2
                  go_roundw
                  case rel => exact ⟨i + 1, by omega, by go_num, by rw [HSN.out]; exact hI5, hO5, hch5⟩
                  case measure => simp [intOf]; omega
              · obtain rfl : i = vs.length := by omega
                rw [List.take_of_length_le (Nat.le_refl _)] at hI
                go_wp2
                go_roundw
                case rel => exact ⟨j + 1, by omega, by go_num, by rw [HSU.out]; exact hI, hO, hchi⟩
                case measure => simp [intOf]; omega
          · obtain rfl : j = ks.length := by omega
            rw [List.take_of_length_le (Nat.le_refl _), HPP.out] at hI
            go_wp2_with (go_at_call 56; refine (bString_ok B B _ _ hI).mono ?_; rintro e w5 ⟨rfl, hc5⟩)
            go_ret
            exact ⟨rfl, chg_new hch hc5 (Nat.le_of_eq HB.out)⟩
      · intro x c kl y1 y2 w1 cnt1 hkey hlk hv hat hrg1 hlt1 hg1 hz1 hen
        obtain ⟨x', ex, rfl, hxl⟩ := Maps.keyOf_str undK hkey
        obtain rfl : x = x' := Go.encStr_inj ex
        have hC1 := HC.out.step hlk hat
        have hlen : ss.length + 1 ≤ N := by
          have := nodup_le (ks := keys m) hC1.1 (fun z hz => by
            have := ((hC1.2 z).1 hz).1
            rw [HH.out z] at this
            exact (Uv.look_some_iff m z).1 this)
          rw [List.length_append, List.length_singleton] at this
          rw [← HNM.out]
          simpa [keys] using this
        have HC1 := Lib.hid hC1
        have hne : w.heap.size + 1 ≠ R := fun e => row_ne_iter hrow hrg (by rw [← e]; rfl)
        have hc1 : Chg (fun g => some g = some R) wr w1 := Chg.ofGrown hg1
        have hrow1 := ownsRow_chg hrow hc1 (fun g hg e => hne (by rw [← own_new hg]; injection e))
        have hI1 : IsB w.heap.size w.heap.size [] w1 := hI.kept hc1 (fun e => by injection e with e; omega) (fun g hg e => by
          injection e with e
          subst e
          obtain ⟨_, _, _, _, _, _, _, _, _, hit, _⟩ := hrg
          obtain ⟨c', fz, hg⟩ := hg
          rw [hit] at hg
          cases hg)
        obtain ⟨old, q1, q2⟩ := own_cell hrow1 (j := ss.length) (by omega)
        have hst := (hrow1.stored ss.length (encStr x)).1
        have hrg2 := hrg1.kept (grown_set w1 (w.heap.size + 1) ss.length (encStr x)) (fun e => by injection e with e; omega) (fun e => by injection e with e; exact hne e.symm)
        have hI2 := strRow_keepB hrow1 hI1 ((Chg.ofGrown (grown_set w1 (w.heap.size + 1) ss.length (encStr x))))
        have hch2 : Chg None w (w1.setCell ⟨w.heap.size + 1, ss.length, none⟩ (encStr x)) := (hch.then hc1 (fun i hi e => by injection e with e; omega)).then (Chg.ofGrown (grown_set w1 (w.heap.size + 1) ss.length (encStr x))) (fun i hi e => by injection e with e; omega)
        have HX := Lib.hid (take_set_succ (xs := xs) (ys := ss.map encStr ++ [encStr x]) (k := ss.length) (y := encStr x) (by rw [hrow1.1]; omega) (by simp) (by rw [HT.out]; simp))
        have hrlt := Lib.hid (show (w1.setCell ⟨w.heap.size + 1, ss.length, none⟩ (encStr x)).rangeLeft b R < wr.rangeLeft b R by rw [hrg2.left_eq, hrg.left_eq]; exact hlt1)
        clear hC1 hat hkey hlk hv hlt1 hz1 hc1 hrg hrg1 hrow hI hI1 hg1 hch
        go_wp2
        go_roundw
        case rel => exact ⟨ss ++ [x], _, cnt1, _, by rw [List.length_append]; go_num, by rw [List.length_append, List.length_singleton]; omega, HC1.out, hrg2, hst, by rw [List.length_append, List.length_singleton, HX.out, List.take_of_length_le (by simp)]; simp, hI2, hch2⟩
        case measure => exact hrlt.out

theorem implEncode_ok (F : Nat → Prop) (v : Value) (es : KV) (w : World) (hv : REnts F w v es) (hT : Tab w) (hN : bulk es ≤ 4194304) :
    Calls Tryd.prog 6 #[v] w (Ret (encStr (enc (Uv.kept es))) w) := by
  have hk := Uv.bulk_kept es
  go_enter Tryd.func6, Tryd.ntmps6
  go_wp2_with (first | (go_at_call 24; refine (values_ok F v es _ hv (valOk_of_bulk hN)).mono ?_; rintro e w1 ⟨b, rfl, hM, hc⟩) | (go_at_call 25; refine (vEncode_ok _ _ _ _ hM (hT.new hc) (by omega)).mono ?_; rintro e w2 ⟨rfl, hc2⟩))
  go_ret
  exact ⟨rfl, hc.trans hc2⟩
end Go.Proofs.YtcbenidcaaegnaaDoor
