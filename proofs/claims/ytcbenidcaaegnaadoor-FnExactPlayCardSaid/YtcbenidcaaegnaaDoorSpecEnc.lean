/-
  The reference's encode; spec.Encode.
-/
import Derived.Test.YtcbenidcaaegnaaDoorSorted
import Derived.Test.YtcbenidcaaegnaaDoorBld
namespace Go.Proofs.YtcbenidcaaegnaaDoor
open Go.RowKit
open Uv (Bytes Ent KV keys Uniq bulk bulkS kept SortedK epts joinA enc esc)

/-- what an append of bytes leaves: the row lies in block B, or in one that is new since w1 -/
theorem obStep {B : Nat} {w1 wr W w2 : World} {u v' : Value} {l k : Bytes} {n : Nat} {xs : List Value} (hO : OBytes (fun g => g = B ∨ w1.heap.size ≤ g) wr u l) (hch : Chg (fun g => g = B) w1 wr) (hcW : Chg None wr W)
    (hs : w2.ownsRow 0 5 1 v' n xs) (hn : n = (l ++ k).length) (hx : xs = (l ++ k).map byteV) (hl : v'.ownBlock = u.ownBlock ∨ v'.ownBlock = some W.heap.size) (hg : W.grownBy w2 u.ownBlock) :
    OBytes (fun g => g = B ∨ w1.heap.size ≤ g) w2 v' (l ++ k) ∧ Chg (fun g => g = B) w1 w2 := by
  subst hn
  subst hx
  refine ⟨⟨hs, fun g hgv => ?_⟩, (hch.none hcW).then (Chg.ofGrown hg) (fun i hi e => (hO.2 i e.symm).elim id (fun h => by omega))⟩
  rcases hl with e | e
  · exact hO.2 g (e ▸ hgv)
  · rw [e] at hgv
    injection hgv with hgv
    have := hch.size
    have := hcW.size
    exact .inr (by omega)

set_option maxRecDepth 100000 in
set_option maxHeartbeats 4000000 in
theorem specencode_ok (F : Nat → Prop) (v : Value) (m : KV) (w : World) (hv : REnts F w v m) (hu : Uniq m) (hN : bulk m ≤ 4194304) : Calls Tryd.prog 35 #[v] w (Ret (encStr (enc m)) w) := by
  have hv0 : REnts (fun g => g < w.heap.size) (w.alloc (.cells #[] 5)) v m := (hv.mono (fun k hk _ => hk)).new ((Chg.refl None w).alloc _)
  go_enter Tryd.func35, Tryd.ntmps35
  go_wp2_with fail
  refine (specSorted_ok _ v m _ hv0 hN).mono ?_
  rintro e w1 ⟨a, cap, o, rfl, hp, hsk, hX, hc1⟩
  have HPT := Lib.hid (Uv.parts_sorted hu hp hsk)
  have hR : REnts (fun g => g ≠ w.heap.size ∧ g < w1.heap.size) w1 (.slice a o.length cap) o := hX.read.mono (fun g hg h => ⟨by
    rcases h with h | h
    · omega
    · simp at h; omega, hg⟩)
  have hom : ∀ e ∈ o, e ∈ m := fun e he => hp.mem_iff.1 he
  have HOM := Lib.hid hom
  have hol : o.length ≤ 4194304 := by have := hp.length_eq; have := Uv.length_le_bulk m; omega
  have hw1 : w.heap.size < w1.heap.size := by have := hc1.size; simp at this; omega
  have hO1 : OBytes (fun g => g = w.heap.size ∨ w1.heap.size ≤ g) w1 (.slice (some ⟨w.heap.size, 0, none⟩) 0 0) [] := ⟨ownsRow_chg (World.ownsRow_lit w #[] 0 (Nat.zero_le _) (by simp [maxLen]) rfl) hc1 (fun _ _ x => x), fun g hg => .inl (own_new hg)⟩
  have hcw : Chg None w w1 := ((Chg.refl None w).alloc _).trans hc1
  obtain ⟨a', cap', hsh, hb1, hb2, hb3⟩ := hR
  simp only [Value.slice.injEq] at hsh
  obtain ⟨rfl, _, rfl⟩ := hsh
  unfold maxLen at hb2
  have HB := Lib.hid hb3
  clear hb3 hp hsk hX hc1 hom hv hv0
  generalize hBe : w.heap.size = B at *
  have HBE := Lib.hid hBe
  clear hBe
  go_wp2
  go_loopw [3, 4] (fun bv iv wr => ∃ i : Nat, i ≤ o.length ∧ iv = .int .i64 i ∧ OBytes (fun g => g = B ∨ w1.heap.size ≤ g) wr bv (joinA (epts (o.take i))) ∧ Chg (fun g => g = B) w1 wr) (fun _ iv _ => o.length - (intOf iv).toNat)
  case atStart => exact ⟨0, Nat.zero_le _, rfl, hO1, Chg.refl _ _⟩
  case round =>
    clear hO1
    obtain ⟨wo, rfl⟩ : ∃ wo : World, wo = wr := ⟨_, rfl⟩
    obtain ⟨i, hi, rfl, hO, hch⟩ := hrel
    by_cases hlt : i < o.length
    · obtain ⟨b, off, sv, rfl, hFb, p1, p2, hr⟩ := HB.out i o[i] (by simp [hlt])
      have hem := HOM.out o[i] (List.getElem_mem hlt)
      have hbe := Uv.mem_le_bulk hem
      have hvl := Uv.length_le_bulkS o[i].2
      have HA := Lib.hid (Uv.ahead_epts o i hlt)
      have HSU := Lib.hid (Uv.epts_take_succ o i hlt)
      obtain ⟨a2, cap2, hsv, hs1, hs2, hs3⟩ := hr
      subst hsv
      have HS3 := Lib.hid hs3
      have HC : Hid (∀ W, Chg (fun g => g = B) w1 W → W.cell? ⟨b, off + i * 2, none⟩ = some (encStr o[i].1) ∧ W.cell? ⟨b, off + i * 2 + 1, none⟩ = some (.slice a2 o[i].2.length cap2)) := Lib.hid (fun W hW => ⟨hW.cell p1 hFb.1, hW.cell p2 hFb.1⟩)
      unfold maxLen at hs2
      have HE : Hid (∀ x ∈ o[i].2, x.length ≤ 4194304) := Lib.hid (fun x hx => by have := Uv.mem_le_bulkS hx; omega)
      have hkl : o[i].1.length ≤ 4194304 := by omega
      clear hs3 p1 p2 hem
      generalize o[i].1 = k at *
      generalize o[i].2 = vs at *
      go_wp2
      go_loopw [3, 5] (fun bv jv wr => ∃ j : Nat, j ≤ vs.length ∧ jv = .int .i64 j ∧ OBytes (fun g => g = B ∨ w1.heap.size ≤ g) wr bv (joinA (epts (o.take i) ++ (vs.take j).map (Uv.part k))) ∧ Chg (fun g => g = B) w1 wr) (fun _ jv _ => vs.length - (intOf jv).toNat)
      case atStart => exact ⟨0, Nat.zero_le _, rfl, by simpa using hO, hch⟩
      case round =>
        clear hO hch
        obtain ⟨j, hj, rfl, hO, hch⟩ := hrel
        obtain ⟨bo, co, hbo⟩ := hO.shape
        subst hbo
        obtain ⟨p1, p2⟩ := HC.out _ hch
        by_cases hlj : j < vs.length
        · obtain ⟨c, off2, had, hFc, hcell⟩ := HS3.out j vs[j] (by simp [hlj])
          subst had
          have hne : ¬ c = B := hFc.1
          have hvm := HE.out vs[j] (List.getElem_mem hlj)
          have hev := Uv.length_esc_le vs[j]
          have hek := Uv.length_esc_le k
          obtain ⟨r, hr⟩ := HA.out j
          rw [HPT.out] at hr
          have hbd := Uv.bnd hu hN hr
          have HSN : Hid (joinA (epts (o.take i) ++ (vs.take (j + 1)).map (Uv.part k)) = Uv.app (joinA (epts (o.take i) ++ (vs.take j).map (Uv.part k))) (Uv.part k vs[j])) := by
            show _ = _
            rw [List.take_succ_eq_append_getElem hlj, List.map_append, ← List.append_assoc]
            exact Uv.joinA_snoc _ _
          clear hr r
          generalize joinA (epts (o.take i) ++ (vs.take j).map (Uv.part k)) = l at *
          generalize vs[j] = x at *
          obtain ⟨l1, hl1⟩ : ∃ l1, (if l = [] then [] else l ++ [38]) = l1 := ⟨_, rfl⟩
          obtain ⟨l2, hl2⟩ : ∃ l2, l1 ++ esc k = l2 := ⟨_, rfl⟩
          obtain ⟨l3, hl3⟩ : ∃ l3, l2 ++ [61] = l3 := ⟨_, rfl⟩
          have HL : Hid (Uv.app l (Uv.part k x) = l3 ++ esc x) := by
            show _ = _
            unfold Uv.app Uv.part
            rw [hl1, ← hl3, ← hl2]
            simp
          rw [HL.out] at HSN
          have hb2l : l1.length ≤ l.length + 1 := by
            rw [← hl1]
            split
            · simp
            · simp
          have hb3l : l2.length = l1.length + (esc k).length := by rw [← hl2, List.length_append]
          have hb4l : l3.length = l2.length + 1 := by rw [← hl3, List.length_append, List.length_singleton]
          have hl2b : l2.length ≤ 120000020000000 := by omega
          have hl3b : l3.length ≤ 120000020000001 := by omega
          have hl1b : l1.length ≤ 120000000000001 := by omega
          have H2 := Lib.hid hl2
          have H3 := Lib.hid hl3
          clear HL hb2l hb3l hb4l hl2 hl3
          by_cases hl0 : l = []
          · subst hl0
            rw [if_pos rfl] at hl1
            subst hl1
            have hO5 := hO
            have hch5 := hch
            go_wp2_with fail
            refine (specQueryEscape_ok k _ (by omega)).mono ?_
            rintro e w6 ⟨rfl, c6⟩
            have hO6 := hO5.new c6
            have hch6 := hch5.none c6
            obtain ⟨q1, q2⟩ := HC.out _ hch6
            have tok : True := trivial
            clear hO hch hO5 hch5
            go_wp2_with (first | (at_builtin; have _t := tok; refine wpList_app _ elByte rfl _ _ _ rfl hO6.1 rfl (srcText (esc k) _) rfl (by unfold maxLen; omega) (by omega) ?_; intro a7 c7 w7 hs7 hg7 hl7; obtain ⟨hO7, hch7⟩ := obStep (k := esc k) hO6 hch6 (Chg.refl None w6) hs7 (by simp) (by simp) hl7 hg7; clear tok hs7 hg7 hl7; rw [H2.out] at hO7; have e7 : ([] : Bytes).length + (esc k).length = l2.length := (by rw [← H2.out, List.length_append]); rw [e7] at hO7 ⊢; clear e7) | (at_builtin; refine wpList_app _ elByte rfl _ _ _ rfl (hO7.1.alloc _) rfl (Src.ofSlice _ elByte.ht ⟨w7.heap.size, 0, none⟩ 1 1 [byteV 61] rfl (World.news_of_block (cs := #[byteV 61]) (heap_alloc_new w7 _)) (by simp [Value.oneCell'])) rfl (by unfold maxLen; omega) (by omega) ?_; intro a8 c8 w8 hs8 hg8 hl8; obtain ⟨hO8, hch8⟩ := obStep (k := [61]) hO7 hch7 ((Chg.refl None w7).alloc _) hs8 (by simp) (by simp) hl8 hg8; clear hs8 hg8 hl8; rw [H3.out] at hO8; have e8 : l2.length + 1 = l3.length := (by rw [← H3.out]; simp); rw [e8] at hO8 ⊢; clear e8; obtain ⟨r1, r2⟩ := HC.out _ hch8; have r3 := hch8.cell hcell hne))
            refine (specQueryEscape_ok x _ (by omega)).mono ?_
            rintro e w9 ⟨rfl, c9⟩
            have hO9 := hO8.new c9
            have hch9 := hch8.none c9
            go_wp2_with (at_builtin; refine wpList_app _ elByte rfl _ _ _ rfl hO9.1 rfl (srcText (esc x) _) rfl (by unfold maxLen; omega) (by omega) ?_; intro a10 c10 w10 hs10 hg10 hl10)
            obtain ⟨hO10, hch10⟩ := obStep (k := esc x) hO9 hch9 (Chg.refl None w9) hs10 (by simp) (by simp) hl10 hg10
            clear hs10 hg10 hl10 hO6 hO7 hO8 hO9
            go_roundw
            case rel => exact ⟨j + 1, by omega, by go_num, by rw [HSN.out]; exact hO10, hch10⟩
            case measure => simp [intOf]; omega
          · rw [if_neg hl0] at hl1
            have hpos : 0 < l.length := List.length_pos_iff.2 hl0
            have H1 := Lib.hid hl1
            clear hl0 hl1
            go_wp2_with (at_builtin; refine wpList_app _ elByte rfl _ _ _ rfl (hO.1.alloc _) rfl (Src.ofSlice _ elByte.ht ⟨wr.heap.size, 0, none⟩ 1 1 [byteV 38] rfl (World.news_of_block (cs := #[byteV 38]) (heap_alloc_new wr _)) (by simp [Value.oneCell'])) rfl (by unfold maxLen; omega) (by omega) ?_; intro a5 c5 w5 hs5 hg5 hl5; obtain ⟨hO5, hch5⟩ := obStep (k := [38]) hO hch ((Chg.refl None wr).alloc _) hs5 (by simp) (by simp) hl5 hg5; clear hs5 hg5 hl5; rw [H1.out] at hO5; have e5 : l.length + 1 = l1.length := (by rw [← H1.out]; simp); rw [e5] at hO5 ⊢; clear e5; obtain ⟨p1, p2⟩ := HC.out _ hch5)
            refine (specQueryEscape_ok k _ (by omega)).mono ?_
            rintro e w6 ⟨rfl, c6⟩
            have hO6 := hO5.new c6
            have hch6 := hch5.none c6
            obtain ⟨q1, q2⟩ := HC.out _ hch6
            have tok : True := trivial
            clear hO hch hO5 hch5
            go_wp2_with (first | (at_builtin; have _t := tok; refine wpList_app _ elByte rfl _ _ _ rfl hO6.1 rfl (srcText (esc k) _) rfl (by unfold maxLen; omega) (by omega) ?_; intro a7 c7 w7 hs7 hg7 hl7; obtain ⟨hO7, hch7⟩ := obStep (k := esc k) hO6 hch6 (Chg.refl None w6) hs7 (by simp) (by simp) hl7 hg7; clear tok hs7 hg7 hl7; rw [H2.out] at hO7; have e7 : l1.length + (esc k).length = l2.length := (by rw [← H2.out, List.length_append]); rw [e7] at hO7 ⊢; clear e7) | (at_builtin; refine wpList_app _ elByte rfl _ _ _ rfl (hO7.1.alloc _) rfl (Src.ofSlice _ elByte.ht ⟨w7.heap.size, 0, none⟩ 1 1 [byteV 61] rfl (World.news_of_block (cs := #[byteV 61]) (heap_alloc_new w7 _)) (by simp [Value.oneCell'])) rfl (by unfold maxLen; omega) (by omega) ?_; intro a8 c8 w8 hs8 hg8 hl8; obtain ⟨hO8, hch8⟩ := obStep (k := [61]) hO7 hch7 ((Chg.refl None w7).alloc _) hs8 (by simp) (by simp) hl8 hg8; clear hs8 hg8 hl8; rw [H3.out] at hO8; have e8 : l2.length + 1 = l3.length := (by rw [← H3.out]; simp); rw [e8] at hO8 ⊢; clear e8; obtain ⟨r1, r2⟩ := HC.out _ hch8; have r3 := hch8.cell hcell hne))
            refine (specQueryEscape_ok x _ (by omega)).mono ?_
            rintro e w9 ⟨rfl, c9⟩
            have hO9 := hO8.new c9
            have hch9 := hch8.none c9
            go_wp2_with (at_builtin; refine wpList_app _ elByte rfl _ _ _ rfl hO9.1 rfl (srcText (esc x) _) rfl (by unfold maxLen; omega) (by omega) ?_; intro a10 c10 w10 hs10 hg10 hl10)
            obtain ⟨hO10, hch10⟩ := obStep (k := esc x) hO9 hch9 (Chg.refl None w9) hs10 (by simp) (by simp) hl10 hg10
            clear hs10 hg10 hl10 hO6 hO7 hO8 hO9
            go_roundw
            case rel => exact ⟨j + 1, by omega, by go_num, by rw [HSN.out]; exact hO10, hch10⟩
            case measure => simp [intOf]; omega
        · obtain rfl : j = vs.length := by omega
          rw [List.take_of_length_le (Nat.le_refl _)] at hO ⊢
          go_wp2
          go_roundw
          case rel => exact ⟨i + 1, by omega, by go_num, by rw [HSU.out]; exact hO, hch⟩
          case measure => simp [intOf]; omega
    · obtain rfl : i = o.length := by omega
      rw [List.take_of_length_le (Nat.le_refl _), HPT.out] at hO
      have htx := hO.text
      obtain ⟨bo, co, hbo⟩ := hO.shape
      subst hbo
      go_wp2
      go_ret
      exact ⟨rfl, hcw.then hch (fun x hx e => by have := HBE.out; omega)⟩

end Go.Proofs.YtcbenidcaaegnaaDoor
