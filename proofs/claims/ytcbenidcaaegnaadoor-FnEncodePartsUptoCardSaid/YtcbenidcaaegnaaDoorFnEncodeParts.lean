/-
  FnEncodeParts' walk: where keys and values are of bulk at most 1048576 the law returns true, and writes nothing that was there.
-/
import Derived.Test.YtcbenidcaaegnaaDoorOpen
import Derived.Test.YtcbenidcaaegnaaDoorEntries
import Derived.Test.YtcbenidcaaegnaaDoorLit
import Derived.Test.YtcbenidcaaegnaaDoorCut
import Derived.Test.YtcbenidcaaegnaaDoorPartsPure
import Derived.Test.YtcbenidcaaegnaaDoorUnesc
import Derived.Test.YtcbenidcaaegnaaDoorXEnts
namespace Go.Proofs.YtcbenidcaaegnaaDoor.fnEncodeParts
open Go.RowKit
open Uv (Bytes Ent KV St vals has bulk bulkS bulkT kept plM enc parts cnt esc ones nowA At)

/-- the first ones of texts -/
theorem strs_pre {F : Nat → Prop} {w : World} {a : Option Addr} {n cap : Nat} {ss ts rs : List Bytes} (h : RStrs F w (.slice a n cap) ts) (e : ss ++ rs = ts) : RStrs F w (.slice a ss.length cap) ss := by
  obtain ⟨a', cap', hsh, h1, h2, h3⟩ := h
  injection hsh with e1 _ e3
  subst e1
  subst e3
  subst e
  refine ⟨_, _, rfl, by rw [List.length_append] at h1; omega, h2, fun i x hx => h3 i x ?_⟩
  rw [List.getElem?_append_left (List.getElem?_eq_some_iff.1 hx).1]
  exact hx
/-- two texts: their cells -/
theorem two_cells {F : Nat → Prop} {w : World} {a : Option Addr} {n cap : Nat} {x y : Bytes} (h : RStrs F w (.slice a n cap) [x, y]) : ∃ b off, a = some ⟨b, off, none⟩ ∧ w.cell? ⟨b, off, none⟩ = some (encStr x) ∧ w.cell? ⟨b, off + 1, none⟩ = some (encStr y) ∧ 2 ≤ cap ∧ cap ≤ maxLen := by
  obtain ⟨a', cap', hsh, h1, h2, h3⟩ := h
  injection hsh with e1 _ e3
  subst e1
  subst e3
  obtain ⟨b, off, ha, _, q0⟩ := h3 0 x rfl
  obtain ⟨b', off', ha', _, q1⟩ := h3 1 y rfl
  rw [ha] at ha'
  injection ha' with e
  injection e with e1 e2
  subst e1
  subst e2
  exact ⟨b, off, ha, q0, q1, h1, h2⟩

set_option maxRecDepth 100000 in
set_option maxHeartbeats 2000000 in
theorem walk (kv : Value) (ks : List Bytes) (vv : Value) (vss : List (List Bytes)) (w : World) (hk : RStrs All w kv ks) (hv : RTextss All w vv vss)
    (hb : bulkS ks + bulkSS vss ≤ 1048576) (hT : Tab w) :
    Calls Tryd.prog 3 #[kv, vv] w (Ret (.bool true) w) := by
  have hz := Uv.bulk_zip ks bulkSS (fun _ _ => rfl) vss
  obtain ⟨es, hes⟩ : ∃ es, ks.zip vss = es := ⟨_, rfl⟩
  have hN0 : bulk (ks.zip vss) ≤ 4194304 := by omega
  rw [hes] at hz
  have HE := Lib.hid hes
  clear hes
  have hu := Uv.uniq_kept es
  have hbk := Uv.bulk_kept es
  have hel : (enc (kept es)).length ≤ 120000000000000 := Uv.bnd hu (by omega) (ps := parts (kept es)) (r := []) (by simp)
  have HZ : Hid (enc (kept es) = [] ↔ cnt es = 0) := by show _ ↔ _; rw [Uv.enc_nil_iff hu, Uv.cnt_kept]
  have hpl : (parts (kept es)).length = cnt es := by rw [Uv.length_parts hu, Uv.cnt_kept]
  have HCUT : Hid (¬ cnt es = 0 → Uv.cutB 38 (enc (kept es)) = parts (kept es)) := Lib.hid (fun h => Uv.cut_enc (fun e => h (by rw [← hpl, e]; rfl)))
  have hcl : cnt es ≤ bulk es := Uv.cnt_le es
  have HPO := Lib.hid (Uv.parts_ones (kept es))
  have HOL : Hid ((ones (kept es)).length = cnt es) := by show _ = _; rw [Uv.ones_len hu, Uv.cnt_kept]
  have HOR := Lib.hid (Uv.ones_rise (kept es))
  have HNV := Lib.hid (fun k (hk : k ∈ Uv.srt (Uv.keys (kept es))) i => Uv.nowA_vals hu hk i)
  have HOM := Lib.hid (fun p (hp : p ∈ ones (kept es)) => Uv.ones_mem hp)
  have HOK := Lib.hid (fun p (hp : p ∈ ones (kept es)) => Uv.ones_key hp)
  have hes := Uv.length_le_bulk es
  have HPL := Lib.hid hpl
  clear hpl hu
  go_enter Tryd.func3, Tryd.ntmps3
  go_wp2_with fail
  refine (entries_ok All _ _ ks vss _ hk hv hN0).mono ?_
  rw [HE.out]
  rintro e w1 ⟨a1, k1, rfl, o1, c1⟩
  have o1r := o1.read
  clear o1
  go_wp2_with fail
  refine (implEncode_ok _ _ es _ o1r (hT.new c1) (by omega)).mono ?_
  rintro e w2 ⟨rfl, c2⟩
  have c12 := c1.trans c2
  have o2 := o1r.new c2
  have o2k := o2
  clear o1r
  obtain ⟨t, ht⟩ : ∃ t, enc (kept es) = t := ⟨_, rfl⟩
  rw [ht] at hel HZ HCUT ⊢
  clear ht
  obtain ⟨a, cap, hsh, h1, h2, h3⟩ := o2
  simp only [Value.slice.injEq] at hsh
  obtain ⟨rfl, _, rfl⟩ := hsh
  unfold maxLen at h2
  have H3 := Lib.hid h3
  clear h3
  go_wp2
  go_loopw [7, 29] (fun nv jv wr => ∃ j : Nat, j ≤ es.length ∧ jv = .int .i64 j ∧ nv = .int .i64 (cnt (es.take j) : Int) ∧ Chg None w2 wr) (fun _ jv _ => es.length - (intOf jv).toNat)
  case atStart => exact ⟨0, Nat.zero_le _, rfl, rfl, Chg.refl _ _⟩
  case round =>
    obtain ⟨j, hj, rfl, rfl, hch⟩ := hrel
    have hcj := Uv.cnt_take_le es j
    by_cases hlj : j < es.length
    · obtain ⟨b, off, sv, rfl, _, hc1, hc2, hr⟩ := H3.out j es[j] (by simp [hlj])
      have hc1 := hch.cell hc1 (fun x => x)
      have hc2 := hch.cell hc2 (fun x => x)
      have HN := Lib.hid (Uv.cnt_take_succ es j hlj)
      have hcj2 := Uv.cnt_take_le es (j + 1)
      rw [HN.out] at hcj2
      obtain ⟨a2, cap2, hsv, -⟩ := hr
      subst hsv
      go_wp2
      go_roundw
      case rel => exact ⟨j + 1, by omega, by go_num, by rw [HN.out]; go_num, hch.alloc _⟩
      case measure => simp [intOf]; omega
    · obtain rfl : j = es.length := by omega
      rw [List.take_of_length_le (Nat.le_refl _)]
      clear hcj
      have c1r := c12.trans hch
      have o3 := o2k.new hch
      by_cases hc0 : cnt es = 0
      · have ht := HZ.out.2 hc0
        have d1 : ((cnt es : Int) == 0) = true := by rw [hc0]; rfl
        subst ht
        clear hc0
        go_wp2
        go_ret
        exact ⟨rfl, c1r⟩
      · have d1 : ((cnt es : Int) == 0) = false := by rw [beq_eq_false_iff_ne]; omega
        have HC := Lib.hid (HCUT.out hc0)
        clear hc0
        go_wp2_with fail
        refine (cut_ok t 38 38 rfl _ (by omega) (by rw [HC.out, HPL.out]; omega)).mono ?_
        rw [HC.out]
        rintro e w4 ⟨a4, k4, rfl, s4, c4⟩
        have c04 := c1r.trans c4
        have o4 := o3.new c4
        have s4r := s4.read
        clear s4 HC HCUT HZ hel o3 o2k
        have HLL : Hid ((parts (kept es)).length = (ones (kept es)).length) := by show _ = _; rw [HPL.out, HOL.out]
        have hln : (parts (kept es)).length ≤ 4194304 := by rw [HPL.out]; omega
        have d2 : (((parts (kept es)).length : Int) != (cnt es : Int)) = false := by rw [HPL.out]; simp
        have HPT : Hid (∀ (i : Nat) (p : Bytes × Bytes), (ones (kept es))[i]? = some p → (parts (kept es))[i]? = some (Uv.part p.1 p.2)) := Lib.hid (fun i p hp => by rw [HPO.out, List.getElem?_map, hp]; rfl)
        clear HPL HPO HOL
        generalize parts (kept es) = ps at *
        generalize hPe : ones (kept es) = P at *
        clear hPe
        obtain ⟨a, cap, hsh, g1, g2, g3⟩ := s4r
        injection hsh with hsh1 _ hsh3
        subst hsh1
        subst hsh3
        unfold maxLen at g2
        have G3 := Lib.hid g3
        clear g3 h1 h2 H3
        go_wp2
        go_loopw [11, 12, 51] (fun lv nv iv wr => ∃ (i : Nat) (la : Bytes) (nw : List Bytes), i ≤ ps.length ∧ iv = .int .i64 i ∧ lv = encStr la ∧ OStrs (fun g => w4.heap.size ≤ g) wr nv nw ∧ Hid (At P i la nw) ∧ Chg None w4 wr) (fun _ _ iv _ => ps.length - (intOf iv).toNat)
        case atStart => exact ⟨0, [], [], Nat.zero_le _, rfl, rfl, OStrs.nil _ _, Lib.hid (Uv.at_zero P), Chg.refl _ _⟩
        case round =>
          clear hch
          obtain ⟨i, la, nw, hi, rfl, rfl, hO, HAT, hch⟩ := hrel
          by_cases hlt : i < ps.length
          · have hip : i < P.length := by rw [← HLL.out]; exact hlt
            obtain ⟨b, off, rfl, _, hc⟩ := G3.out i _ (HPT.out i P[i] (by simp [hip]))
            have hc := hch.cell hc (fun x => x)
            obtain ⟨hl1, hl2⟩ := HOK.out P[i] (List.getElem_mem hip)
            have hmem := (HOM.out P[i] (List.getElem_mem hip)).1
            obtain ⟨r, hr⟩ := HNV.out P[i].1 hmem (i + 1)
            have HR := Lib.hid hr
            have HNX := Lib.hid (Uv.at_next P hip)
            have HRI : Hid (0 < i → ¬ P[i].1 < la) := Lib.hid (Uv.at_rise HOR.out HAT.out hip)
            have HMO : Hid (i = 0 ∨ P[i].1 = la → nowA P (i + 1) P[i].1 = nw ++ [P[i].2]) := Lib.hid (Uv.at_more HAT.out hip)
            have HFR : Hid (0 < i → ¬ P[i].1 = la → nowA P (i + 1) P[i].1 = [P[i].2]) := Lib.hid (Uv.at_fresh HOR.out HAT.out hip)
            have hvl := Uv.length_vals (kept es) P[i].1
            have hwl : (nowA P (i + 1) P[i].1).length ≤ (vals (kept es) P[i].1).length := by rw [← hr]; simp
            clear hr hmem HAT
            obtain ⟨ao, co, hoo⟩ := ownsRow_shape hO.1
            subst hoo
            generalize nowA P (i + 1) P[i].1 = nn at *
            generalize P[i] = p at *
            obtain ⟨k, v⟩ := p
            simp only at hc hl1 hl2 HRI HMO HFR HNX hvl hwl HR
            have hek := Uv.length_esc_le k
            have hev := Uv.length_esc_le v
            have hlp : (Uv.part k v).length ≤ 90000000 := by unfold Uv.part; simp; omega
            have HC2 := Lib.hid (Uv.cut_part k v)
            have c0r := c04.trans hch
            have hTr := hT.new c0r
            have o5 := o4.new hch
            generalize Uv.part k v = pt at *
            by_cases h0 : i = 0
            · have hip0 : ¬ 0 < i := by omega
              have d0 : decide ((0 : Int) < (i : Int)) = false := by simp; omega
              have HNN : Hid (nn = nw ++ [v]) := Lib.hid (HMO.out (.inl h0))
              have HNL : Hid (nn.length = nw.length + 1) := by show _ = _; rw [HNN.out]; simp
              have hwn : nw.length + 1 ≤ (vals (kept es) k).length := by rw [← HNL.out]; exact hwl
              clear h0 hwl
              go_wp2_with fail
              refine (cut_ok pt 61 61 rfl _ (by omega) (by rw [HC2.out]; simp)).mono ?_
              rw [HC2.out]
              rintro e w5 ⟨a5, k5, rfl, s5, c5⟩
              obtain ⟨b5, f5, ha5, q0, q1, hc51, hc52⟩ := two_cells s5.read
              subst ha5
              clear s5 HC2
              unfold maxLen at hc52
              go_wp2_with fail
              refine (implQueryUnescape_ok (esc k) _ (hTr.new c5) (by omega)).mono ?_
              rw [Uv.unT_esc, Uv.un_some]
              rintro e w6 ⟨rfl, c6⟩
              replace q1 := c6.cell q1 (fun x => x)
              clear q0
              go_wp2_with fail
              refine (implQueryUnescape_ok (esc v) _ ((hTr.new c5).new c6) (by omega)).mono ?_
              rw [Uv.unT_esc, Uv.un_some]
              rintro e w7 ⟨rfl, c7⟩
              clear q1
              have cr7 := (c5.trans c6).trans c7
              have h47 := hch.trans cr7
              have h7s := h47.size
              have hO7 : OStrs (fun g => w4.heap.size ≤ g) w7 (.slice ao nw.length co) nw := hO.kept cr7 (fun _ _ x => x)
              go_wp2_with (at_builtin; refine wpList_app _ elStr rfl _ _ _ rfl (ownsRow_chg hO7.1 ((Chg.refl None w7).alloc _) (fun _ _ x => x)) rfl (Src.ofSlice _ elStr.ht ⟨w7.heap.size, 0, none⟩ 1 1 [encStr v] rfl (World.news_of_block (cs := #[encStr v]) (t := 9) (fr := (0, 0)) (heap_alloc_new w7 _)) (by simp [Value.oneCell', encStr])) rfl (by unfold maxLen; omega) (by omega) ?_; intro a8 k8 w8 hs8 hg8 hl8; obtain ⟨hO8, hc8⟩ := strs_app (k := [v]) hO7 ((Chg.refl None w7).alloc _) (by simp; omega) hs8 (by simp) (by simp) hl8 hg8; clear hs8 hg8 hl8; rw [← HNN.out] at hO8; have c48 : Chg None w4 w8 := h47.then hc8 (fun i hi e => by omega))
              have c08 := c04.trans c48
              clear hO7 hc8 hO HRI HMO HFR
              refine (held_ok _ _ _ es _ [] k _ (o4.new c48) (steps_nil _) (hT.new c08) (by simp only [bulkT]; omega)).mono ?_
              rw [show plM (kept es) [] = kept es from rfl]
              rintro e w9 ⟨a9, k9, rfl, s9, c9⟩
              generalize vals (kept es) k = W at *
              rcases s9.1.2 with ⟨_, hn9⟩ | ⟨g9, cap9, cur9, hsh9, _, _, hn9, hm9, _⟩
              · omega
              injection hsh9 with hs91 _ hs93
              subst hs91
              subst hs93
              have sp : RStrs (fun g => w8.heap.size ≤ g) w9 (.slice (some ⟨g9, 0, none⟩) (nw.length + 1) k9) nn := by rw [← HNL.out]; exact strs_pre s9.read HR.out
              have sn := hO8.read.new c9
              unfold maxLen at hm9
              clear HR s9 HNN HNL
              go_wp2_with fail
              refine (same_ok _ _ _ _ nn nn _ sn sp).mono ?_
              rintro e w10 ⟨rfl, c10⟩
              rw [decide_eq_true rfl]
              have c810 := c9.trans c10
              go_wp2
              go_roundw
              case rel => exact ⟨i + 1, k, nn, by omega, by go_num, rfl, hO8.kept c810 (fun _ _ x => x), HNX, c48.trans c810⟩
              case measure => simp [intOf]; omega
            · have hip0 : 0 < i := by omega
              have d0 : decide ((0 : Int) < (i : Int)) = true := by simp; omega
              have hls : Op.bytesLess k la = false := by rw [less_eq]; exact decide_eq_false (HRI.out hip0)
              by_cases hkl : k = la
              · have hne : (!k == la) = false := by simp [hkl]
                have HNN : Hid (nn = nw ++ [v]) := Lib.hid (HMO.out (.inr hkl))
                have HNL : Hid (nn.length = nw.length + 1) := by show _ = _; rw [HNN.out]; simp
                have hwn : nw.length + 1 ≤ (vals (kept es) k).length := by rw [← HNL.out]; exact hwl
                clear h0 hkl hwl
                go_wp2_with fail
                refine (cut_ok pt 61 61 rfl _ (by omega) (by rw [HC2.out]; simp)).mono ?_
                rw [HC2.out]
                rintro e w5 ⟨a5, k5, rfl, s5, c5⟩
                obtain ⟨b5, f5, ha5, q0, q1, hc51, hc52⟩ := two_cells s5.read
                subst ha5
                clear s5 HC2
                unfold maxLen at hc52
                go_wp2_with fail
                refine (implQueryUnescape_ok (esc k) _ (hTr.new c5) (by omega)).mono ?_
                rw [Uv.unT_esc, Uv.un_some]
                rintro e w6 ⟨rfl, c6⟩
                replace q1 := c6.cell q1 (fun x => x)
                clear q0
                go_wp2_with fail
                refine (implQueryUnescape_ok (esc v) _ ((hTr.new c5).new c6) (by omega)).mono ?_
                rw [Uv.unT_esc, Uv.un_some]
                rintro e w7 ⟨rfl, c7⟩
                clear q1
                have cr7 := (c5.trans c6).trans c7
                have h47 := hch.trans cr7
                have h7s := h47.size
                have hO7 : OStrs (fun g => w4.heap.size ≤ g) w7 (.slice ao nw.length co) nw := hO.kept cr7 (fun _ _ x => x)
                go_wp2_with (at_builtin; refine wpList_app _ elStr rfl _ _ _ rfl (ownsRow_chg hO7.1 ((Chg.refl None w7).alloc _) (fun _ _ x => x)) rfl (Src.ofSlice _ elStr.ht ⟨w7.heap.size, 0, none⟩ 1 1 [encStr v] rfl (World.news_of_block (cs := #[encStr v]) (t := 9) (fr := (0, 0)) (heap_alloc_new w7 _)) (by simp [Value.oneCell', encStr])) rfl (by unfold maxLen; omega) (by omega) ?_; intro a8 k8 w8 hs8 hg8 hl8; obtain ⟨hO8, hc8⟩ := strs_app (k := [v]) hO7 ((Chg.refl None w7).alloc _) (by simp; omega) hs8 (by simp) (by simp) hl8 hg8; clear hs8 hg8 hl8; rw [← HNN.out] at hO8; have c48 : Chg None w4 w8 := h47.then hc8 (fun i hi e => by omega))
                have c08 := c04.trans c48
                clear hO7 hc8 hO HRI HMO HFR
                refine (held_ok _ _ _ es _ [] k _ (o4.new c48) (steps_nil _) (hT.new c08) (by simp only [bulkT]; omega)).mono ?_
                rw [show plM (kept es) [] = kept es from rfl]
                rintro e w9 ⟨a9, k9, rfl, s9, c9⟩
                generalize vals (kept es) k = W at *
                rcases s9.1.2 with ⟨_, hn9⟩ | ⟨g9, cap9, cur9, hsh9, _, _, hn9, hm9, _⟩
                · omega
                injection hsh9 with hs91 _ hs93
                subst hs91
                subst hs93
                have sp : RStrs (fun g => w8.heap.size ≤ g) w9 (.slice (some ⟨g9, 0, none⟩) (nw.length + 1) k9) nn := by rw [← HNL.out]; exact strs_pre s9.read HR.out
                have sn := hO8.read.new c9
                unfold maxLen at hm9
                clear HR s9 HNN HNL
                go_wp2_with fail
                refine (same_ok _ _ _ _ nn nn _ sn sp).mono ?_
                rintro e w10 ⟨rfl, c10⟩
                rw [decide_eq_true rfl]
                have c810 := c9.trans c10
                go_wp2
                go_roundw
                case rel => exact ⟨i + 1, k, nn, by omega, by go_num, rfl, hO8.kept c810 (fun _ _ x => x), HNX, c48.trans c810⟩
                case measure => simp [intOf]; omega
              · have hne : (!k == la) = true := by simp [hkl]
                have HNN : Hid (nn = [v]) := Lib.hid (HFR.out hip0 hkl)
                have HNL : Hid (nn.length = 1) := by show _ = _; rw [HNN.out]; rfl
                have hwn : 1 ≤ (vals (kept es) k).length := by rw [← HNL.out]; exact hwl
                clear h0 hkl hwl
                go_wp2_with fail
                refine (cut_ok pt 61 61 rfl _ (by omega) (by rw [HC2.out]; simp)).mono ?_
                rw [HC2.out]
                rintro e w5 ⟨a5, k5, rfl, s5, c5⟩
                obtain ⟨b5, f5, ha5, q0, q1, hc51, hc52⟩ := two_cells s5.read
                subst ha5
                clear s5 HC2
                unfold maxLen at hc52
                go_wp2_with fail
                refine (implQueryUnescape_ok (esc k) _ (hTr.new c5) (by omega)).mono ?_
                rw [Uv.unT_esc, Uv.un_some]
                rintro e w6 ⟨rfl, c6⟩
                replace q1 := c6.cell q1 (fun x => x)
                clear q0
                go_wp2_with fail
                refine (implQueryUnescape_ok (esc v) _ ((hTr.new c5).new c6) (by omega)).mono ?_
                rw [Uv.unT_esc, Uv.un_some]
                rintro e w7 ⟨rfl, c7⟩
                clear q1
                have cr7 := (c5.trans c6).trans c7
                have h47 := hch.trans cr7
                have h7s := h47.size
                have hO7 : OStrs (fun g => w4.heap.size ≤ g) w7 (.slice none 0 0) [] := OStrs.nil _ _
                go_wp2_with (at_builtin; refine wpList_app _ elStr rfl _ _ _ rfl (ownsRow_chg hO7.1 ((Chg.refl None w7).alloc _) (fun _ _ x => x)) rfl (Src.ofSlice _ elStr.ht ⟨w7.heap.size, 0, none⟩ 1 1 [encStr v] rfl (World.news_of_block (cs := #[encStr v]) (t := 9) (fr := (0, 0)) (heap_alloc_new w7 _)) (by simp [Value.oneCell', encStr])) rfl (by simp [maxLen]) (by simp) ?_; rw [List.length_nil, Nat.zero_add]; intro a8 k8 w8 hs8 hg8 hl8; obtain ⟨hO8, hc8⟩ := strs_app (k := [v]) hO7 ((Chg.refl None w7).alloc _) (by simp; omega) hs8 (by simp) (by simp) hl8 hg8; clear hs8 hg8 hl8; rw [List.nil_append, ← HNN.out] at hO8; have c48 : Chg None w4 w8 := h47.then hc8 (fun i hi e => by omega))
                have c08 := c04.trans c48
                clear hO7 hc8 hO HRI HMO HFR
                refine (held_ok _ _ _ es _ [] k _ (o4.new c48) (steps_nil _) (hT.new c08) (by simp only [bulkT]; omega)).mono ?_
                rw [show plM (kept es) [] = kept es from rfl]
                rintro e w9 ⟨a9, k9, rfl, s9, c9⟩
                generalize vals (kept es) k = W at *
                rcases s9.1.2 with ⟨_, hn9⟩ | ⟨g9, cap9, cur9, hsh9, _, _, hn9, hm9, _⟩
                · omega
                injection hsh9 with hs91 _ hs93
                subst hs91
                subst hs93
                have sp : RStrs (fun g => w8.heap.size ≤ g) w9 (.slice (some ⟨g9, 0, none⟩) (1) k9) nn := by rw [← HNL.out]; exact strs_pre s9.read HR.out
                have sn := hO8.read.new c9
                unfold maxLen at hm9
                clear HR s9 HNN HNL
                go_wp2_with fail
                refine (same_ok _ _ _ _ nn nn _ sn sp).mono ?_
                rintro e w10 ⟨rfl, c10⟩
                rw [decide_eq_true rfl]
                have c810 := c9.trans c10
                go_wp2
                go_roundw
                case rel => exact ⟨i + 1, k, nn, by omega, by go_num, rfl, hO8.kept c810 (fun _ _ x => x), HNX, c48.trans c810⟩
                case measure => simp [intOf]; omega
          · obtain rfl : i = ps.length := by omega
            go_wp2
            go_ret
            exact ⟨rfl, c04.trans hch⟩
end Go.Proofs.YtcbenidcaaegnaaDoor.fnEncodeParts
