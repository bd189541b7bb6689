/-
  The reference: copied, Kept.
-/
import Derived.Test.YtcbenidcaaegnaaDoorToEnt
import Derived.Test.YtcbenidcaaegnaaDoorFind
import Derived.Test.YtcbenidcaaegnaaDoorSnoc
import Derived.Deep.AppendLies
import Derived.Deep.RegionLaw
namespace Go.Proofs.YtcbenidcaaegnaaDoor
open Go.RowKit
open Uv (Bytes Ent KV lk vals has addAll del sett add keys Uniq bulk bulkS kept fnd findI)

theorem copied_ok (F : Nat → Prop) (v : Value) (ss : List Bytes) (w : World) (hv : RStrs F w v ss) (hn : ss.length * 16 ≤ 140737488355328) :
    Calls Tryd.prog 59 #[v] w (NewTexts ss w) := by
  go_enter Tryd.func59, Tryd.ntmps59
  go_wp2_with (at_builtin; refine wpList_app _ elStr rfl _ _ _ rfl (World.ownsRow_lit w #[] 0 (Nat.zero_le _) (by simp [maxLen]) rfl) rfl ((hv.new ((Chg.refl _ _).alloc _)).src) rfl (by unfold maxLen; omega) (by omega) ?_; rw [Nat.zero_add]; intro a2 c2 w2 hs2 hg2 hl2)
  go_ret
  refine ⟨a2, c2, rfl, ⟨by simpa using hs2, fun g hg => ?_⟩, ((Chg.refl _ _).alloc _).then (Chg.ofGrown hg2) (fun i hi e => ?_)⟩
  · rcases hl2 with hl | hl
    · rw [hl] at hg
      exact Nat.le_of_eq (own_new hg).symm
    · rw [hl] at hg
      injection hg with hg
      simp at hg
      omega
  · have := own_new e.symm
    omega

/-- 'out[j].Values = append(out[j].Values, ts...)': the slice behind it -/
theorem oents_upd {F : Nat → Prop} {wr w4 : World} {g co j H : Nat} {m : KV} {xs svs : List Value} {u v' : Value} {ts : List Bytes} (hsl : svs.length = m.length) (hown : wr.ownsRow 0 28 2 (.slice (some ⟨g, 0, none⟩) m.length co) m.length xs) (hvF : F g)
    (hlie : Lie F wr m xs svs) (hap : Apart svs) (hj : j < m.length) (hsv : svs[j]? = some u) (ho : OStrs F wr u m[j].2) (hc : Chg (fun x => some x = u.ownBlock) wr w4)
    (hs : w4.ownsRow 0 9 1 v' (m[j].2.length + ts.length) (m[j].2.map encStr ++ ts.map encStr)) (hl : v'.ownBlock = u.ownBlock ∨ v'.ownBlock = some H) (hH : wr.heap.size ≤ H) (hF : ∀ x, wr.heap.size ≤ x → F x) :
    OEnts F (w4.setCell ⟨g, j * 2 + 1, none⟩ v') (.slice (some ⟨g, 0, none⟩) m.length co) (m.set j (m[j].1, m[j].2 ++ ts)) := by
  have hgl : g < wr.heap.size := (hown.lt g rfl).2
  have hug : ∀ x, u.ownBlock = some x → x ≠ g := fun x hx e => row_ne hown ho (by rw [e]; rfl) hx
  have hvg : ∀ x, v'.ownBlock = some x → x ≠ g := fun x hx e => by
    rcases hl with h | h
    · exact hug x (h ▸ hx) e
    · rw [h] at hx
      injection hx with hx
      omega
  have hown4 := ownsRow_chg hown hc (fun x hx e => hug x e.symm (by rw [own_new hx]))
  have hfin : Chg (fun x => some x = u.ownBlock ∨ x = g) wr (w4.setCell ⟨g, j * 2 + 1, none⟩ v') := (hc.mono (fun _ _ h => .inl h)).setCell (p := ⟨g, j * 2 + 1, none⟩) (fun _ => .inr rfl) _
  have hv4 : OStrs F w4 v' (m[j].2 ++ ts) := by
    refine ⟨by simpa using hs, fun x hx => ?_⟩
    rcases hl with h | h
    · exact ho.2 x (h ▸ hx)
    · rw [h] at hx
      injection hx with hx
      exact hF x (by omega)
  refine ⟨_, svs.set j v', by simp [hsl], by simpa using (hown4.stored (j * 2 + 1) v').1, fun x hx => by rw [own_new hx]; exact hvF, ?_, ?_⟩
  · refine lie_upd hlie hsl hown.1 hj rfl (fun i s hij hsi ss hos => ?_) ?_
    · refine hos.kept hfin (fun x hx e => ?_)
      rcases e with e | e
      · rcases hap i j s u hij hsi hsv with h | h
        · rw [h] at hx; cases hx
        · exact h (by rw [hx, e])
      · exact row_ne hown hos (by rw [e]; rfl) hx
    · exact hv4.kept (chg_set1 (Chg.refl _ _)) (fun x hx e => hvg x hx e)
  · refine apart_upd hap (by omega) (fun i s hij hsi => ?_)
    rcases hl with h | h
    · rw [h]
      exact hap j i u s (fun e => hij e.symm) hsv hsi
    · right
      rw [h]
      intro e
      have := hlie.row_lt hsl (List.mem_of_getElem? hsi) H e.symm
      omega

set_option maxRecDepth 100000 in
set_option maxHeartbeats 1600000 in
theorem Kept_ok (F : Nat → Prop) (v : Value) (es : KV) (w : World) (hv : REnts F w v es) (hN : bulk es ≤ 4194304) :
    Calls Tryd.prog 29 #[v] w (NewEnts (kept es) w) := by
  obtain ⟨a, ca, rfl, ha1, ha2, ha3⟩ := hv
  have hln := Uv.length_le_bulk es
  have HA := Lib.hid ha3
  clear ha3
  unfold maxLen at ha2
  go_enter Tryd.func29, Tryd.ntmps29
  go_wp2
  go_loopw [3, 4] (fun o i wr => ∃ k : Nat, k ≤ es.length ∧ i = .int .i64 k ∧ OEnts (fun g => w.heap.size ≤ g) wr o (kept (es.take k)) ∧ Chg None w wr) (fun _ i _ => es.length - (intOf i).toNat)
  case atStart =>
    refine ⟨0, Nat.zero_le _, rfl, ⟨[], [], rfl, World.ownsRow_lit w #[] 0 (Nat.zero_le _) (by simp [maxLen]) rfl, fun g hg => Nat.le_of_eq (own_new hg).symm, fun i e sv he => by simp [kept, Uv.keptFrom] at he, fun i j si sj _ h => by simp at h⟩, (Chg.refl _ _).alloc _⟩
  case round =>
    obtain ⟨k, hk, rfl, hO, hch⟩ := hrel
    by_cases hlt : k < es.length
    · obtain ⟨b, off, sv, rfl, _, p1, p2, hr⟩ := HA.out k es[k] (by simp [hlt])
      have hbw : b < w.heap.size := World.block_lt_of_cell? w _ p1
      have p1 := hch.cell p1 (fun x => x)
      have p2 := hch.cell p2 (fun x => x)
      have hr := hr.new hch
      have hbl := Uv.mem_le_bulk (List.getElem_mem hlt)
      have hvl := Uv.length_le_bulkS es[k].2
      have hbk : bulk (kept (es.take k)) ≤ 4194304 := Nat.le_trans (Nat.le_trans (Uv.bulk_kept _) (Uv.bulk_take es k)) hN
      have hkl := Uv.length_le_bulk (kept (es.take k))
      have HK : Hid (kept (es.take (k + 1)) = addAll (kept (es.take k)) es[k].1 es[k].2) := by show _ = _; rw [List.take_succ_eq_append_getElem hlt, Uv.kept_snoc]
      obtain ⟨a2, cap2, hsv, -⟩ := id hr
      subst hsv
      have hOr := hO.read
      obtain ⟨ao, co, ho⟩ := hO.shape
      subst ho
      generalize kept (es.take k) = m at *
      cases hf : fnd m es[k].1 with
      | none =>
        have H1 := Lib.hid (Uv.findI_none hf)
        have HF := Lib.hid hf
        clear hf
        have hr1 := hr.new ((Chg.refl None wr).drew)
        obtain ⟨xs, svs, hsl, hown, hvF, hlie, hap⟩ := hO
        have HSL := Lib.hid hsl
        clear hsl
        go_wp2_with (go_at_call 34; refine (find_ok _ _ m es[k].1 _ hOr).mono ?_; rintro e w1 ⟨rfl, rfl⟩; rw [H1.out])
        go_region_held3 (fun w' => w'.cell? ⟨b, off + k * 2, none⟩ = some (encStr es[k].1) ∧ w'.cell? ⟨b, off + k * 2 + 1, none⟩ = some (.slice a2 es[k].2.length cap2))
          (first | (go_split_ands; exact ⟨by go_keep, by go_keep⟩) | (go_split_ands; exact ⟨(hc2).cell (by assumption) (fun x => x), (hc2).cell (by assumption) (fun x => x)⟩) | (go_split_ands; exact ⟨(Chg.ofGrown hg4).cell (by assumption) (fun e => Nat.not_le.2 hbw (hvF b e.symm)), (Chg.ofGrown hg4).cell (by assumption) (fun e => Nat.not_le.2 hbw (hvF b e.symm))⟩))
          (first | (go_at_call 59; refine (copied_ok F _ es[k].2 _ hr1 (by omega)).mono ?_; rintro e w2 ⟨a3, c3, rfl, hs3, hc2⟩) | (refine step_app _ elEnt rfl _ _ _ rfl (ownsRow_chg hown (((Chg.refl None wr).drew.trans hc2).alloc _) (fun _ _ x => x)) rfl (Src.ofSlice _ elEnt.ht ⟨w2.heap.size, 0, none⟩ 1 1 [encStr es[k].1, .slice a3 es[k].2.length c3] rfl (World.news_of_block (cs := #[encStr es[k].1, .slice a3 es[k].2.length c3]) (t := 28) (fr := (0, 0)) (heap_alloc_new w2 _)) (by simp [Value.oneCell'])) rfl (by unfold maxLen; omega) (by omega) ?_; intro a4 c4 w4 hs4 hg4 hl4))
        go_wp2
        go_roundw
        case rel =>
          refine ⟨k + 1, by omega, by go_num, ?_, ?_⟩
          · rw [HK.out, Uv.addAll_fnd_none HF.out]
            exact oents_snoc HSL.out hown hvF hlie hap (((Chg.refl None wr).drew.trans hc2).alloc _) hg4 hs4 hl4 (hs3.kept ((Chg.refl None _).alloc _) (fun _ _ x => x)) (fun g hg => Nat.le_trans hch.size hg)
          · exact (hch.none (((Chg.refl None wr).drew.trans hc2).alloc _)).then (Chg.ofGrown hg4) (fun i hi e => absurd hi (Nat.not_lt.2 (hvF i e.symm)))
        case measure => simp [intOf]; omega
      | some j =>
        obtain ⟨hj, hkj⟩ := Uv.fnd_lt hf
        have H1 := Lib.hid (Uv.findI_some hf)
        have HA2 := Lib.hid (Uv.addAll_fnd hf hj es[k].2)
        have HF := Lib.hid hf
        clear hf
        obtain ⟨xs, svs, hsl, hown, hvF, hlie, hap⟩ := hO
        obtain ⟨svj, hsvj⟩ := get_of_len hsl hj
        obtain ⟨x1, x2, hoj⟩ := hlie j m[j] svj (by simp [hj]) hsvj
        obtain ⟨aj, cj, hshape⟩ := ownsRow_shape hoj.1
        subst hshape
        obtain ⟨g, cg, hform, -, hgl⟩ := hown.form (by omega)
        simp only [Value.slice.injEq] at hform
        obtain ⟨rfl, -, rfl⟩ := hform
        have c1 : wr.cell? ⟨g, j * 2 + 1, none⟩ = some (.slice aj m[j].2.length cj) := (hown.cellAt (j * 2 + 1) (by omega)).trans x2
        have f1 := hown.frozenAt (j * 2 + 1)
        have HSL := Lib.hid hsl
        have HKJ := Lib.hid hkj
        have HSV := Lib.hid hsvj
        have HX2 := Lib.hid x2
        have HX1 := Lib.hid x1
        clear hsl hkj hsvj x1 x2
        have hmj := Uv.mem_le_bulk (List.getElem_mem hj)
        have hmv := Uv.length_le_bulkS m[j].2
        have hr1 := hr.new ((Chg.refl None wr).drew)
        have hoj1 := hoj.kept ((Chg.refl None wr).drew) (fun _ _ x => x)
        go_wp2_with (go_at_call 34; refine (find_ok _ _ m es[k].1 _ hOr).mono ?_; rintro e w1 ⟨rfl, rfl⟩; rw [H1.out])
        have hgw : w.heap.size ≤ g := hvF g rfl
        have hbg : ¬ b = g := by omega
        go_region_law (first | (refine step_app _ elStr rfl _ _ _ rfl hoj1.1 rfl hr1.src rfl (by unfold maxLen; omega) (by omega) ?_; intro a4 c4 w4 hs4 hg4 hl4; have hc4 : Chg (fun x => some x = (Value.slice aj m[j].2.length cj).ownBlock) wr w4 := ((Chg.refl _ wr).drew).trans (Chg.ofGrown hg4); have hown4 := ownsRow_chg hown hc4 (fun x hx e => row_ne hown hoj hx e.symm); obtain ⟨old, q1, q2⟩ := own_cell hown4 (j := j * 2 + 1) (by omega)))
        all_goals
          go_wp2
          go_roundw
          case rel =>
            refine ⟨k + 1, by omega, by go_num, ?_, ?_⟩
            · rw [HK.out, HA2.out]
              exact oents_upd HSL.out hown hgw hlie hap hj HSV.out hoj hc4 hs4 hl4 (Nat.le_refl _) (fun x hx => Nat.le_trans hch.size hx)
            · exact (hch.then hc4 (fun i hi e => absurd hi (Nat.not_lt.2 (hoj.2 i e.symm)))).setCell (p := ⟨g, j * 2 + 1, none⟩) (fun h => absurd h (Nat.not_lt.2 hgw)) _
          case measure => simp [intOf]; omega
    · go_wp2
      go_ret
      rw [List.take_of_length_le (by omega)] at hO
      obtain ⟨ao, co, ho⟩ := hO.shape
      subst ho
      exact ⟨_, _, rfl, hO, hch⟩
end Go.Proofs.YtcbenidcaaegnaaDoor
