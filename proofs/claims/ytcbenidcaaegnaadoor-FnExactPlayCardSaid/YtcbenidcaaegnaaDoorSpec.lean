/-
  The reference: asked, get, add, set, del; Get, Add, Set, Del.
-/
import Derived.Test.YtcbenidcaaegnaaDoorKept
import Derived.Test.YtcbenidcaaegnaaDoorHEnts
namespace Go.Proofs.YtcbenidcaaegnaaDoor
open Go.RowKit
open Uv (Bytes Ent KV lk vals has addAll del sett add keys Uniq bulk bulkS kept fnd findI)

theorem vals_fnd_none {es : KV} {k : Bytes} (h : fnd es k = none) : vals es k = [] := by simp [vals, Uv.lk_fnd, h]
theorem vals_fnd_some {es : KV} {k : Bytes} {i : Nat} (h : fnd es k = some i) (hi : i < es.length) : vals es k = es[i].2 := by simp [vals, Uv.lk_fnd, h, hi]

set_option maxHeartbeats 400000 in
theorem specAsked_ok (F : Nat → Prop) (v : Value) (es : KV) (k : Bytes) (w : World) (hv : REnts F w v es) (hN : bulk es ≤ 4194304) :
    Calls Tryd.prog 36 #[v, encStr k] w (TextsPost (vals es k) (has es k) w) := by
  obtain ⟨a, ca, hsh, ha1, ha2, ha3⟩ := id hv
  subst hsh
  unfold maxLen at ha2
  cases hf : fnd es k with
  | none =>
    have H1 := Lib.hid (Uv.findI_none hf)
    have H2 := Lib.hid (Uv.has_fnd es k)
    have H3 := Lib.hid (vals_fnd_none hf)
    have HF := Lib.hid hf
    clear hf ha3
    go_enter Tryd.func36, Tryd.ntmps36
    go_wp2_with (go_at_call 34; refine (find_ok F _ es k _ hv).mono ?_; rintro e w1 ⟨rfl, rfl⟩; rw [H1.out])
    go_ret2
    rw [H2.out, HF.out, H3.out]
    exact ⟨_, _, rfl, ⟨World.ownsRow_lit w #[] 0 (Nat.zero_le _) (by simp [maxLen]) rfl, fun g hg => Nat.le_of_eq (own_new hg).symm⟩, (Chg.refl _ _).alloc _⟩
  | some i =>
    obtain ⟨hi, _⟩ := Uv.fnd_lt hf
    have H1 := Lib.hid (Uv.findI_some hf)
    have H2 := Lib.hid (Uv.has_fnd es k)
    have H3 := Lib.hid (vals_fnd_some hf hi)
    have HF := Lib.hid hf
    clear hf
    obtain ⟨b, off, sv, rfl, _, p1, p2, hr⟩ := ha3 i es[i] (by simp [hi])
    have hbl := Uv.mem_le_bulk (List.getElem_mem hi)
    have hvl := Uv.length_le_bulkS es[i].2
    clear ha3
    go_enter Tryd.func36, Tryd.ntmps36
    go_wp2_with (first | (go_at_call 34; refine (find_ok F _ es k _ hv).mono ?_; rintro e w1 ⟨rfl, rfl⟩; rw [H1.out]) | (go_at_call 59; refine (copied_ok F _ es[i].2 _ hr (by omega)).mono ?_; rintro e w2 ⟨a2, c2, rfl, hs2, hc2⟩))
    go_ret2
    rw [H2.out, HF.out, H3.out]
    exact ⟨_, _, rfl, hs2, hc2⟩

theorem get_ok (F : Nat → Prop) (v : Value) (es : KV) (k : Bytes) (w : World) (hv : REnts F w v es) (hN : bulk es ≤ 4194304) :
    Calls Tryd.prog 33 #[v, encStr k] w (Ret (encStr (Uv.hd (vals es k))) w) := by
  cases hx : vals es k with
  | nil =>
    have H := Lib.hid hx
    clear hx
    go_enter Tryd.func33, Tryd.ntmps33
    go_wp2_with (go_at_call 36; refine (specAsked_ok F v es k _ hv hN).mono ?_; rw [H.out]; rintro e w1 ⟨a1, c1, rfl, hs1, hc1⟩)
    go_ret
    exact ⟨rfl, hc1⟩
  | cons x r =>
    have H := Lib.hid hx
    clear hx
    go_enter Tryd.func33, Tryd.ntmps33
    go_wp2_with (go_at_call 36; refine (specAsked_ok F v es k _ hv hN).mono ?_; rw [H.out]; rintro e w1 ⟨a1, c1, rfl, hs1, hc1⟩; obtain ⟨ad', cap', he, _, _, hc⟩ := hs1.read; obtain ⟨c, off, had, _, hcell⟩ := hc 0 x rfl; simp only [Value.slice.injEq] at he; obtain ⟨rfl, _, rfl⟩ := he; subst had; simp only [Nat.add_zero] at hcell)
    go_ret
    exact ⟨rfl, hc1⟩


/-- a new slice of entries; of what was there the blocks of F may have turned -/
def EntsPost (F : Nat → Prop) (es' : KV) (w : World) (e : Ending) (w' : World) : Prop :=
  ∃ a cap, e = .returned (.slice a es'.length cap) ∧ OEnts (fun g => w.heap.size ≤ g) w' (.slice a es'.length cap) es' ∧ Chg F w w'

set_option maxHeartbeats 400000 in
theorem specadd_ok (F : Nat → Prop) (v : Value) (m : KV) (k x : Bytes) (w : World) (hv : HEnts F w v m) (hu : Uniq m) (hN : bulk m + k.length + x.length + 2 ≤ 4194304) :
    Calls Tryd.prog 30 #[v, encStr k, encStr x] w (EntsPost F (add m k x) w) := by
  have HK := Lib.hid (Uv.kept_snoc_uniq m hu k [x])
  have hml := Uv.length_le_bulk m
  have hbl : bulk (m ++ [(k, [x])]) ≤ 4194304 := by rw [Uv.bulk_append]; simp only [bulk, bulkS]; omega
  obtain ⟨xs, svs, hsl, hown, hvF, hrows⟩ := hv
  obtain ⟨a, c, hsh⟩ := ownsRow_shape hown
  subst hsh
  have hc2 : Chg None w ((w.alloc (.cells #[encStr x] 9)).alloc (.cells #[encStr k, .slice (some ⟨w.heap.size, 0, none⟩) 1 1] 28)) := ((Chg.refl _ _).alloc _).alloc _
  have hsv : RStrs (fun g => (F g ∨ w.heap.size ≤ g) ∧ some g ≠ (Value.slice a m.length c).ownBlock) ((w.alloc (.cells #[encStr x] 9)).alloc (.cells #[encStr k, .slice (some ⟨w.heap.size, 0, none⟩) 1 1] 28)) (.slice (some ⟨w.heap.size, 0, none⟩) 1 1) [x] := by
    have h1 : OStrs (fun g => (F g ∨ w.heap.size ≤ g) ∧ some g ≠ (Value.slice a m.length c).ownBlock) (w.alloc (.cells #[encStr x] 9)) (.slice (some ⟨w.heap.size, 0, none⟩) 1 1) [x] :=
      ⟨World.ownsRow_lit w #[encStr x] 1 (Nat.zero_le _) (by simp [maxLen]) rfl, fun g hg => by
        have := own_new hg
        subst this
        exact ⟨.inr (Nat.le_refl _), fun e => Nat.lt_irrefl _ (hown.lt _ e.symm).2⟩⟩
    exact h1.read.new ((Chg.refl _ _).alloc _)
  have HNB : Hid (((w.alloc (.cells #[encStr x] 9)).alloc (.cells #[encStr k, .slice (some ⟨w.heap.size, 0, none⟩) 1 1] 28)).heap[w.heap.size + 1]? = some (.cells #[encStr k, .slice (some ⟨w.heap.size, 0, none⟩) 1 1] 28 (0, 0))) := by
    have := heap_alloc_new (w.alloc (.cells #[encStr x] 9)) (.cells #[encStr k, .slice (some ⟨w.heap.size, 0, none⟩) 1 1] 28)
    show _ = _
    simpa using this
  have HR := Lib.hid hrows
  have HS := Lib.hid hsl
  clear hrows hsl
  go_enter Tryd.func30, Tryd.ntmps30
  go_wp2_with (first | (at_builtin; refine wpList_app _ elEnt rfl _ _ _ rfl (ownsRow_chg hown hc2 (fun _ _ x => x)) rfl (Src.ofSlice _ elEnt.ht ⟨w.heap.size + 1, 0, none⟩ 1 1 [encStr k, .slice (some ⟨w.heap.size, 0, none⟩) 1 1] rfl (World.news_of_block (cs := #[encStr k, .slice (some ⟨w.heap.size, 0, none⟩) 1 1]) (t := 28) (fr := (0, 0)) HNB.out) (by simp [Value.oneCell'])) rfl (by unfold maxLen; omega) (by omega) ?_; intro a4 c4 w4 hs4 hg4 hl4; have hH := hents_snoc (F' := fun g => F g ∨ w.heap.size ≤ g) (e := (k, [x])) HS.out hown HR.out (fun g hg => .inl (hvF g hg)) (fun _ _ h => .inl h) (fun _ h => .inr h) hc2 hg4 hs4 hl4 hsv) | (go_at_call 29; refine (Kept_ok _ _ (m ++ [(k, [x])]) _ (by simpa using hH.read) hbl).mono ?_; rw [HK.out]; rintro e w5 ⟨a5, c5, rfl, ho5, hc5⟩))
  go_ret
  refine ⟨_, _, rfl, ho5.mono (fun g _ hg => ?_), ?_⟩
  · have h1 := hc2.size
    have h2 := hg4.size
    omega
  · exact ((hc2.any).then (Chg.ofGrown hg4) (fun i _ e => hvF i e.symm)).none hc5

/-- entries whose rows are those of what was there; their own row is new -/
def DelPost (F : Nat → Prop) (es' : KV) (w : World) (e : Ending) (w' : World) : Prop :=
  ∃ a cap, e = .returned (.slice a es'.length cap) ∧ HEnts (fun g => F g ∨ w.heap.size ≤ g) w' (.slice a es'.length cap) es' ∧ (∀ g, (Value.slice a es'.length cap).ownBlock = some g → w.heap.size ≤ g) ∧ Chg None w w'

theorem del_take_keep {es : KV} {k : Bytes} {n : Nat} (hn : n < es.length) (h : ¬ es[n].1 = k) : del (es.take (n + 1)) k = del (es.take n) k ++ [es[n]] := by
  unfold del
  rw [List.take_succ_eq_append_getElem hn, List.filter_append, List.filter_cons]
  simp only [h, decide_false, Bool.not_false, if_true, List.filter_nil]
theorem del_take_drop {es : KV} {k : Bytes} {n : Nat} (hn : n < es.length) (h : es[n].1 = k) : del (es.take (n + 1)) k = del (es.take n) k := by
  unfold del
  rw [List.take_succ_eq_append_getElem hn, List.filter_append, List.filter_cons]
  simp only [h, decide_true, Bool.not_true, Bool.false_eq_true, if_false, List.filter_nil, List.append_nil]

set_option maxHeartbeats 1000000 in
theorem specdel_ok (F : Nat → Prop) (v : Value) (es : KV) (k : Bytes) (w : World) (hv : REnts F w v es) (hN : bulk es ≤ 4194304) :
    Calls Tryd.prog 32 #[v, encStr k] w (DelPost F (del es k) w) := by
  obtain ⟨a, ca, rfl, ha1, ha2, ha3⟩ := hv
  have hln := Uv.length_le_bulk es
  have HA := Lib.hid ha3
  clear ha3
  unfold maxLen at ha2
  go_enter Tryd.func32, Tryd.ntmps32
  go_wp2
  go_loopw [5, 6] (fun o i wr => ∃ n : Nat, n ≤ es.length ∧ i = .int .i64 n ∧ HEnts (fun g => F g ∨ w.heap.size ≤ g) wr o (del (es.take n) k) ∧ (∀ g, o.ownBlock = some g → w.heap.size ≤ g) ∧ Chg None w wr) (fun _ i _ => es.length - (intOf i).toNat)
  case atStart =>
    refine ⟨0, Nat.zero_le _, rfl, ⟨[], [], by simp [del], World.ownsRow_lit w #[] 0 (Nat.zero_le _) (by simp [maxLen]) rfl, fun g hg => .inr (Nat.le_of_eq (own_new hg).symm), fun i e sv he => by simp [del] at he⟩, fun g hg => Nat.le_of_eq (own_new hg).symm, (Chg.refl _ _).alloc _⟩
  case round =>
    obtain ⟨n, hn, rfl, hH, hnew, hch⟩ := hrel
    obtain ⟨ao, co, hsh⟩ := hH.shape
    subst hsh
    by_cases hlt : n < es.length
    · obtain ⟨b, off, sv, rfl, _, p1, p2, hr⟩ := HA.out n es[n] (by simp [hlt])
      have p1 := hch.cell p1 (fun x => x)
      have p2 := hch.cell p2 (fun x => x)
      have hr : RStrs (fun g => F g ∧ g < w.heap.size) wr sv es[n].2 := (hr.mono (fun g hg h => ⟨h, hg⟩)).new hch
      obtain ⟨a2, cap2, hsv, -⟩ := id hr
      subst hsv
      by_cases he : es[n].1 = k
      · have hb : (!es[n].1 == k) = false := by simp [he]
        have HT := Lib.hid (del_take_drop hlt he)
        have HE := Lib.hid he
        clear he
        go_wp2
        go_roundw
        case rel => exact ⟨n + 1, by omega, by go_num, by rw [HT.out]; exact hH, hnew, hch⟩
        case measure => simp [intOf]; omega
      · have hb : (!es[n].1 == k) = true := by simp [he]
        have HT := Lib.hid (del_take_keep hlt he)
        have HE := Lib.hid he
        clear he
        have hdl : (del (es.take n) k).length ≤ es.length := by
          unfold del
          exact Nat.le_trans (List.length_filter_le _ _) (by simp; omega)
        obtain ⟨xs, svs, hsl, hown, hvF, hrows⟩ := hH
        have HR := Lib.hid hrows
        have HS := Lib.hid hsl
        clear hrows hsl
        generalize del (es.take n) k = m at *
        have hsv2 : RStrs (fun g => (F g ∨ w.heap.size ≤ g) ∧ some g ≠ (Value.slice ao m.length co).ownBlock) wr (.slice a2 es[n].2.length cap2) es[n].2 := hr.mono (fun g _ h => ⟨.inl h.1, fun e => Nat.not_le.2 h.2 (hnew g e.symm)⟩)
        go_wp2_with (at_builtin; refine wpList_app _ elEnt rfl _ _ _ rfl (ownsRow_chg hown ((Chg.refl None wr).alloc _) (fun _ _ x => x)) rfl (Src.ofSlice _ elEnt.ht ⟨wr.heap.size, 0, none⟩ 1 1 [encStr es[n].1, .slice a2 es[n].2.length cap2] rfl (World.news_of_block (cs := #[encStr es[n].1, .slice a2 es[n].2.length cap2]) (t := 28) (fr := (0, 0)) (heap_alloc_new wr _)) (by simp [Value.oneCell'])) rfl (by unfold maxLen; omega) (by omega) ?_; intro a4 c4 w4 hs4 hg4 hl4)
        go_roundw
        case rel =>
          refine ⟨n + 1, by omega, by go_num, ?_, fun g hg => ?_, ?_⟩
          · rw [HT.out]
            exact hents_snoc HS.out hown HR.out hvF (fun _ _ h => h) (fun g hg => .inr (Nat.le_trans hch.size hg)) ((Chg.refl None wr).alloc _) hg4 hs4 hl4 (hsv2.new ((Chg.refl None wr).alloc _))
          · rcases hl4 with h | h
            · exact hnew g (h ▸ hg)
            · rw [h] at hg
              injection hg with hg
              have := hch.size
              simp at hg
              omega
          · exact (hch.alloc _).then (Chg.ofGrown hg4) (fun i hi e => absurd hi (Nat.not_lt.2 (hnew i e.symm)))
        case measure => simp [intOf]; omega
    · go_wp2
      go_ret
      rw [List.take_of_length_le (by omega)] at hH hnew ⊢
      exact ⟨_, _, rfl, hH, hnew, hch⟩

theorem specset_ok (F : Nat → Prop) (v : Value) (m : KV) (k x : Bytes) (w : World) (hv : HEnts F w v m) (hu : Uniq m) (hN : bulk m + k.length + x.length + 2 ≤ 4194304) :
    Calls Tryd.prog 31 #[v, encStr k, encStr x] w (EntsPost F (sett m k x) w) := by
  have hd := Uv.bulk_del m k
  have hud := hu.del k
  have hr := hv.read
  go_enter Tryd.func31, Tryd.ntmps31
  go_wp2_with (first | (go_at_call 32; refine (specdel_ok F v m k _ hr (by omega)).mono ?_; rintro e w1 ⟨a1, c1, rfl, hH1, hn1, hc1⟩) | (go_at_call 30; refine (specadd_ok _ _ (del m k) k x _ hH1 hud (by omega)).mono ?_; rintro e w2 ⟨a2, c2, rfl, hO2, hc2⟩))
  go_ret
  refine ⟨_, _, rfl, hO2.mono (fun g _ hg => Nat.le_trans hc1.size hg), ?_⟩
  exact (hc1.any).then hc2 (fun i hi h => h.elim id (fun h => absurd hi (Nat.not_lt.2 h)))



end Go.Proofs.YtcbenidcaaegnaaDoor
