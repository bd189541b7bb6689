/-
  The reference: asked, get, add, set, del; Get, Add, Set, Del.
-/
import Derived.Test.YtancnngphdakgaaKept
namespace Go.Proofs.Ytancnngphdakgaa
open Go.RowKit
open Uv (Bytes Ent KV lk vals has addAll del sett add keys Uniq bulk bulkS kept fnd findI)

theorem vals_fnd_none {es : KV} {k : Bytes} (h : fnd es k = none) : vals es k = [] := by simp [vals, Uv.lk_fnd, h]
theorem vals_fnd_some {es : KV} {k : Bytes} {i : Nat} (h : fnd es k = some i) (hi : i < es.length) : vals es k = es[i].2 := by simp [vals, Uv.lk_fnd, h, hi]

set_option maxHeartbeats 400000 in
theorem specAsked_ok (F : Nat → Prop) (v : Value) (es : KV) (k : Bytes) (w : World) (hv : REnts F w v es) (hN : bulk es ≤ 4194304) :
    Calls Try.prog 39 #[v, encStr k] w (TextsPost (vals es k) (has es k) w) := by
  obtain ⟨a, ca, hsh, ha1, ha2, ha3⟩ := id hv
  subst hsh
  unfold maxLen at ha2
  cases hf : fnd es k with
  | none =>
    have H1 := Lib.hid (Uv.findI_none hf)
    have H2 := Lib.hid (Uv.has_fnd es k)
    have H3 := Lib.hid (vals_fnd_none hf)
    have HF := Lib.hid hf
    clear hf ha3
    go_enter Try.func39, Try.ntmps39
    go_wp2_with (go_at_call 31; refine (find_ok F _ es k _ hv).mono ?_; rintro e w1 ⟨rfl, rfl⟩; rw [H1.out])
    go_ret2
    rw [H2.out, HF.out, H3.out]
    exact ⟨_, _, rfl, ⟨World.ownsRow_lit w #[] 0 (Nat.zero_le _) (by simp [maxLen]) rfl, fun g hg => Nat.le_of_eq (own_new hg).symm⟩, (Chg.refl _ _).alloc _⟩
  | some i =>
    obtain ⟨hi, _⟩ := Uv.fnd_lt hf
    have H1 := Lib.hid (Uv.findI_some hf)
    have H2 := Lib.hid (Uv.has_fnd es k)
    have H3 := Lib.hid (vals_fnd_some hf hi)
    have HF := Lib.hid hf
    clear hf
    obtain ⟨b, off, sv, rfl, _, p1, p2, hr⟩ := ha3 i es[i] (by simp [hi])
    have hbl := Uv.mem_le_bulk (List.getElem_mem hi)
    have hvl := Uv.length_le_bulkS es[i].2
    clear ha3
    go_enter Try.func39, Try.ntmps39
    go_wp2_with (first | (go_at_call 31; refine (find_ok F _ es k _ hv).mono ?_; rintro e w1 ⟨rfl, rfl⟩; rw [H1.out]) | (go_at_call 50; refine (copied_ok F _ es[i].2 _ hr (by omega)).mono ?_; rintro e w2 ⟨a2, c2, rfl, hs2, hc2⟩))
    go_ret2
    rw [H2.out, HF.out, H3.out]
    exact ⟨_, _, rfl, hs2, hc2⟩

theorem get_ok (F : Nat → Prop) (v : Value) (es : KV) (k : Bytes) (w : World) (hv : REnts F w v es) (hN : bulk es ≤ 4194304) :
    Calls Try.prog 36 #[v, encStr k] w (Ret (encStr (Uv.hd (vals es k))) w) := by
  cases hx : vals es k with
  | nil =>
    have H := Lib.hid hx
    clear hx
    go_enter Try.func36, Try.ntmps36
    go_wp2_with (go_at_call 39; refine (specAsked_ok F v es k _ hv hN).mono ?_; rw [H.out]; rintro e w1 ⟨a1, c1, rfl, hs1, hc1⟩)
    go_ret
    exact ⟨rfl, hc1⟩
  | cons x r =>
    have H := Lib.hid hx
    clear hx
    go_enter Try.func36, Try.ntmps36
    go_wp2_with (go_at_call 39; refine (specAsked_ok F v es k _ hv hN).mono ?_; rw [H.out]; rintro e w1 ⟨a1, c1, rfl, hs1, hc1⟩; obtain ⟨ad', cap', he, _, _, hc⟩ := hs1.read; obtain ⟨c, off, had, _, hcell⟩ := hc 0 x rfl; simp only [Value.slice.injEq] at he; obtain ⟨rfl, _, rfl⟩ := he; subst had; simp only [Nat.add_zero] at hcell)
    go_ret
    exact ⟨rfl, hc1⟩

theorem specGet_ok (F : Nat → Prop) (v : Value) (es : KV) (k : Bytes) (w : World) (hv : REnts F w v es) (hN : bulk es ≤ 4194304) :
    Calls Try.prog 16 #[v, encStr k] w (Ret (encStr (Uv.hd (vals (kept es) k))) w) := by
  have hk := Uv.bulk_kept es
  go_enter Try.func16, Try.ntmps16
  go_wp2_with (first | (go_at_call 37; refine (Kept_ok F v es _ hv hN).mono ?_; rintro e w1 ⟨a1, c1, rfl, ho1, hc1⟩) | (go_at_call 36; refine (get_ok _ _ (kept es) k _ ho1.read (by omega)).mono ?_; rintro e w2 ⟨rfl, hc2⟩))
  go_ret
  exact ⟨rfl, hc1.trans hc2⟩

/-- A slice of entries whose own row the call owns, in blocks of F; the entries' rows are read, in blocks of F beside it. -/
def HEnts (F : Nat → Prop) (w : World) (v : Value) (es : KV) : Prop :=
  ∃ xs svs : List Value, svs.length = es.length ∧ w.ownsRow 0 44 2 v es.length xs ∧ (∀ g, v.ownBlock = some g → F g) ∧
    ∀ (i : Nat) (e : Ent) (sv : Value), es[i]? = some e → svs[i]? = some sv → xs[i * 2]? = some (encStr e.1) ∧ xs[i * 2 + 1]? = some sv ∧ RStrs (fun g => F g ∧ some g ≠ v.ownBlock) w sv e.2

theorem OEnts.head {F : Nat → Prop} {w : World} {v : Value} {es : KV} (h : OEnts F w v es) : HEnts F w v es := by
  obtain ⟨xs, svs, h1, h2, h3, h4, _⟩ := h
  refine ⟨xs, svs, h1, h2, h3, fun i e sv he hs => ?_⟩
  obtain ⟨a1, a2, a3⟩ := h4 i e sv he hs
  refine ⟨a1, a2, ?_⟩
  have : OStrs (fun g => F g ∧ some g ≠ v.ownBlock) w sv e.2 := ⟨a3.1, fun g hg => ⟨a3.2 g hg, fun e => row_ne h2 a3 e.symm hg⟩⟩
  exact this.read

theorem HEnts.mono {F G : Nat → Prop} {w : World} {v : Value} {es : KV} (h : HEnts F w v es) (hs : ∀ k, k < w.heap.size → F k → G k) : HEnts G w v es := by
  obtain ⟨xs, svs, h1, h2, h3, h4⟩ := h
  exact ⟨xs, svs, h1, h2, fun g hg => hs g (h2.lt g hg).2 (h3 g hg), fun i e sv he hsv => ⟨(h4 i e sv he hsv).1, (h4 i e sv he hsv).2.1, (h4 i e sv he hsv).2.2.mono (fun k hk h => ⟨hs k hk h.1, h.2⟩)⟩⟩

theorem HEnts.kept {F G : Nat → Prop} {w w' : World} {v : Value} {es : KV} (h : HEnts F w v es) (hc : Chg G w w') (hd : ∀ k, k < w.heap.size → F k → ¬ G k) : HEnts F w' v es := by
  obtain ⟨xs, svs, h1, h2, h3, h4⟩ := h
  exact ⟨xs, svs, h1, ownsRow_chg h2 hc (fun g hg => hd g (h2.lt g hg).2 (h3 g hg)), h3, fun i e sv he hsv => ⟨(h4 i e sv he hsv).1, (h4 i e sv he hsv).2.1, (h4 i e sv he hsv).2.2.kept hc (fun k hk h => hd k hk h.1)⟩⟩
theorem HEnts.new {F : Nat → Prop} {w w' : World} {v : Value} {es : KV} (h : HEnts F w v es) (hc : Chg None w w') : HEnts F w' v es := h.kept hc (fun _ _ _ x => x)

theorem HEnts.shape {F : Nat → Prop} {w : World} {v : Value} {es : KV} (h : HEnts F w v es) : ∃ a cap, v = .slice a es.length cap := by
  obtain ⟨xs, svs, h1, h2, h3⟩ := h
  exact ownsRow_shape h2

theorem HEnts.read {F : Nat → Prop} {w : World} {v : Value} {es : KV} (h : HEnts F w v es) : REnts F w v es := by
  obtain ⟨xs, svs, h1, h2, h3, h4⟩ := h
  have hcs := fun g => h2.cells (g := g)
  rcases h2.2 with ⟨rfl, hn⟩ | ⟨g, cap, cur, rfl, _, _, hnc, hcm, _⟩
  · have : es = [] := List.eq_nil_of_length_eq_zero hn
    subst this
    exact ⟨none, 0, rfl, Nat.le_refl _, by simp [maxLen], fun i x hx => by simp at hx⟩
  · refine ⟨_, cap, rfl, hnc, hcm, fun i e he => ?_⟩
    have hi : i < es.length := by rw [List.getElem?_eq_some_iff] at he; exact he.1
    obtain ⟨sv, hsv⟩ := get_of_len h1 hi
    obtain ⟨a1, a2, a3⟩ := h4 i e sv he hsv
    refine ⟨g, 0, sv, rfl, h3 g rfl, ?_, ?_, a3.mono (fun _ _ h => h.1)⟩
    · have := hcs g rfl (i * 2) _ a1
      rwa [add_off] at this
    · have := hcs g rfl (i * 2 + 1) _ a2
      rwa [add_off] at this

/-- 'append(l, Entry..)' of such a slice -/
theorem hents_snoc {F F' : Nat → Prop} {w W3 w4 : World} {v v' : Value} {es : KV} {e : Ent} {sv : Value} {xs svs : List Value} (hsl : svs.length = es.length) (hown : w.ownsRow 0 44 2 v es.length xs)
    (hrows : ∀ (i : Nat) (e : Ent) (sv : Value), es[i]? = some e → svs[i]? = some sv → xs[i * 2]? = some (encStr e.1) ∧ xs[i * 2 + 1]? = some sv ∧ RStrs (fun g => F g ∧ some g ≠ v.ownBlock) w sv e.2)
    (hvF : ∀ g, v.ownBlock = some g → F' g) (hFF : ∀ g, g < w.heap.size → F g → F' g) (hF : ∀ g, w.heap.size ≤ g → F' g) (hc : Chg None w W3) (hg : W3.grownBy w4 v.ownBlock) (hs : w4.ownsRow 0 44 2 v' (es.length + 1) (xs ++ [encStr e.1, sv]))
    (hl : v'.ownBlock = v.ownBlock ∨ v'.ownBlock = some W3.heap.size) (hsv : RStrs (fun g => F' g ∧ some g ≠ v.ownBlock) W3 sv e.2) : HEnts F' w4 v' (es ++ [e]) := by
  have hg4 : Chg (fun g => some g = v.ownBlock) w w4 := hc.any.trans (Chg.ofGrown hg)
  have hx := hown.1
  have hne : ∀ {W : World} {s : Value} {ss : List Bytes}, W.heap.size ≤ W3.heap.size → RStrs (fun g => F' g ∧ some g ≠ v.ownBlock) W s ss → RStrs (fun g => F' g ∧ some g ≠ v.ownBlock ∧ some g ≠ v'.ownBlock) W s ss := fun {W s ss} hW h =>
    h.mono (fun k hk hkk => ⟨hkk.1, hkk.2, fun e => by
      rcases hl with h | h
      · exact hkk.2 (by rw [e, h])
      · rw [h] at e
        injection e with e
        omega⟩)
  refine ⟨xs ++ [encStr e.1, sv], svs ++ [sv], by simp [hsl], by simpa using hs, fun g hgv => ?_, fun i e' sv' he hs' => ?_⟩
  · rcases hl with hl | hl
    · exact hvF g (hl ▸ hgv)
    · rw [hl] at hgv
      injection hgv with hgv
      exact hF g (by have := hc.size; omega)
  · by_cases hi : i < es.length
    · rw [List.getElem?_append_left hi] at he
      rw [List.getElem?_append_left (by omega)] at hs'
      obtain ⟨a1, a2, a3⟩ := hrows i e' sv' he hs'
      rw [List.getElem?_append_left (by omega), List.getElem?_append_left (by omega)]
      refine ⟨a1, a2, ?_⟩
      have a4 : RStrs (fun g => F' g ∧ some g ≠ v.ownBlock) w sv' e'.2 := a3.mono (fun k hk h => ⟨hFF k hk h.1, h.2⟩)
      exact ((hne hc.size a4).kept hg4 (fun k _ h e => h.2.1 e)).mono (fun _ _ h => ⟨h.1, h.2.2⟩)
    · have hi' : i = es.length := by
        have := (List.getElem?_eq_some_iff.1 he).1
        simp only [List.length_append, List.length_cons, List.length_nil] at this
        omega
      subst hi'
      rw [List.getElem?_append_right (Nat.le_refl _)] at he
      rw [List.getElem?_append_right (by omega)] at hs'
      rw [List.getElem?_append_right (by omega), List.getElem?_append_right (by omega)]
      simp at he
      rw [hsl] at hs'
      simp at hs'
      subst he
      subst hs'
      rw [hx, show es.length * 2 - es.length * 2 = 0 by omega, show es.length * 2 + 1 - es.length * 2 = 1 by omega]
      exact ⟨rfl, rfl, ((hne (Nat.le_refl _) hsv).kept (Chg.ofGrown hg) (fun k _ h e => h.2.1 e)).mono (fun _ _ h => ⟨h.1, h.2.2⟩)⟩

/-- a new slice of entries; of what was there the blocks of F may have turned -/
def EntsPost (F : Nat → Prop) (es' : KV) (w : World) (e : Ending) (w' : World) : Prop :=
  ∃ a cap, e = .returned (.slice a es'.length cap) ∧ OEnts (fun g => w.heap.size ≤ g) w' (.slice a es'.length cap) es' ∧ Chg F w w'

set_option maxHeartbeats 400000 in
theorem specadd_ok (F : Nat → Prop) (v : Value) (m : KV) (k x : Bytes) (w : World) (hv : HEnts F w v m) (hu : Uniq m) (hN : bulk m + k.length + x.length + 2 ≤ 4194304) :
    Calls Try.prog 40 #[v, encStr k, encStr x] w (EntsPost F (add m k x) w) := by
  have HK := Lib.hid (Uv.kept_snoc_uniq m hu k [x])
  have hml := Uv.length_le_bulk m
  have hbl : bulk (m ++ [(k, [x])]) ≤ 4194304 := by rw [Uv.bulk_append]; simp only [bulk, bulkS]; omega
  obtain ⟨xs, svs, hsl, hown, hvF, hrows⟩ := hv
  obtain ⟨a, c, hsh⟩ := ownsRow_shape hown
  subst hsh
  have hc2 : Chg None w ((w.alloc (.cells #[encStr x] 9)).alloc (.cells #[encStr k, .slice (some ⟨w.heap.size, 0, none⟩) 1 1] 44)) := ((Chg.refl _ _).alloc _).alloc _
  have hsv : RStrs (fun g => (F g ∨ w.heap.size ≤ g) ∧ some g ≠ (Value.slice a m.length c).ownBlock) ((w.alloc (.cells #[encStr x] 9)).alloc (.cells #[encStr k, .slice (some ⟨w.heap.size, 0, none⟩) 1 1] 44)) (.slice (some ⟨w.heap.size, 0, none⟩) 1 1) [x] := by
    have h1 : OStrs (fun g => (F g ∨ w.heap.size ≤ g) ∧ some g ≠ (Value.slice a m.length c).ownBlock) (w.alloc (.cells #[encStr x] 9)) (.slice (some ⟨w.heap.size, 0, none⟩) 1 1) [x] :=
      ⟨World.ownsRow_lit w #[encStr x] 1 (Nat.zero_le _) (by simp [maxLen]) rfl, fun g hg => by
        have := own_new hg
        subst this
        exact ⟨.inr (Nat.le_refl _), fun e => Nat.lt_irrefl _ (hown.lt _ e.symm).2⟩⟩
    exact h1.read.new ((Chg.refl _ _).alloc _)
  have HNB : Hid (((w.alloc (.cells #[encStr x] 9)).alloc (.cells #[encStr k, .slice (some ⟨w.heap.size, 0, none⟩) 1 1] 44)).heap[w.heap.size + 1]? = some (.cells #[encStr k, .slice (some ⟨w.heap.size, 0, none⟩) 1 1] 44 (0, 0))) := by
    have := heap_alloc_new (w.alloc (.cells #[encStr x] 9)) (.cells #[encStr k, .slice (some ⟨w.heap.size, 0, none⟩) 1 1] 44)
    show _ = _
    simpa using this
  have HR := Lib.hid hrows
  have HS := Lib.hid hsl
  clear hrows hsl
  go_enter Try.func40, Try.ntmps40
  go_wp2_with (first | (at_builtin; refine wpList_app _ elEnt rfl _ _ _ rfl (ownsRow_chg hown hc2 (fun _ _ x => x)) rfl (Src.ofSlice _ elEnt.ht ⟨w.heap.size + 1, 0, none⟩ 1 1 [encStr k, .slice (some ⟨w.heap.size, 0, none⟩) 1 1] rfl (World.news_of_block (cs := #[encStr k, .slice (some ⟨w.heap.size, 0, none⟩) 1 1]) (t := 44) (fr := (0, 0)) HNB.out) (by simp [Value.oneCell'])) rfl (by unfold maxLen; omega) (by omega) ?_; intro a4 c4 w4 hs4 hg4 hl4; have hH := hents_snoc (F' := fun g => F g ∨ w.heap.size ≤ g) (e := (k, [x])) HS.out hown HR.out (fun g hg => .inl (hvF g hg)) (fun _ _ h => .inl h) (fun _ h => .inr h) hc2 hg4 hs4 hl4 hsv) | (go_at_call 37; refine (Kept_ok _ _ (m ++ [(k, [x])]) _ (by simpa using hH.read) hbl).mono ?_; rw [HK.out]; rintro e w5 ⟨a5, c5, rfl, ho5, hc5⟩))
  go_ret
  refine ⟨_, _, rfl, ho5.mono (fun g _ hg => ?_), ?_⟩
  · have h1 := hc2.size
    have h2 := hg4.size
    omega
  · exact ((hc2.any).then (Chg.ofGrown hg4) (fun i _ e => hvF i e.symm)).none hc5

/-- entries whose rows are those of what was there; their own row is new -/
def DelPost (F : Nat → Prop) (es' : KV) (w : World) (e : Ending) (w' : World) : Prop :=
  ∃ a cap, e = .returned (.slice a es'.length cap) ∧ HEnts (fun g => F g ∨ w.heap.size ≤ g) w' (.slice a es'.length cap) es' ∧ (∀ g, (Value.slice a es'.length cap).ownBlock = some g → w.heap.size ≤ g) ∧ Chg None w w'

theorem del_take_keep {es : KV} {k : Bytes} {n : Nat} (hn : n < es.length) (h : ¬ es[n].1 = k) : del (es.take (n + 1)) k = del (es.take n) k ++ [es[n]] := by
  unfold del
  rw [List.take_succ_eq_append_getElem hn, List.filter_append, List.filter_cons]
  simp only [h, decide_false, Bool.not_false, if_true, List.filter_nil]
theorem del_take_drop {es : KV} {k : Bytes} {n : Nat} (hn : n < es.length) (h : es[n].1 = k) : del (es.take (n + 1)) k = del (es.take n) k := by
  unfold del
  rw [List.take_succ_eq_append_getElem hn, List.filter_append, List.filter_cons]
  simp only [h, decide_true, Bool.not_true, Bool.false_eq_true, if_false, List.filter_nil, List.append_nil]

set_option maxHeartbeats 1000000 in
theorem specdel_ok (F : Nat → Prop) (v : Value) (es : KV) (k : Bytes) (w : World) (hv : REnts F w v es) (hN : bulk es ≤ 4194304) :
    Calls Try.prog 44 #[v, encStr k] w (DelPost F (del es k) w) := by
  obtain ⟨a, ca, rfl, ha1, ha2, ha3⟩ := hv
  have hln := Uv.length_le_bulk es
  have HA := Lib.hid ha3
  clear ha3
  unfold maxLen at ha2
  go_enter Try.func44, Try.ntmps44
  go_wp2
  go_loopw [5, 6] (fun o i wr => ∃ n : Nat, n ≤ es.length ∧ i = .int .i64 n ∧ HEnts (fun g => F g ∨ w.heap.size ≤ g) wr o (del (es.take n) k) ∧ (∀ g, o.ownBlock = some g → w.heap.size ≤ g) ∧ Chg None w wr) (fun _ i _ => es.length - (intOf i).toNat)
  case atStart =>
    refine ⟨0, Nat.zero_le _, rfl, ⟨[], [], by simp [del], World.ownsRow_lit w #[] 0 (Nat.zero_le _) (by simp [maxLen]) rfl, fun g hg => .inr (Nat.le_of_eq (own_new hg).symm), fun i e sv he => by simp [del] at he⟩, fun g hg => Nat.le_of_eq (own_new hg).symm, (Chg.refl _ _).alloc _⟩
  case round =>
    obtain ⟨n, hn, rfl, hH, hnew, hch⟩ := hrel
    obtain ⟨ao, co, hsh⟩ := hH.shape
    subst hsh
    by_cases hlt : n < es.length
    · obtain ⟨b, off, sv, rfl, _, p1, p2, hr⟩ := HA.out n es[n] (by simp [hlt])
      have p1 := hch.cell p1 (fun x => x)
      have p2 := hch.cell p2 (fun x => x)
      have hr : RStrs (fun g => F g ∧ g < w.heap.size) wr sv es[n].2 := (hr.mono (fun g hg h => ⟨h, hg⟩)).new hch
      obtain ⟨a2, cap2, hsv, -⟩ := id hr
      subst hsv
      by_cases he : es[n].1 = k
      · have hb : (!es[n].1 == k) = false := by simp [he]
        have HT := Lib.hid (del_take_drop hlt he)
        have HE := Lib.hid he
        clear he
        go_wp2
        go_roundw
        case rel => exact ⟨n + 1, by omega, by go_num, by rw [HT.out]; exact hH, hnew, hch⟩
        case measure => simp [intOf]; omega
      · have hb : (!es[n].1 == k) = true := by simp [he]
        have HT := Lib.hid (del_take_keep hlt he)
        have HE := Lib.hid he
        clear he
        have hdl : (del (es.take n) k).length ≤ es.length := by
          unfold del
          exact Nat.le_trans (List.length_filter_le _ _) (by simp; omega)
        obtain ⟨xs, svs, hsl, hown, hvF, hrows⟩ := hH
        have HR := Lib.hid hrows
        have HS := Lib.hid hsl
        clear hrows hsl
        generalize del (es.take n) k = m at *
        have hsv2 : RStrs (fun g => (F g ∨ w.heap.size ≤ g) ∧ some g ≠ (Value.slice ao m.length co).ownBlock) wr (.slice a2 es[n].2.length cap2) es[n].2 := hr.mono (fun g _ h => ⟨.inl h.1, fun e => Nat.not_le.2 h.2 (hnew g e.symm)⟩)
        go_wp2_with (at_builtin; refine wpList_app _ elEnt rfl _ _ _ rfl (ownsRow_chg hown ((Chg.refl None wr).alloc _) (fun _ _ x => x)) rfl (Src.ofSlice _ elEnt.ht ⟨wr.heap.size, 0, none⟩ 1 1 [encStr es[n].1, .slice a2 es[n].2.length cap2] rfl (World.news_of_block (cs := #[encStr es[n].1, .slice a2 es[n].2.length cap2]) (t := 44) (fr := (0, 0)) (heap_alloc_new wr _)) (by simp [Value.oneCell'])) rfl (by unfold maxLen; omega) (by omega) ?_; intro a4 c4 w4 hs4 hg4 hl4)
        go_roundw
        case rel =>
          refine ⟨n + 1, by omega, by go_num, ?_, fun g hg => ?_, ?_⟩
          · rw [HT.out]
            exact hents_snoc HS.out hown HR.out hvF (fun _ _ h => h) (fun g hg => .inr (Nat.le_trans hch.size hg)) ((Chg.refl None wr).alloc _) hg4 hs4 hl4 (hsv2.new ((Chg.refl None wr).alloc _))
          · rcases hl4 with h | h
            · exact hnew g (h ▸ hg)
            · rw [h] at hg
              injection hg with hg
              have := hch.size
              simp at hg
              omega
          · exact (hch.alloc _).then (Chg.ofGrown hg4) (fun i hi e => absurd hi (Nat.not_lt.2 (hnew i e.symm)))
        case measure => simp [intOf]; omega
    · go_wp2
      go_ret
      rw [List.take_of_length_le (by omega)] at hH hnew ⊢
      exact ⟨_, _, rfl, hH, hnew, hch⟩

theorem specset_ok (F : Nat → Prop) (v : Value) (m : KV) (k x : Bytes) (w : World) (hv : HEnts F w v m) (hu : Uniq m) (hN : bulk m + k.length + x.length + 2 ≤ 4194304) :
    Calls Try.prog 46 #[v, encStr k, encStr x] w (EntsPost F (sett m k x) w) := by
  have hd := Uv.bulk_del m k
  have hud := hu.del k
  have hr := hv.read
  go_enter Try.func46, Try.ntmps46
  go_wp2_with (first | (go_at_call 44; refine (specdel_ok F v m k _ hr (by omega)).mono ?_; rintro e w1 ⟨a1, c1, rfl, hH1, hn1, hc1⟩) | (go_at_call 40; refine (specadd_ok _ _ (del m k) k x _ hH1 hud (by omega)).mono ?_; rintro e w2 ⟨a2, c2, rfl, hO2, hc2⟩))
  go_ret
  refine ⟨_, _, rfl, hO2.mono (fun g _ hg => Nat.le_trans hc1.size hg), ?_⟩
  exact (hc1.any).then hc2 (fun i hi h => h.elim id (fun h => absurd hi (Nat.not_lt.2 h)))

theorem specAdd_ok (F : Nat → Prop) (v : Value) (es : KV) (k x q : Bytes) (w : World) (hv : REnts F w v es) (hN : bulk es + k.length + x.length + 2 ≤ 4194304) :
    Calls Try.prog 18 #[v, encStr k, encStr x, encStr q] w (TextsPost (vals (add (kept es) k x) q) (has (add (kept es) k x) q) w) := by
  have hk := Uv.bulk_kept es
  have hb := Uv.bulk_add (kept es) k x
  go_enter Try.func18, Try.ntmps18
  go_wp2_with (first | (go_at_call 37; refine (Kept_ok F v es _ hv (by omega)).mono ?_; rintro e w1 ⟨a1, c1, rfl, ho1, hc1⟩) | (go_at_call 40; refine (specadd_ok _ _ (kept es) k x _ ho1.head (Uv.uniq_kept es) (by omega)).mono ?_; rintro e w2 ⟨a2, c2, rfl, ho2, hc2⟩; have hc2 : Chg None w w2 := hc1.then hc2 (fun i hi h => absurd hi (Nat.not_lt.2 h))) | (go_at_call 39; refine (specAsked_ok _ _ (add (kept es) k x) q _ ho2.read (by omega)).mono ?_; rintro e w3 ⟨a3, c3, rfl, hs3, hc3⟩))
  go_ret2
  exact ⟨_, _, rfl, hs3.mono (fun g _ hg => Nat.le_trans hc2.size hg), hc2.trans hc3⟩

theorem specSet_ok (F : Nat → Prop) (v : Value) (es : KV) (k x q : Bytes) (w : World) (hv : REnts F w v es) (hN : bulk es + k.length + x.length + 2 ≤ 4194304) :
    Calls Try.prog 26 #[v, encStr k, encStr x, encStr q] w (TextsPost (vals (sett (kept es) k x) q) (has (sett (kept es) k x) q) w) := by
  have hk := Uv.bulk_kept es
  have hb := Uv.bulk_sett (kept es) k x
  go_enter Try.func26, Try.ntmps26
  go_wp2_with (first | (go_at_call 37; refine (Kept_ok F v es _ hv (by omega)).mono ?_; rintro e w1 ⟨a1, c1, rfl, ho1, hc1⟩) | (go_at_call 46; refine (specset_ok _ _ (kept es) k x _ ho1.head (Uv.uniq_kept es) (by omega)).mono ?_; rintro e w2 ⟨a2, c2, rfl, ho2, hc2⟩; have hc2 : Chg None w w2 := hc1.then hc2 (fun i hi h => absurd hi (Nat.not_lt.2 h))) | (go_at_call 39; refine (specAsked_ok _ _ (sett (kept es) k x) q _ ho2.read (by omega)).mono ?_; rintro e w3 ⟨a3, c3, rfl, hs3, hc3⟩))
  go_ret2
  exact ⟨_, _, rfl, hs3.mono (fun g _ hg => Nat.le_trans hc2.size hg), hc2.trans hc3⟩

theorem specDel_ok (F : Nat → Prop) (v : Value) (es : KV) (k q : Bytes) (w : World) (hv : REnts F w v es) (hN : bulk es ≤ 4194304) :
    Calls Try.prog 24 #[v, encStr k, encStr q] w (TextsPost (vals (del (kept es) k) q) (has (del (kept es) k) q) w) := by
  have hk := Uv.bulk_kept es
  have hb := Uv.bulk_del (kept es) k
  go_enter Try.func24, Try.ntmps24
  go_wp2_with (first | (go_at_call 37; refine (Kept_ok F v es _ hv (by omega)).mono ?_; rintro e w1 ⟨a1, c1, rfl, ho1, hc1⟩) | (go_at_call 44; refine (specdel_ok _ _ (kept es) k _ ho1.read (by omega)).mono ?_; rintro e w2 ⟨a2, c2, rfl, ho2, _, hc2⟩; have hc2 : Chg None w w2 := hc1.trans hc2) | (go_at_call 39; refine (specAsked_ok _ _ (del (kept es) k) q _ ho2.read (by omega)).mono ?_; rintro e w3 ⟨a3, c3, rfl, hs3, hc3⟩))
  go_ret2
  exact ⟨_, _, rfl, hs3.mono (fun g _ hg => Nat.le_trans hc2.size hg), hc2.trans hc3⟩
end Go.Proofs.Ytancnngphdakgaa
