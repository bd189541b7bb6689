/-
  FnEncodeTwo's walk: where keys, values and the key are of bulk at most 1048576 the law returns true, and writes nothing that was there.
-/
import Derived.Test.YtoeilmegjjmnkaaDoorOpen
import Derived.Test.YtoeilmegjjmnkaaDoorEntries
import Derived.Test.YtoeilmegjjmnkaaDoorEncode
import Derived.Test.YtoeilmegjjmnkaaDoorEncLaw
import Derived.Test.YtoeilmegjjmnkaaDoorXEnts
namespace Go.Proofs.YtoeilmegjjmnkaaDoor.fnEncodeTwo
open Go.RowKit
open Uv (Bytes Ent KV bulk bulkS kept enc joinA esc)

def low (key : Bytes) (es : KV) : KV := es.filter fun e => decide (e.1 < key)
def high (key : Bytes) (es : KV) : KV := es.filter fun e => !decide (e.1 < key)
theorem low_yes {key : Bytes} {es : KV} {n : Nat} (hn : n < es.length) (h : es[n].1 < key) : low key (es.take (n + 1)) = low key (es.take n) ++ [es[n]] ∧ high key (es.take (n + 1)) = high key (es.take n) := by
  unfold low high
  rw [List.take_succ_eq_append_getElem hn, List.filter_append, List.filter_append]
  simp [h]
theorem low_no {key : Bytes} {es : KV} {n : Nat} (hn : n < es.length) (h : ¬ es[n].1 < key) : low key (es.take (n + 1)) = low key (es.take n) ∧ high key (es.take (n + 1)) = high key (es.take n) ++ [es[n]] := by
  unfold low high
  rw [List.take_succ_eq_append_getElem hn, List.filter_append, List.filter_append]
  simp [h]
theorem bulk_filter (p : Ent → Bool) (es : KV) : bulk (es.filter p) ≤ bulk es := by
  induction es with
  | nil => simp
  | cons e r ih =>
    rw [List.filter_cons]
    split
    · simp only [bulk]; omega
    · simp only [bulk]; omega

theorem length_low (key : Bytes) (es : KV) (n : Nat) : (low key (es.take n)).length ≤ es.length ∧ (high key (es.take n)).length ≤ es.length := by
  unfold low high
  have h1 := List.length_filter_le (fun e : Ent => decide (e.1 < key)) (es.take n)
  have h2 := List.length_filter_le (fun e : Ent => !decide (e.1 < key)) (es.take n)
  have h3 : (es.take n).length ≤ es.length := by simp; omega
  omega
theorem app_apart {W : World} {u v v' : Value} (h : v'.ownBlock = v.ownBlock ∨ ∀ g, v'.ownBlock = some g → W.heap.size ≤ g) (hap : v.ownBlock = none ∨ v.ownBlock ≠ u.ownBlock) (hu : ∀ g, u.ownBlock = some g → g < W.heap.size) : v'.ownBlock = none ∨ v'.ownBlock ≠ u.ownBlock := by
  rcases h with e | e
  · rw [e]; exact hap
  · cases hv : v'.ownBlock with
    | none => exact .inl rfl
    | some g =>
      right
      intro e2
      have h1 := e g hv
      have h2 := hu g e2.symm
      omega
theorem amp_ne (key : Bytes) : ¬ esc (key ++ [38]) = [] := by
  rw [Uv.esc_append]
  intro h
  have := congrArg List.length h
  rw [List.length_append] at this
  have e : (esc [38]).length = 3 := by decide
  rw [e] at this
  simp at this

set_option maxRecDepth 100000 in
set_option maxHeartbeats 2000000 in
theorem walk (kv : Value) (ks : List Bytes) (vv : Value) (vss : List (List Bytes)) (key : Bytes) (w : World) (hk : RStrs All w kv ks) (hv : RTextss All w vv vss)
    (hb : bulkS ks + bulkSS vss + key.length ≤ 1048576) (hT : Tab w) : Calls Tryd.prog 7 #[kv, vv, encStr key] w (Ret (.bool true) w) := by
  have hz := Uv.bulk_zip ks bulkSS (fun _ _ => rfl) vss
  obtain ⟨es, hes⟩ : ∃ es, ks.zip vss = es := ⟨_, rfl⟩
  have hN0 : bulk (ks.zip vss) ≤ 4194304 := by omega
  rw [hes] at hz
  have HE := Lib.hid hes
  clear hes
  have hln := Uv.length_le_bulk es
  have hbl : bulk (low key es) ≤ 4194304 := by have := bulk_filter (fun e => decide (e.1 < key)) es; unfold low; omega
  have hbh : bulk (high key es) ≤ 4194304 := by have := bulk_filter (fun e => !decide (e.1 < key)) es; unfold high; omega
  have hll : (enc (kept (low key es))).length ≤ 120000000000000 := Uv.bnd (m := kept (low key es)) (Uv.uniq_kept _) (by have := Uv.bulk_kept (low key es); omega) (r := []) (by simp)
  have hlh : (enc (kept (high key es))).length ≤ 120000000000000 := Uv.bnd (m := kept (high key es)) (Uv.uniq_kept _) (by have := Uv.bulk_kept (high key es); omega) (r := []) (by simp)
  have HTW : Hid (enc (kept es) = Uv.amp (enc (kept (low key es))) (enc (kept (high key es)))) := Lib.hid (Uv.enc_two es key)
  obtain ⟨c0, r0, hcr⟩ := List.exists_cons_of_ne_nil (amp_ne key)
  have HC := Lib.hid hcr
  clear hcr
  go_enter Tryd.func7, Tryd.ntmps7
  go_wp2_with fail
  refine (entries_ok All _ _ ks vss _ hk hv hN0).mono ?_
  rw [HE.out]
  rintro e w1 ⟨a1, k1, rfl, o1, c1⟩
  have ho1 := o1.read
  obtain ⟨a, cap, hsh, h1, h2, h3⟩ := id ho1
  simp only [Value.slice.injEq] at hsh
  obtain ⟨rfl, _, rfl⟩ := hsh
  unfold maxLen at h2
  have H3 := Lib.hid h3
  clear h3 o1
  go_wp2
  go_loopw [8, 9, 20] (fun lo hi jv wr => ∃ n : Nat, n ≤ es.length ∧ jv = .int .i64 n ∧ XEnts (fun g => w.heap.size ≤ g) w1.heap.size wr lo (low key (es.take n)) ∧ XEnts (fun g => w.heap.size ≤ g) w1.heap.size wr hi (high key (es.take n)) ∧ (lo.ownBlock = none ∨ lo.ownBlock ≠ hi.ownBlock) ∧ Chg None w1 wr) (fun _ _ jv _ => es.length - (intOf jv).toNat)
  case atStart => exact ⟨0, Nat.zero_le _, rfl, XEnts.nil _ _ _, XEnts.nil _ _ _, .inl rfl, Chg.refl _ _⟩
  case round =>
    obtain ⟨n, hn, rfl, hL, hH, hap, hch⟩ := hrel
    obtain ⟨al, cl, hsl⟩ := hL.shape
    obtain ⟨ah, ch, hsh⟩ := hH.shape
    subst hsl
    subst hsh
    have hlen := length_low key es n
    have hHlt := fun g hg => (hH.lt g hg).2
    have hLlt := fun g hg => (hL.lt g hg).2
    have hbw := hch.size
    by_cases hlt : n < es.length
    · obtain ⟨b, off, sv, rfl, hfb, p1, p2, hr⟩ := H3.out n es[n] (by simp [hlt])
      have hr : RStrs (fun g => w.heap.size ≤ g ∧ g < w1.heap.size) wr sv es[n].2 := (hr.mono (fun g hg h => ⟨h, hg⟩)).new hch
      have p1 := hch.cell p1 (fun x => x)
      have p2 := hch.cell p2 (fun x => x)
      obtain ⟨a2, cap2, hsv, -⟩ := id hr
      subst hsv
      have hcA : Chg None wr (wr.alloc (.cells #[encStr es[n].1, .slice a2 es[n].2.length cap2] 28)) := (Chg.refl None wr).alloc _
      have hcB := hcA.alloc (.cells #[encStr es[n].1, .slice a2 es[n].2.length cap2] 28)
      have hrB := hr.new hcB
      have HNB : Hid (((wr.alloc (.cells #[encStr es[n].1, .slice a2 es[n].2.length cap2] 28)).alloc (.cells #[encStr es[n].1, .slice a2 es[n].2.length cap2] 28)).heap[wr.heap.size + 1]? = some (.cells #[encStr es[n].1, .slice a2 es[n].2.length cap2] 28 (0, 0))) := by
        have := heap_alloc_new (wr.alloc (.cells #[encStr es[n].1, .slice a2 es[n].2.length cap2] 28)) (.cells #[encStr es[n].1, .slice a2 es[n].2.length cap2] 28)
        show _ = _
        simpa using this
      by_cases hlk : es[n].1 < key
      · have hb1 := less_yes hlk
        have hb2 : Op.bytesLess es[n].1 key = true := by rw [less_eq]; simpa using hlk
        have HT := Lib.hid (low_yes hlt hlk)
        have HLK := Lib.hid hlk
        clear hlk
        obtain ⟨xs, svs, hsl, hown, hnew, hsay⟩ := hL
        have HS := Lib.hid hsl
        have HY := Lib.hid hsay
        clear hsl hsay
        go_wp2_with (at_builtin; refine wpList_app _ elEnt rfl _ _ _ rfl (ownsRow_chg hown hcB (fun _ _ x => x)) rfl (Src.ofSlice _ elEnt.ht ⟨wr.heap.size + 1, 0, none⟩ 1 1 [encStr es[n].1, .slice a2 es[n].2.length cap2] rfl (World.news_of_block (cs := #[encStr es[n].1, .slice a2 es[n].2.length cap2]) (t := 28) (fr := (0, 0)) HNB.out) (by simp [Value.oneCell'])) rfl (by unfold maxLen; omega) (by omega) ?_; intro a4 c4 w4 hs4 hg4 hl4)
        obtain ⟨hX, hc4, hl5⟩ := xents_app (ks := [es[n]]) (svs2 := [.slice a2 es[n].2.length cap2]) HS.out hown hnew HY.out hbw hcB hg4 hs4 rfl rfl hl4 rfl (says_one hrB)
        have hH4 := hH.kept hc4 (fun g hg e => by have := hnew g e.symm; omega) (fun g hg e => by
          rcases hap with h | h
          · rw [h] at e; cases e
          · exact h (by rw [← e, hg]))
        have hap4 := app_apart hl5 hap hHlt
        have hch4 : Chg None w1 w4 := hch.then hc4 (fun i hi e => absurd hi (Nat.not_lt.2 (hnew i e.symm)))
        clear hs4 hg4 hl4 hown hc4 HY HS hap hH
        go_roundw
        case rel => exact ⟨n + 1, by omega, by go_num, by rw [HT.out.1]; exact hX, by rw [HT.out.2]; exact hH4, hap4, hch4⟩
        case measure => simp [intOf]; omega
      · have hb1 := less_no hlk
        have hb2 : Op.bytesLess es[n].1 key = false := by rw [less_eq]; simpa using hlk
        have HT := Lib.hid (low_no hlt hlk)
        have HLK := Lib.hid hlk
        clear hlk
        obtain ⟨xs, svs, hsl, hown, hnew, hsay⟩ := hH
        have HS := Lib.hid hsl
        have HY := Lib.hid hsay
        clear hsl hsay
        go_wp2_with (at_builtin; refine wpList_app _ elEnt rfl _ _ _ rfl (ownsRow_chg hown hcB (fun _ _ x => x)) rfl (Src.ofSlice _ elEnt.ht ⟨wr.heap.size + 1, 0, none⟩ 1 1 [encStr es[n].1, .slice a2 es[n].2.length cap2] rfl (World.news_of_block (cs := #[encStr es[n].1, .slice a2 es[n].2.length cap2]) (t := 28) (fr := (0, 0)) HNB.out) (by simp [Value.oneCell'])) rfl (by unfold maxLen; omega) (by omega) ?_; intro a4 c4 w4 hs4 hg4 hl4)
        obtain ⟨hX, hc4, hl5⟩ := xents_app (ks := [es[n]]) (svs2 := [.slice a2 es[n].2.length cap2]) HS.out hown hnew HY.out hbw hcB hg4 hs4 rfl rfl hl4 rfl (says_one hrB)
        have hap' : (Value.slice ah (high key (es.take n)).length ch).ownBlock = none ∨ (Value.slice ah (high key (es.take n)).length ch).ownBlock ≠ (Value.slice al (low key (es.take n)).length cl).ownBlock := by
          rcases hap with h | h
          · cases hv : (Value.slice ah (high key (es.take n)).length ch).ownBlock with
            | none => exact .inl rfl
            | some g => right; rw [h]; simp
          · exact .inr (fun e => h e.symm)
        have hL4 := hL.kept hc4 (fun g hg e => by have := hnew g e.symm; omega) (fun g hg e => by
          rcases hap' with h | h
          · rw [h] at e; cases e
          · exact h (by rw [← e, hg]))
        have hap4 := app_apart hl5 hap' hLlt
        have hap5 : (Value.slice al (low key (es.take n)).length cl).ownBlock = none ∨ (Value.slice al (low key (es.take n)).length cl).ownBlock ≠ (Value.slice a4 ((high key (es.take n)).length + 1) c4).ownBlock := by
          rcases hap4 with h | h
          · cases hv : (Value.slice al (low key (es.take n)).length cl).ownBlock with
            | none => exact .inl rfl
            | some g => right; rw [h]; simp
          · exact .inr (fun e => h e.symm)
        have hch4 : Chg None w1 w4 := hch.then hc4 (fun i hi e => absurd hi (Nat.not_lt.2 (hnew i e.symm)))
        clear hs4 hg4 hl4 hown hc4 HY HS hap hap' hap4 hL
        go_roundw
        case rel => exact ⟨n + 1, by omega, by go_num, by rw [HT.out.1]; exact hL4, by rw [HT.out.2]; exact hX, hap5, hch4⟩
        case measure => simp [intOf]; omega
    · obtain rfl : n = es.length := by omega
      rw [List.take_of_length_le (Nat.le_refl _)] at hL hH ⊢
      have c2 := c1.trans hch
      go_wp2_with fail
      refine (implEncode_ok _ _ (low key es) _ hL.read (hT.new c2) hbl).mono ?_
      rintro e w5 ⟨rfl, c5⟩
      go_wp2_with fail
      refine (implEncode_ok _ _ (high key es) _ (hH.new c5).read ((hT.new c2).new c5) hbh).mono ?_
      rintro e w6 ⟨rfl, c6⟩
      have c26 := (c2.trans c5).trans c6
      have o6 := ho1.new ((hch.trans c5).trans c6)
      clear hL hH hap hHlt hLlt hlen
      generalize enc (kept (low key es)) = A at *
      generalize enc (kept (high key es)) = C at *
      have e9 : (⟨key.toArray⟩ : ByteArray) ++ ⟨#[38]⟩ = ⟨(key ++ [38]).toArray⟩ := str_add key [38]
      by_cases hA : A = []
      · have HAM : Hid (enc (kept es) = C) := by show _ = _; rw [HTW.out]; simp [Uv.amp, hA]
        have hbe : (C == C) = true := by simp
        subst hA
        have e1 : (⟨#[]⟩ : ByteArray) ++ ⟨#[]⟩ = ⟨#[]⟩ := str_add [] []
        have e2 : (⟨#[]⟩ : ByteArray) ++ ⟨C.toArray⟩ = ⟨C.toArray⟩ := str_add [] C
        go_wp2_with fail
        refine (implEncode_ok _ _ es _ o6 (hT.new c26) (by omega)).mono ?_
        rw [HAM.out]
        rintro e w7 ⟨rfl, c7⟩
        go_wp2_with fail
        refine (implQueryEscape_ok (key ++ [38]) _ ((hT.new c26).new c7) (by simp; omega)).mono ?_
        rw [HC.out]
        rintro e w8 ⟨rfl, c8⟩
        clear e9 e1 e2
        go_wp2
        go_ret
        exact ⟨rfl, (c26.trans c7).trans c8⟩
      · obtain ⟨a0, A', hA'⟩ := List.exists_cons_of_ne_nil hA
        subst hA'
        have hA1 : A'.length ≤ 120000000000000 := by rw [List.length_cons] at hll; omega
        by_cases hC : C = []
        · have HAM : Hid (enc (kept es) = a0 :: A') := by show _ = _; rw [HTW.out]; simp [Uv.amp, hC]
          have hbe : ((a0 :: A') == (a0 :: A')) = true := by simp
          subst hC
          have e1 : (⟨(a0 :: A').toArray⟩ : ByteArray) ++ ⟨#[]⟩ = ⟨(a0 :: A').toArray⟩ := by have := str_add (a0 :: A') []; rwa [List.append_nil] at this
          have e2 : True := trivial
          go_wp2_with fail
          refine (implEncode_ok _ _ es _ o6 (hT.new c26) (by omega)).mono ?_
          rw [HAM.out]
          rintro e w7 ⟨rfl, c7⟩
          go_wp2_with fail
          refine (implQueryEscape_ok (key ++ [38]) _ ((hT.new c26).new c7) (by simp; omega)).mono ?_
          rw [HC.out]
          rintro e w8 ⟨rfl, c8⟩
          clear e9 e1 e2
          go_wp2
          go_ret
          exact ⟨rfl, (c26.trans c7).trans c8⟩
        · obtain ⟨b0, C', hC'⟩ := List.exists_cons_of_ne_nil hC
          subst hC'
          have hC1 : C'.length ≤ 120000000000000 := by rw [List.length_cons] at hlh; omega
          obtain ⟨t1, ht1⟩ : ∃ t1, (a0 :: A') ++ [38] = t1 := ⟨_, rfl⟩
          obtain ⟨t2, ht2⟩ : ∃ t2, t1 ++ (b0 :: C') = t2 := ⟨_, rfl⟩
          have HAM : Hid (enc (kept es) = t2) := by show _ = _; rw [HTW.out, ← ht2, ← ht1]; simp [Uv.amp]
          have e1 : (⟨(a0 :: A').toArray⟩ : ByteArray) ++ ⟨#[38]⟩ = ⟨t1.toArray⟩ := by rw [← ht1]; exact str_add (a0 :: A') [38]
          have e2 : (⟨t1.toArray⟩ : ByteArray) ++ ⟨(b0 :: C').toArray⟩ = ⟨t2.toArray⟩ := by rw [← ht2]; exact str_add _ _
          have l1 : t1.length ≤ 120000000000001 := by rw [← ht1, List.length_append, List.length_singleton]; omega
          have hbe : (t2 == t2) = true := by simp
          clear ht1 ht2
          go_wp2_with fail
          refine (implEncode_ok _ _ es _ o6 (hT.new c26) (by omega)).mono ?_
          rw [HAM.out]
          rintro e w7 ⟨rfl, c7⟩
          go_wp2_with fail
          refine (implQueryEscape_ok (key ++ [38]) _ ((hT.new c26).new c7) (by simp; omega)).mono ?_
          rw [HC.out]
          rintro e w8 ⟨rfl, c8⟩
          clear e9 e1 e2
          go_wp2
          go_ret
          exact ⟨rfl, (c26.trans c7).trans c8⟩
end Go.Proofs.YtoeilmegjjmnkaaDoor.fnEncodeTwo
