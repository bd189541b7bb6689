/-
  FnEncodeOrder's walk: where keys and values are of bulk at most 1048576 the law returns true, and writes nothing that was there.
-/
import Derived.Test.YtoeilmegjjmnkaaDoorOpen
import Derived.Test.YtoeilmegjjmnkaaDoorEntries
import Derived.Test.YtoeilmegjjmnkaaDoorEncode
import Derived.Test.YtoeilmegjjmnkaaDoorEncLaw
import Derived.Test.YtoeilmegjjmnkaaDoorXEnts
import Derived.Test.YtoeilmegjjmnkaaDoorKept
namespace Go.Proofs.YtoeilmegjjmnkaaDoor.fnEncodeOrder
open Go.RowKit
open Uv (Bytes Ent KV bulk bulkS kept enc cnt)

/-- the place ahead of the first n, counted down -/
def Down (n : Nat) (iv : Value) : Prop := (n = 0 ∧ iv = .int .i64 (-1)) ∨ ∃ i : Nat, n = i + 1 ∧ iv = .int .i64 (i : Int)
theorem down_of {n : Nat} {C : Int} (h : C = (n : Int) - 1) : Down n (.int .i64 C) := by
  cases n with
  | zero => exact .inl ⟨rfl, by rw [h]; rfl⟩
  | succ i => exact .inr ⟨i, rfl, by rw [h]; congr 1; omega⟩
theorem bulk_reverse (m : KV) : bulk m.reverse = bulk m := by
  induction m with
  | nil => rfl
  | cons e r ih => rw [List.reverse_cons, Uv.bulk_append, ih]; simp only [bulk]; omega

set_option maxRecDepth 100000 in
set_option maxHeartbeats 2000000 in
theorem walk (kv : Value) (ks : List Bytes) (vv : Value) (vss : List (List Bytes)) (w : World) (hk : RStrs All w kv ks) (hv : RTextss All w vv vss)
    (hb : bulkS ks + bulkSS vss ≤ 1048576) (hT : Tab w) : Calls Tryd.prog 3 #[kv, vv] w (Ret (.bool true) w) := by
  have hz := Uv.bulk_zip ks bulkSS (fun _ _ => rfl) vss
  obtain ⟨es, hes⟩ : ∃ es, ks.zip vss = es := ⟨_, rfl⟩
  have hN0 : bulk (ks.zip vss) ≤ 4194304 := by omega
  rw [hes] at hz
  have HE := Lib.hid hes
  clear hes
  have hbm : bulk (kept es) ≤ 1048576 := by have := Uv.bulk_kept es; omega
  have hcn : cnt (kept es) ≤ 1048576 := by have := Uv.cnt_le (kept es); omega
  have hln : (kept es).length ≤ 1048576 := by have := Uv.length_le_bulk (kept es); omega
  have hu := Uv.uniq_kept es
  have HK := Lib.hid (Uv.kept_uniq (kept es) hu)
  have HKR := Lib.hid (Uv.kept_uniq (kept es).reverse (Uv.uniq_reverse hu))
  have HER := Lib.hid (Uv.enc_reverse hu)
  have HZ := Lib.hid (Uv.enc_nil_iff hu)
  have hbr := bulk_reverse (kept es)
  clear hu
  go_enter Tryd.func3, Tryd.ntmps3
  go_wp2_with fail
  refine (entries_ok All _ _ ks vss _ hk hv hN0).mono ?_
  rw [HE.out]
  rintro e w1 ⟨a1, k1, rfl, o1, c1⟩
  go_wp2_with fail
  refine (Kept_ok _ _ es _ o1.read (by omega)).mono ?_
  rintro e w2 ⟨a2, k2, rfl, o2, c2⟩
  generalize kept es = m at *
  have ho2 := o2.read
  have c12 := c1.trans c2
  obtain ⟨a, cap, hsh, h1, h2, h3⟩ := id ho2
  simp only [Value.slice.injEq] at hsh
  obtain ⟨rfl, _, rfl⟩ := hsh
  unfold maxLen at h2
  have H3 := Lib.hid h3
  have HBR := Lib.hid hbr
  clear h3 o1 o2 c1 c2 hbr
  go_wp2
  go_loopw [6, 7] (fun o iv wr => ∃ n : Nat, n ≤ m.length ∧ Down n iv ∧ XEnts (fun g => w1.heap.size ≤ g) w2.heap.size wr o (m.drop n).reverse ∧ Chg None w2 wr) (fun _ iv _ => (intOf iv + 1).toNat)
  case atStart => exact ⟨m.length, Nat.le_refl _, down_of rfl, by rw [List.drop_eq_nil_of_le (Nat.le_refl _)]; exact XEnts.nil _ _ _, Chg.refl _ _⟩
  case round =>
    obtain ⟨n, hn, hd, hX, hch⟩ := hrel
    obtain ⟨ao, co, hso⟩ := hX.shape
    subst hso
    have hbw := hch.size
    rcases hd with ⟨rfl, rfl⟩ | ⟨i, rfl, rfl⟩
    · rw [List.drop_zero] at hX ⊢
      have c2r := c12.trans hch
      go_wp2_with fail
      refine (implEncode_ok _ _ m _ (ho2.new hch) (hT.new c2r) (by omega)).mono ?_
      rw [HK.out]
      rintro e w3 ⟨rfl, c3⟩
      have c23 := hch.trans c3
      have hX3 := hX.new c3
      clear hX
      go_wp2
      go_loopw [9, 34] (fun nv jv wr => ∃ j : Nat, j ≤ m.length ∧ jv = .int .i64 j ∧ nv = .int .i64 (cnt (m.take j) : Int) ∧ Chg None w3 wr) (fun _ jv _ => m.length - (intOf jv).toNat)
      case atStart => exact ⟨0, Nat.zero_le _, rfl, rfl, Chg.refl _ _⟩
      case round =>
        obtain ⟨j, hj, rfl, rfl, hchj⟩ := hrel
        have hcj := Uv.cnt_take_le m j
        by_cases hlj : j < m.length
        · obtain ⟨b, off, sv, rfl, _, hc1, hc2, hr⟩ := H3.out j m[j] (by simp [hlj])
          have hc1 := (c23.trans hchj).cell hc1 (fun x => x)
          have hc2 := (c23.trans hchj).cell hc2 (fun x => x)
          have HN := Lib.hid (Uv.cnt_take_succ m j hlj)
          have hcj2 := Uv.cnt_take_le m (j + 1)
          rw [HN.out] at hcj2
          obtain ⟨a2, cap2, hsv, -⟩ := hr
          subst hsv
          go_wp2
          go_roundw
          case rel => exact ⟨j + 1, by omega, by go_num, by rw [HN.out]; go_num, hchj.alloc _⟩
          case measure => simp [intOf]; omega
        · obtain rfl : j = m.length := by omega
          rw [List.take_of_length_le (Nat.le_refl _)]
          have c2j := c23.trans hchj
          have cw := c12.trans c2j
          by_cases ht : enc m = []
          · have hc0 := HZ.out.1 ht
            have d1 : ((cnt m : Int) == 0) = true := by simp; omega
            have HTE := Lib.hid ht
            rw [ht]
            clear hc0 ht
            go_wp2_with fail
            refine (implEncode_ok _ _ m.reverse _ (by simpa using (hX3.new hchj).read) (hT.new cw) (by rw [HBR.out]; omega)).mono ?_
            rw [HKR.out, HER.out, HTE.out]
            rintro e w4 ⟨rfl, c4⟩
            go_wp2
            go_ret
            exact ⟨rfl, cw.trans c4⟩
          · have hc0 : ¬ cnt m = 0 := fun x => ht (HZ.out.2 x)
            have d1 : ((cnt m : Int) == 0) = false := by simp; omega
            obtain ⟨c, r, hcr⟩ := List.exists_cons_of_ne_nil ht
            have HTE := Lib.hid hcr
            rw [hcr]
            clear hc0 ht hcr
            go_wp2_with fail
            refine (implEncode_ok _ _ m.reverse _ (by simpa using (hX3.new hchj).read) (hT.new cw) (by rw [HBR.out]; omega)).mono ?_
            rw [HKR.out, HER.out, HTE.out]
            rintro e w4 ⟨rfl, c4⟩
            have hbe : ((c :: r) == (c :: r)) = true := by simp
            go_wp2
            go_ret
            exact ⟨rfl, cw.trans c4⟩
    · have hlt : i < m.length := by omega
      obtain ⟨b, off, sv, rfl, _, p1, p2, hr⟩ := H3.out i m[i] (by simp [hlt])
      have hr : RStrs (fun g => w1.heap.size ≤ g ∧ g < w2.heap.size) wr sv m[i].2 := (hr.mono (fun g hg h => ⟨h, hg⟩)).new hch
      have p1 := hch.cell p1 (fun x => x)
      have p2 := hch.cell p2 (fun x => x)
      obtain ⟨a2, cap2, hsv, -⟩ := id hr
      subst hsv
      have hcA : Chg None wr (wr.alloc (.cells #[encStr m[i].1, .slice a2 m[i].2.length cap2] 28)) := (Chg.refl None wr).alloc _
      have hrA := hr.new hcA
      have HD : Hid ((m.drop i).reverse = (m.drop (i + 1)).reverse ++ [m[i]]) := by show _ = _; rw [List.drop_eq_getElem_cons hlt, List.reverse_cons]
      have hdl : (m.drop (i + 1)).reverse.length ≤ 1048576 := by simp; omega
      obtain ⟨xs, svs, hsl, hown, hnew, hsay⟩ := hX
      have HS := Lib.hid hsl
      have HY := Lib.hid hsay
      clear hsl hsay
      generalize (m.drop (i + 1)).reverse = M at *
      go_wp2_with (at_builtin; refine wpList_app _ elEnt rfl _ _ _ rfl (ownsRow_chg hown hcA (fun _ _ x => x)) rfl (Src.ofSlice _ elEnt.ht ⟨wr.heap.size, 0, none⟩ 1 1 [encStr m[i].1, .slice a2 m[i].2.length cap2] rfl (World.news_of_block (cs := #[encStr m[i].1, .slice a2 m[i].2.length cap2]) (t := 28) (fr := (0, 0)) (heap_alloc_new wr _)) (by simp [Value.oneCell'])) rfl (by unfold maxLen; omega) (by omega) ?_; intro a4 c4 w4 hs4 hg4 hl4)
      obtain ⟨hX4, hc4, _⟩ := xents_app (ks := [m[i]]) (svs2 := [.slice a2 m[i].2.length cap2]) HS.out hown hnew HY.out hbw hcA hg4 hs4 rfl rfl hl4 rfl (says_one hrA)
      have hch4 : Chg None w2 w4 := hch.then hc4 (fun i hi e => absurd hi (Nat.not_lt.2 (hnew i e.symm)))
      clear hs4 hg4 hl4 hown hc4 HY HS
      go_roundw
      case rel => exact ⟨i, by omega, down_of (by omega), by rw [HD.out]; exact hX4, hch4⟩
      case measure => simp [intOf]
end Go.Proofs.YtoeilmegjjmnkaaDoor.fnEncodeOrder
