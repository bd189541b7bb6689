/-
  The reference's Play.
-/
import Derived.Test.YtcbenidcaaegnaaDoorPlay
import Derived.Test.YtcbenidcaaegnaaDoorSpec
import Derived.Test.YtcbenidcaaegnaaDoorSpecEnc
import Derived.Test.YtcbenidcaaegnaaDoorFind
namespace Go.Proofs.YtcbenidcaaegnaaDoor
open Go.RowKit
open Uv (Bytes Ent KV vals has add sett del kept bulk bulkT enc Ans St stM stA plM plA findI)

theorem findI_has (es : KV) (k : Bytes) : decide ((0 : Int) ≤ findI es k) = has es k := by
  rw [Uv.has_fnd]
  unfold findI
  cases Uv.fnd es k <;> simp
theorem bulk_room (m : KV) (ss : List St) (i : Nat) (h : i < ss.length) : bulk (plM m (ss.take i)) + (ss[i].2.1.length + ss[i].2.2.length + 2) ≤ bulk m + bulkT ss := by
  have h1 := Uv.bulk_plM m (ss.take i)
  have h2 := Uv.bulkT_take ss (i + 1)
  rw [List.take_succ_eq_append_getElem h, Uv.bulkT_append] at h2
  simp only [bulkT] at h2
  omega

/-- the kept entries and the answers so far, in blocks apart, all of them new since B -/
def SpecAt (B : Nat) (w : World) (v : Value) (M : KV) (o : Value) (A : List Ans) : Prop :=
  ∃ Fm Fa : Nat → Prop, HEnts Fm w v M ∧ OAns Fa w o A ∧ (∀ g, Fm g → ¬ Fa g) ∧ (∀ g, Fm g → B ≤ g ∧ g < w.heap.size) ∧ (∀ g, Fa g → B ≤ g ∧ g < w.heap.size)
theorem SpecAt.start {B : Nat} {w : World} {v : Value} {M : KV} (h : OEnts (fun g => B ≤ g) w v M) (hB : B ≤ w.heap.size) : SpecAt B (w.alloc (.cells #[] 63)) v M (.slice (some ⟨w.heap.size, 0, none⟩) 0 0) [] := by
  have h1 : OEnts (fun g => B ≤ g ∧ g < w.heap.size) w v M := h.mono (fun k hk hb => ⟨hb, hk⟩)
  refine ⟨_, fun g => g = w.heap.size, (h1.new ((Chg.refl None w).alloc _)).head, OAns.made w rfl, fun g hg e => ?_, fun g hg => ⟨hg.1, ?_⟩, fun g hg => ⟨?_, ?_⟩⟩
  · have : g = w.heap.size := e
    omega
  · have := hg.2; simp; omega
  · have : g = w.heap.size := hg
    omega
  · have : g = w.heap.size := hg
    simp; omega
/-- the entries have turned: a new slice -/
theorem spec_turn {B : Nat} {w w' : World} {v' : Value} {M' : KV} {o : Value} {A : List Ans} {Fm Fa : Nat → Prop} (hA : OAns Fa w o A) (hd : ∀ g, Fm g → ¬ Fa g) (ha : ∀ g, Fa g → B ≤ g ∧ g < w.heap.size)
    (hB : B ≤ w.heap.size) (hM' : OEnts (fun g => w.heap.size ≤ g) w' v' M') (hc : Chg Fm w w') : SpecAt B w' v' M' o A := by
  have hs := hc.size
  refine ⟨fun g => w.heap.size ≤ g ∧ g < w'.heap.size, Fa, (hM'.mono (fun k hk h => ⟨h, hk⟩)).head, hA.kept hc (fun k _ hk hf => hd k hf hk), fun g hg hf => ?_, fun g hg => ⟨?_, hg.2⟩, fun g hg => ⟨(ha g hg).1, Nat.lt_of_lt_of_le (ha g hg).2 hs⟩⟩
  · have := (ha g hf).2
    omega
  · omega
/-- the entries have turned: one of them is gone -/
theorem spec_less {B : Nat} {w w' : World} {v' : Value} {M' : KV} {o : Value} {A : List Ans} {Fm Fa : Nat → Prop} (hA : OAns Fa w o A) (hd : ∀ g, Fm g → ¬ Fa g) (hm : ∀ g, Fm g → B ≤ g ∧ g < w.heap.size) (ha : ∀ g, Fa g → B ≤ g ∧ g < w.heap.size)
    (hB : B ≤ w.heap.size) (hM' : HEnts (fun g => Fm g ∨ w.heap.size ≤ g) w' v' M') (hc : Chg None w w') : SpecAt B w' v' M' o A := by
  have hs := hc.size
  refine ⟨fun g => (Fm g ∨ w.heap.size ≤ g) ∧ g < w'.heap.size, Fa, hM'.mono (fun k hk h => ⟨h, hk⟩), hA.new hc, fun g hg hf => ?_, fun g hg => ⟨?_, hg.2⟩, fun g hg => ⟨(ha g hg).1, Nat.lt_of_lt_of_le (ha g hg).2 hs⟩⟩
  · rcases hg.1 with h | h
    · exact hd g h hf
    · have := (ha g hf).2
      omega
  · rcases hg.1 with h | h
    · exact (hm g h).1
    · omega
/-- one answer more -/
theorem spec_ans {B : Nat} {w W3 w4 : World} {vv : Value} {M : KV} {v v' : Value} {A : List Ans} {Fm Fa : Nat → Prop} {n : Nat} {xs ys svs : List Value} {a : Ans} {sv : Value} (hM : HEnts Fm w vv M) (hd : ∀ g, Fm g → ¬ Fa g) (hm : ∀ g, Fm g → B ≤ g ∧ g < w.heap.size) (ha : ∀ g, Fa g → B ≤ g ∧ g < w.heap.size) (hB : B ≤ w.heap.size)
    (hsl : svs.length = A.length) (hown : w.ownsRow 0 63 3 v A.length xs) (hvF : ∀ g, v.ownBlock = some g → Fa g) (hsay : ASays Fa w A xs svs) (hap : Apart svs)
    (hc : Chg None w W3) (hg : W3.grownBy w4 v.ownBlock) (hs : w4.ownsRow 0 63 3 v' n ys) (hn : n = A.length + 1) (hy : ys = xs ++ [encStr a.1, .bool a.2.1, sv]) (hl : v'.ownBlock = v.ownBlock ∨ v'.ownBlock = some W3.heap.size)
    (hsv : OStrs (fun g => w.heap.size ≤ g) W3 sv a.2.2) : SpecAt B w4 vv M v' (A ++ [a]) := by
  have hsz := hg.size
  have hcs := hc.size
  have hsay' : ASays (fun g => Fa g ∨ w.heap.size ≤ g) w A xs svs := fun i a' s h1 h2 => ⟨(hsay i a' s h1 h2).1, (hsay i a' s h1 h2).2.1, (hsay i a' s h1 h2).2.2.1, (hsay i a' s h1 h2).2.2.2.mono (fun _ _ h => .inl h)⟩
  have h := oans_snoc (F := fun g => Fa g ∨ w.heap.size ≤ g) hsl hown (fun g hg => .inl (hvF g hg)) hsay' hap hc hg hs hn hy hl hsv (fun g hg => .inr hg)
  refine ⟨Fm, fun g => (Fa g ∨ w.heap.size ≤ g) ∧ g < w4.heap.size, (hM.new hc).kept (Chg.ofGrown hg) (fun k _ hk e => hd k hk (hvF k e.symm)), h.mono (fun k hk h => ⟨h, hk⟩), fun g hg hf => ?_, fun g hg => ⟨(hm g hg).1, ?_⟩, fun g hg => ⟨?_, hg.2⟩⟩
  · rcases hf.1 with h | h
    · exact hd g hg h
    · have := (hm g hg).2
      omega
  · have := (hm g hg).2
    omega
  · rcases hg.1 with h | h
    · exact (ha g h).1
    · omega

set_option maxRecDepth 100000 in
set_option maxHeartbeats 4000000 in
theorem specPlay_ok (F G : Nat → Prop) (v : Value) (es : KV) (tv : Value) (ss : List St) (w : World) (hv : REnts F w v es) (ht : RSteps G w tv ss) (hN : bulk es + bulkT ss ≤ 4194304) :
    Calls Tryd.prog 13 #[v, tv] w (AnsPost (plA (kept es) ss) w) := by
  have hbk := Uv.bulk_kept es
  have hlt2 := Uv.length_le_bulkT ss
  have huk := Uv.uniq_kept es
  obtain ⟨ta, tcap, rfl, ht1, ht2, ht3⟩ := ht
  unfold maxLen at ht2
  have HT3 := Lib.hid ht3
  clear ht3
  go_enter Tryd.func13, Tryd.ntmps13
  go_wp2_with fail
  refine (Kept_ok F v es _ hv (by omega)).mono ?_
  rintro e w1 ⟨ak, ck, rfl, hM, hc⟩
  have hP1 := SpecAt.start hM hc.size
  have hc1 := hc.alloc (.cells #[] 63)
  go_wp2
  go_loopw [5, 6, 7] (fun vm o iv wr => ∃ i : Nat, i ≤ ss.length ∧ iv = .int .i64 i ∧ SpecAt w.heap.size wr vm (plM (kept es) (ss.take i)) o (plA (kept es) (ss.take i)) ∧ Chg None w wr) (fun _ _ iv _ => ss.length - (intOf iv).toNat)
  case atStart => exact ⟨0, Nat.zero_le _, rfl, hP1, hc1⟩
  case round =>
    clear hP1 hc1 hM hc
    obtain ⟨i, hi, rfl, hP, hch⟩ := hrel
    by_cases hlt : i < ss.length
    · obtain ⟨bt, offt, rfl, hGb, s1, s2, s3⟩ := HT3.out i ss[i] (by simp [hlt])
      have s1 := hch.cell s1 (fun x => x)
      have s2 := hch.cell s2 (fun x => x)
      have s3 := hch.cell s3 (fun x => x)
      have HSM : Hid (plM (kept es) (ss.take (i + 1)) = stM (plM (kept es) (ss.take i)) ss[i]) := by show _ = _; rw [List.take_succ_eq_append_getElem hlt, Uv.plM_snoc]
      have HSA : Hid (plA (kept es) (ss.take (i + 1)) = plA (kept es) (ss.take i) ++ [stA (plM (kept es) (ss.take i)) ss[i]]) := by show _ = _; rw [List.take_succ_eq_append_getElem hlt, Uv.plA_snoc]
      have hbR := bulk_room (kept es) ss i hlt
      have hal : (plA (kept es) (ss.take i)).length ≤ 4194304 := by rw [Uv.length_plA]; simp; omega
      have hU := huk.plM (ss.take i)
      generalize ss[i] = s at *
      obtain ⟨kd, k, x⟩ := s
      simp only at s1 s2 s3 hbR
      generalize plM (kept es) (ss.take i) = M at *
      generalize plA (kept es) (ss.take i) = A at *
      have hbN : bulk M + k.length + x.length + 2 ≤ 4194304 := by omega
      clear hbR
      have hvl := Uv.length_vals M k
      obtain ⟨Fm, Fa, hM, hA, hd, hm, ha⟩ := hP
      obtain ⟨ao, co, ho⟩ := hA.shape
      subst ho
      obtain ⟨av, cv, hmv⟩ := hM.shape
      subst hmv
      have hBw := hch.size
      have hcA : Chg None wr ((wr.alloc (.cells #[.int .i64 kd, encStr k, encStr x] 61)).alloc (.cells #[encStr [], .bool false, .slice none 0 0] 63)) := ((Chg.refl None wr).alloc _).alloc _
      have hcs := hcA.size
      have HBL : Hid (((wr.alloc (.cells #[.int .i64 kd, encStr k, encStr x] 61)).alloc (.cells #[encStr [], .bool false, .slice none 0 0] 63)).heap[wr.heap.size + 1]? = some (.cells #[encStr [], .bool false, .slice none 0 0] 63 (0, 0))) := by
        have := heap_alloc_new (wr.alloc (.cells #[.int .i64 kd, encStr k, encStr x] 61)) (.cells #[encStr [], .bool false, .slice none 0 0] 63)
        show _ = _
        simpa using this
      by_cases h0 : kd = 0
      · have t0 : (kd == 0) = true := by simp [h0]
        have HK : Hid (kd = 0) := Lib.hid h0
        clear h0
        go_wp2_with fail
        refine (specadd_ok Fm _ M k x _ (hM.new hcA) hU hbN).mono ?_
        rintro e w5 ⟨a5, k5, rfl, hM5, hc5⟩
        have hb5 := (hc5.block (wr.heap.size + 1) (by simp) (fun h => by have := (hm _ h).2; omega)).trans HBL.out
        have q0 : w5.cell? ⟨wr.heap.size + 1, 0, none⟩ = some (encStr []) := by rw [cell_of_row w5 _ 0 _ _ _ hb5]; rfl
        have q1 : w5.cell? ⟨wr.heap.size + 1, 1, none⟩ = some (.bool false) := by rw [cell_of_row w5 _ 1 _ _ _ hb5]; rfl
        have q2 : w5.cell? ⟨wr.heap.size + 1, 2, none⟩ = some (.slice none 0 0) := by rw [cell_of_row w5 _ 2 _ _ _ hb5]; rfl
        have hP5 := spec_turn (B := w.heap.size) (hA.new hcA) hd (fun g h => ⟨(ha g h).1, Nat.lt_of_lt_of_le (ha g h).2 hcs⟩) (Nat.le_trans hBw hcs) hM5 hc5
        have hch5 : Chg None w w5 := (hch.trans hcA).then hc5 (fun g hg h => by have := (hm g h).1; omega)
        obtain ⟨Fm5, Fa5, hMx, hAx, hd5, hm5, ha5⟩ := hP5
        obtain ⟨xs, svs, hsl, hown, hvF, hsay, hap⟩ := hAx
        have hB5 := hch5.size
        have HS := Lib.hid hsl
        have HY := Lib.hid hsay
        clear hsl hsay hb5
        go_wp2_with (at_builtin; refine wpList_app _ elAns rfl _ _ _ rfl (ownsRow_chg hown ((Chg.refl None w5).alloc _) (fun _ _ x => x)) rfl (Src.ofSlice _ elAns.ht ⟨w5.heap.size, 0, none⟩ 1 1 [encStr [], .bool false, .slice none 0 0] rfl (World.news_of_block (cs := #[encStr [], .bool false, .slice none 0 0]) (t := 63) (fr := (0, 0)) (heap_alloc_new w5 _)) (by simp [Value.oneCell'])) rfl (by unfold maxLen; omega) (by omega) ?_; intro a7 c7 w7 hs7 hg7 hl7)
        have hP7 := spec_ans (a := ([], false, [])) hMx hd5 hm5 ha5 hB5 HS.out hown hvF HY.out hap ((Chg.refl None w5).alloc _) hg7 hs7 rfl rfl hl7 (OStrs.nil _ _)
        have hch7 : Chg None w w7 := (hch5.alloc _).then (Chg.ofGrown hg7) (fun g hg h => by have := (ha5 g (hvF g h.symm)).1; omega)
        go_roundw
        case rel => exact ⟨i + 1, by omega, by go_num, by rw [HSM.out, HSA.out, show Uv.stM M (kd, k, x) = add M k x by simp [Uv.stM, HK.out], show Uv.stA M (kd, k, x) = ([], false, []) by simp [Uv.stA, HK.out]]; exact hP7, hch7⟩
        case measure => simp [intOf]; omega
      have t0 : (kd == 0) = false := by simp [h0]
      by_cases h1 : kd = 1
      · have t1 : (kd == 1) = true := by simp [h1]
        have HK : Hid (kd = 1) := Lib.hid h1
        clear h1
        go_wp2_with fail
        refine (specset_ok Fm _ M k x _ (hM.new hcA) hU hbN).mono ?_
        rintro e w5 ⟨a5, k5, rfl, hM5, hc5⟩
        have hb5 := (hc5.block (wr.heap.size + 1) (by simp) (fun h => by have := (hm _ h).2; omega)).trans HBL.out
        have q0 : w5.cell? ⟨wr.heap.size + 1, 0, none⟩ = some (encStr []) := by rw [cell_of_row w5 _ 0 _ _ _ hb5]; rfl
        have q1 : w5.cell? ⟨wr.heap.size + 1, 1, none⟩ = some (.bool false) := by rw [cell_of_row w5 _ 1 _ _ _ hb5]; rfl
        have q2 : w5.cell? ⟨wr.heap.size + 1, 2, none⟩ = some (.slice none 0 0) := by rw [cell_of_row w5 _ 2 _ _ _ hb5]; rfl
        have hP5 := spec_turn (B := w.heap.size) (hA.new hcA) hd (fun g h => ⟨(ha g h).1, Nat.lt_of_lt_of_le (ha g h).2 hcs⟩) (Nat.le_trans hBw hcs) hM5 hc5
        have hch5 : Chg None w w5 := (hch.trans hcA).then hc5 (fun g hg h => by have := (hm g h).1; omega)
        obtain ⟨Fm5, Fa5, hMx, hAx, hd5, hm5, ha5⟩ := hP5
        obtain ⟨xs, svs, hsl, hown, hvF, hsay, hap⟩ := hAx
        have hB5 := hch5.size
        have HS := Lib.hid hsl
        have HY := Lib.hid hsay
        clear hsl hsay hb5
        go_wp2_with (at_builtin; refine wpList_app _ elAns rfl _ _ _ rfl (ownsRow_chg hown ((Chg.refl None w5).alloc _) (fun _ _ x => x)) rfl (Src.ofSlice _ elAns.ht ⟨w5.heap.size, 0, none⟩ 1 1 [encStr [], .bool false, .slice none 0 0] rfl (World.news_of_block (cs := #[encStr [], .bool false, .slice none 0 0]) (t := 63) (fr := (0, 0)) (heap_alloc_new w5 _)) (by simp [Value.oneCell'])) rfl (by unfold maxLen; omega) (by omega) ?_; intro a7 c7 w7 hs7 hg7 hl7)
        have hP7 := spec_ans (a := ([], false, [])) hMx hd5 hm5 ha5 hB5 HS.out hown hvF HY.out hap ((Chg.refl None w5).alloc _) hg7 hs7 rfl rfl hl7 (OStrs.nil _ _)
        have hch7 : Chg None w w7 := (hch5.alloc _).then (Chg.ofGrown hg7) (fun g hg h => by have := (ha5 g (hvF g h.symm)).1; omega)
        go_roundw
        case rel => exact ⟨i + 1, by omega, by go_num, by rw [HSM.out, HSA.out, show Uv.stM M (kd, k, x) = sett M k x by simp [Uv.stM, HK.out], show Uv.stA M (kd, k, x) = ([], false, []) by simp [Uv.stA, HK.out]]; exact hP7, hch7⟩
        case measure => simp [intOf]; omega
      have t1 : (kd == 1) = false := by simp [h1]
      by_cases h2 : kd = 2
      · have t2 : (kd == 2) = true := by simp [h2]
        have HK : Hid (kd = 2) := Lib.hid h2
        clear h2
        go_wp2_with fail
        refine (specdel_ok Fm _ M k _ (hM.new hcA).read (by omega)).mono ?_
        rintro e w5 ⟨a5, k5, rfl, hM5, _, hc5⟩
        have hb5 := (hc5.block (wr.heap.size + 1) (by simp) (fun h => h)).trans HBL.out
        have q0 : w5.cell? ⟨wr.heap.size + 1, 0, none⟩ = some (encStr []) := by rw [cell_of_row w5 _ 0 _ _ _ hb5]; rfl
        have q1 : w5.cell? ⟨wr.heap.size + 1, 1, none⟩ = some (.bool false) := by rw [cell_of_row w5 _ 1 _ _ _ hb5]; rfl
        have q2 : w5.cell? ⟨wr.heap.size + 1, 2, none⟩ = some (.slice none 0 0) := by rw [cell_of_row w5 _ 2 _ _ _ hb5]; rfl
        have hP5 := spec_less (B := w.heap.size) (hA.new hcA) hd (fun g h => ⟨(hm g h).1, Nat.lt_of_lt_of_le (hm g h).2 hcs⟩) (fun g h => ⟨(ha g h).1, Nat.lt_of_lt_of_le (ha g h).2 hcs⟩) (Nat.le_trans hBw hcs) hM5 hc5
        have hch5 : Chg None w w5 := (hch.trans hcA).then hc5 (fun g hg h => h.elim)
        obtain ⟨Fm5, Fa5, hMx, hAx, hd5, hm5, ha5⟩ := hP5
        obtain ⟨xs, svs, hsl, hown, hvF, hsay, hap⟩ := hAx
        have hB5 := hch5.size
        have HS := Lib.hid hsl
        have HY := Lib.hid hsay
        clear hsl hsay hb5
        go_wp2_with (at_builtin; refine wpList_app _ elAns rfl _ _ _ rfl (ownsRow_chg hown ((Chg.refl None w5).alloc _) (fun _ _ x => x)) rfl (Src.ofSlice _ elAns.ht ⟨w5.heap.size, 0, none⟩ 1 1 [encStr [], .bool false, .slice none 0 0] rfl (World.news_of_block (cs := #[encStr [], .bool false, .slice none 0 0]) (t := 63) (fr := (0, 0)) (heap_alloc_new w5 _)) (by simp [Value.oneCell'])) rfl (by unfold maxLen; omega) (by omega) ?_; intro a7 c7 w7 hs7 hg7 hl7)
        have hP7 := spec_ans (a := ([], false, [])) hMx hd5 hm5 ha5 hB5 HS.out hown hvF HY.out hap ((Chg.refl None w5).alloc _) hg7 hs7 rfl rfl hl7 (OStrs.nil _ _)
        have hch7 : Chg None w w7 := (hch5.alloc _).then (Chg.ofGrown hg7) (fun g hg h => by have := (ha5 g (hvF g h.symm)).1; omega)
        go_roundw
        case rel => exact ⟨i + 1, by omega, by go_num, by rw [HSM.out, HSA.out, show Uv.stM M (kd, k, x) = del M k by simp [Uv.stM, HK.out], show Uv.stA M (kd, k, x) = ([], false, []) by simp [Uv.stA, HK.out]]; exact hP7, hch7⟩
        case measure => simp [intOf]; omega
      have t2 : (kd == 2) = false := by simp [h2]
      by_cases h3 : kd = 3
      · have t3 : (kd == 3) = true := by simp [h3]
        have HK : Hid (kd = 3) := Lib.hid h3
        clear h3
        go_wp2_with fail
        refine (get_ok Fm _ M k _ (hM.new hcA).read (by omega)).mono ?_
        rintro e w5 ⟨rfl, hc5⟩
        have hb5 := (hc5.block (wr.heap.size + 1) (by simp) (fun h => h)).trans HBL.out
        have q0 : w5.cell? ⟨wr.heap.size + 1, 0, none⟩ = some (encStr []) := by rw [cell_of_row w5 _ 0 _ _ _ hb5]; rfl
        have q1 : w5.cell? ⟨wr.heap.size + 1, 1, none⟩ = some (.bool false) := by rw [cell_of_row w5 _ 1 _ _ _ hb5]; rfl
        have q2 : w5.cell? ⟨wr.heap.size + 1, 2, none⟩ = some (.slice none 0 0) := by rw [cell_of_row w5 _ 2 _ _ _ hb5]; rfl
        have f0 := fun o => frozen_of_row w5 (wr.heap.size + 1) o _ _ hb5
        have hcR5 := hcA.trans hc5
        have hcR : Chg None wr (w5.setCell ⟨wr.heap.size + 1, 0, none⟩ (encStr (Uv.hd (vals M k)))) := hcR5.setCell (p := ⟨wr.heap.size + 1, 0, none⟩) (fun h => absurd (show wr.heap.size + 1 < wr.heap.size from h) (by omega)) _
        obtain ⟨xs, svs, hsl, hown, hvF, hsay, hap⟩ := hA
        have HS := Lib.hid hsl
        have HY := Lib.hid hsay
        clear hsl hsay hb5
        go_wp2_with (at_builtin; refine wpList_app _ elAns rfl _ _ _ rfl (ownsRow_chg hown (hcR.alloc _) (fun _ _ x => x)) rfl (Src.ofSlice _ elAns.ht ⟨w5.heap.size, 0, none⟩ 1 1 [encStr (Uv.hd (vals M k)), .bool (false), .slice none 0 0] rfl (World.news_of_block (cs := #[encStr (Uv.hd (vals M k)), .bool (false), .slice none 0 0]) (t := 63) (fr := (0, 0)) (by simpa using heap_alloc_new ((w5.setCell ⟨wr.heap.size + 1, 0, none⟩ (encStr (Uv.hd (vals M k))))) (.cells #[encStr (Uv.hd (vals M k)), .bool (false), .slice none 0 0] 63))) (by simp [Value.oneCell'])) rfl (by unfold maxLen; omega) (by omega) ?_; intro a7 c7 w7 hs7 hg7 hl7)
        have hP7 := spec_ans (B := w.heap.size) (a := (Uv.hd (vals M k), false, [])) hM hd hm ha hBw HS.out hown hvF HY.out hap (hcR.alloc _) hg7 hs7 rfl rfl hl7 (OStrs.nil _ _)
        have hch7 : Chg None w w7 := ((hch.trans hcR).alloc _).then (Chg.ofGrown hg7) (fun g hg h => by have := (ha g (hvF g h.symm)).1; omega)
        go_roundw
        case rel => exact ⟨i + 1, by omega, by go_num, by rw [HSM.out, HSA.out, show Uv.stM M (kd, k, x) = M by simp [Uv.stM, HK.out], show Uv.stA M (kd, k, x) = (Uv.hd (vals M k), false, []) by simp [Uv.stA, HK.out]]; exact hP7, hch7⟩
        case measure => simp [intOf]; omega
      have t3 : (kd == 3) = false := by simp [h3]
      by_cases h4 : kd = 4
      · have t4 : (kd == 4) = true := by simp [h4]
        have HK : Hid (kd = 4) := Lib.hid h4
        clear h4
        go_wp2_with fail
        refine (find_ok Fm _ M k _ (hM.new hcA).read).mono ?_
        rintro e w5 ⟨rfl, hw5⟩
        have hfi := findI_has M k
        generalize findI M k = fi at *
        have hc5 : Chg None ((wr.alloc (.cells #[.int .i64 kd, encStr k, encStr x] 61)).alloc (.cells #[encStr [], .bool false, .slice none 0 0] 63)) w5 := by subst hw5; exact Chg.refl _ _
        clear hw5
        have hb5 := (hc5.block (wr.heap.size + 1) (by simp) (fun h => h)).trans HBL.out
        have q0 : w5.cell? ⟨wr.heap.size + 1, 0, none⟩ = some (encStr []) := by rw [cell_of_row w5 _ 0 _ _ _ hb5]; rfl
        have q1 : w5.cell? ⟨wr.heap.size + 1, 1, none⟩ = some (.bool false) := by rw [cell_of_row w5 _ 1 _ _ _ hb5]; rfl
        have q2 : w5.cell? ⟨wr.heap.size + 1, 2, none⟩ = some (.slice none 0 0) := by rw [cell_of_row w5 _ 2 _ _ _ hb5]; rfl
        have f0 := fun o => frozen_of_row w5 (wr.heap.size + 1) o _ _ hb5
        have hcR5 := hcA.trans hc5
        have hcR : Chg None wr (w5.setCell ⟨wr.heap.size + 1, 1, none⟩ (.bool (has M k))) := hcR5.setCell (p := ⟨wr.heap.size + 1, 1, none⟩) (fun h => absurd (show wr.heap.size + 1 < wr.heap.size from h) (by omega)) _
        obtain ⟨xs, svs, hsl, hown, hvF, hsay, hap⟩ := hA
        have HS := Lib.hid hsl
        have HY := Lib.hid hsay
        clear hsl hsay hb5
        go_wp2_with (at_builtin; refine wpList_app _ elAns rfl _ _ _ rfl (ownsRow_chg hown (hcR.alloc _) (fun _ _ x => x)) rfl (Src.ofSlice _ elAns.ht ⟨w5.heap.size, 0, none⟩ 1 1 [encStr ([]), .bool (has M k), .slice none 0 0] rfl (World.news_of_block (cs := #[encStr ([]), .bool (has M k), .slice none 0 0]) (t := 63) (fr := (0, 0)) (by simpa using heap_alloc_new ((w5.setCell ⟨wr.heap.size + 1, 1, none⟩ (.bool (has M k)))) (.cells #[encStr ([]), .bool (has M k), .slice none 0 0] 63))) (by simp [Value.oneCell'])) rfl (by unfold maxLen; omega) (by omega) ?_; intro a7 c7 w7 hs7 hg7 hl7)
        have hP7 := spec_ans (B := w.heap.size) (a := ([], has M k, [])) hM hd hm ha hBw HS.out hown hvF HY.out hap (hcR.alloc _) hg7 hs7 rfl rfl hl7 (OStrs.nil _ _)
        have hch7 : Chg None w w7 := ((hch.trans hcR).alloc _).then (Chg.ofGrown hg7) (fun g hg h => by have := (ha g (hvF g h.symm)).1; omega)
        go_roundw
        case rel => exact ⟨i + 1, by omega, by go_num, by rw [HSM.out, HSA.out, show Uv.stM M (kd, k, x) = M by simp [Uv.stM, HK.out], show Uv.stA M (kd, k, x) = ([], has M k, []) by simp [Uv.stA, HK.out]]; exact hP7, hch7⟩
        case measure => simp [intOf]; omega
      have t4 : (kd == 4) = false := by simp [h4]
      by_cases h5 : kd = 5
      · have t5 : (kd == 5) = true := by simp [h5]
        have HK : Hid (kd = 5) := Lib.hid h5
        clear h5
        go_wp2_with fail
        refine (specencode_ok Fm _ M _ (hM.new hcA).read hU (by omega)).mono ?_
        rintro e w5 ⟨rfl, hc5⟩
        have hb5 := (hc5.block (wr.heap.size + 1) (by simp) (fun h => h)).trans HBL.out
        have q0 : w5.cell? ⟨wr.heap.size + 1, 0, none⟩ = some (encStr []) := by rw [cell_of_row w5 _ 0 _ _ _ hb5]; rfl
        have q1 : w5.cell? ⟨wr.heap.size + 1, 1, none⟩ = some (.bool false) := by rw [cell_of_row w5 _ 1 _ _ _ hb5]; rfl
        have q2 : w5.cell? ⟨wr.heap.size + 1, 2, none⟩ = some (.slice none 0 0) := by rw [cell_of_row w5 _ 2 _ _ _ hb5]; rfl
        have f0 := fun o => frozen_of_row w5 (wr.heap.size + 1) o _ _ hb5
        have hcR5 := hcA.trans hc5
        have hcR : Chg None wr (w5.setCell ⟨wr.heap.size + 1, 0, none⟩ (encStr (enc M))) := hcR5.setCell (p := ⟨wr.heap.size + 1, 0, none⟩) (fun h => absurd (show wr.heap.size + 1 < wr.heap.size from h) (by omega)) _
        obtain ⟨xs, svs, hsl, hown, hvF, hsay, hap⟩ := hA
        have HS := Lib.hid hsl
        have HY := Lib.hid hsay
        clear hsl hsay hb5
        go_wp2_with (at_builtin; refine wpList_app _ elAns rfl _ _ _ rfl (ownsRow_chg hown (hcR.alloc _) (fun _ _ x => x)) rfl (Src.ofSlice _ elAns.ht ⟨w5.heap.size, 0, none⟩ 1 1 [encStr (enc M), .bool (false), .slice none 0 0] rfl (World.news_of_block (cs := #[encStr (enc M), .bool (false), .slice none 0 0]) (t := 63) (fr := (0, 0)) (by simpa using heap_alloc_new ((w5.setCell ⟨wr.heap.size + 1, 0, none⟩ (encStr (enc M)))) (.cells #[encStr (enc M), .bool (false), .slice none 0 0] 63))) (by simp [Value.oneCell'])) rfl (by unfold maxLen; omega) (by omega) ?_; intro a7 c7 w7 hs7 hg7 hl7)
        have hP7 := spec_ans (B := w.heap.size) (a := (enc M, false, [])) hM hd hm ha hBw HS.out hown hvF HY.out hap (hcR.alloc _) hg7 hs7 rfl rfl hl7 (OStrs.nil _ _)
        have hch7 : Chg None w w7 := ((hch.trans hcR).alloc _).then (Chg.ofGrown hg7) (fun g hg h => by have := (ha g (hvF g h.symm)).1; omega)
        go_roundw
        case rel => exact ⟨i + 1, by omega, by go_num, by rw [HSM.out, HSA.out, show Uv.stM M (kd, k, x) = M by simp [Uv.stM, HK.out], show Uv.stA M (kd, k, x) = (enc M, false, []) by simp [Uv.stA, HK.out]]; exact hP7, hch7⟩
        case measure => simp [intOf]; omega
      have t5 : (kd == 5) = false := by simp [h5]
      have HK := Lib.hid (⟨h0, h1, h2, h3, h4, h5⟩ : ¬ kd = 0 ∧ ¬ kd = 1 ∧ ¬ kd = 2 ∧ ¬ kd = 3 ∧ ¬ kd = 4 ∧ ¬ kd = 5)
      clear h0 h1 h2 h3 h4 h5
      go_wp2_with fail
      refine (specAsked_ok Fm _ M k _ (hM.new hcA).read (by omega)).mono ?_
      rintro e w5 ⟨a9, c9, rfl, hs9, hc5⟩
      have hb5 := (hc5.block (wr.heap.size + 1) (by simp) (fun h => h)).trans HBL.out
      have q0 : w5.cell? ⟨wr.heap.size + 1, 0, none⟩ = some (encStr []) := by rw [cell_of_row w5 _ 0 _ _ _ hb5]; rfl
      have q1 : w5.cell? ⟨wr.heap.size + 1, 1, none⟩ = some (.bool false) := by rw [cell_of_row w5 _ 1 _ _ _ hb5]; rfl
      have q2 : w5.cell? ⟨wr.heap.size + 1, 2, none⟩ = some (.slice none 0 0) := by rw [cell_of_row w5 _ 2 _ _ _ hb5]; rfl
      have f0 := fun o => frozen_of_row w5 (wr.heap.size + 1) o _ _ hb5
      have hcR5 := hcA.trans hc5
      have hcS : Chg (fun g => g = wr.heap.size + 1) w5 ((w5.setCell ⟨wr.heap.size + 1, 2, none⟩ (.slice a9 (vals M k).length c9)).setCell ⟨wr.heap.size + 1, 1, none⟩ (.bool (has M k))) := (((Chg.refl (fun g => g = wr.heap.size + 1) w5).setCell (p := ⟨wr.heap.size + 1, 2, none⟩) (fun _ => rfl) _).setCell (p := ⟨wr.heap.size + 1, 1, none⟩) (fun _ => rfl) _)
      have hs6 : OStrs (fun g => wr.heap.size ≤ g) ((w5.setCell ⟨wr.heap.size + 1, 2, none⟩ (.slice a9 (vals M k).length c9)).setCell ⟨wr.heap.size + 1, 1, none⟩ (.bool (has M k))) (.slice a9 (vals M k).length c9) (vals M k) := (hs9.kept hcS (fun g hg e => by have h1 := hs9.2 g hg; simp at h1; omega)).mono (fun g _ h => by simp at h; omega)
      have hcR : Chg None wr ((w5.setCell ⟨wr.heap.size + 1, 2, none⟩ (.slice a9 (vals M k).length c9)).setCell ⟨wr.heap.size + 1, 1, none⟩ (.bool (has M k))) := (hcR5.setCell (p := ⟨wr.heap.size + 1, 2, none⟩) (fun h => absurd (show wr.heap.size + 1 < wr.heap.size from h) (by omega)) _).setCell (p := ⟨wr.heap.size + 1, 1, none⟩) (fun h => absurd (show wr.heap.size + 1 < wr.heap.size from h) (by omega)) _
      obtain ⟨xs, svs, hsl, hown, hvF, hsay, hap⟩ := hA
      have HS := Lib.hid hsl
      have HY := Lib.hid hsay
      clear hsl hsay hb5
      go_wp2_with (at_builtin; refine wpList_app _ elAns rfl _ _ _ rfl (ownsRow_chg hown (hcR.alloc _) (fun _ _ x => x)) rfl (Src.ofSlice _ elAns.ht ⟨w5.heap.size, 0, none⟩ 1 1 [encStr [], .bool (has M k), .slice a9 (vals M k).length c9] rfl (World.news_of_block (cs := #[encStr [], .bool (has M k), .slice a9 (vals M k).length c9]) (t := 63) (fr := (0, 0)) (by simpa using heap_alloc_new (((w5.setCell ⟨wr.heap.size + 1, 2, none⟩ (.slice a9 (vals M k).length c9)).setCell ⟨wr.heap.size + 1, 1, none⟩ (.bool (has M k)))) (.cells #[encStr [], .bool (has M k), .slice a9 (vals M k).length c9] 63))) (by simp [Value.oneCell'])) rfl (by unfold maxLen; omega) (by omega) ?_; intro a7 c7 w7 hs7 hg7 hl7)
      have hP7 := spec_ans (B := w.heap.size) (a := ([], has M k, vals M k)) hM hd hm ha hBw HS.out hown hvF HY.out hap (hcR.alloc _) hg7 hs7 rfl rfl hl7 (hs6.kept ((Chg.refl None _).alloc _) (fun _ _ x => x))
      have hch7 : Chg None w w7 := ((hch.trans hcR).alloc _).then (Chg.ofGrown hg7) (fun g hg h => by have := (ha g (hvF g h.symm)).1; omega)
      go_roundw
      case rel => exact ⟨i + 1, by omega, by go_num, by rw [HSM.out, HSA.out, show Uv.stM M (kd, k, x) = M by simp [Uv.stM, HK.out], show Uv.stA M (kd, k, x) = ([], has M k, vals M k) by simp [Uv.stA, HK.out]]; exact hP7, hch7⟩
      case measure => simp [intOf]; omega
    · obtain rfl : i = ss.length := by omega
      rw [List.take_of_length_le (Nat.le_refl _)] at hP
      obtain ⟨Fm, Fa, hM, hA, _, _, hFa⟩ := hP
      obtain ⟨ao, co, ho⟩ := hA.shape
      subst ho
      go_wp2
      go_ret
      exact ⟨_, _, rfl, hA.mono (fun g _ h => (hFa g h).1), hch⟩
end Go.Proofs.YtcbenidcaaegnaaDoor
