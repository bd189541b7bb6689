/-
  FnAddLast's walk: where keys, values and texts are of bulk at most 1048576 the law returns true, and writes nothing that was there.
-/
import Derived.Test.YtbnefebheecccaaDoorOpen
import Derived.Test.YtbnefebheecccaaDoorEntries
import Derived.Test.YtbnefebheecccaaDoorLit
import Derived.Test.YtbnefebheecccaaDoorImpl
import Derived.Deep.RegionHeld3
import Derived.Deep.DrawnRows
namespace Go.Proofs.YtbnefebheecccaaDoor.fnAddLast
open Go.RowKit
open Uv (Bytes Ent KV St vals has add bulk bulkS bulkT kept plM)

/-- the three ways in which the two literals are laid -/
theorem way1 (w : World) : OStrs (fun g => w.heap.size ≤ g) (w.drew.alloc (.cells #[] 9)) (.slice (some ⟨w.heap.size, 0, none⟩) 0 0) [] := texts_made w.drew
theorem way2 (w : World) (x : Bytes) : OStrs (fun g => w.heap.size ≤ g) ((w.drew.alloc (.cells #[] 9)).alloc (.cells #[encStr x] 9)) (.slice (some ⟨w.heap.size, 0, none⟩) 0 0) [] := (way1 w).kept ((Chg.refl None _).alloc _) (fun _ _ x => x)
theorem way3 (w : World) (x : Bytes) : OStrs (fun g => w.heap.size ≤ g) ((w.drew.alloc (.cells #[encStr x] 9)).alloc (.cells #[] 9)) (.slice (some ⟨w.heap.size + 1, 0, none⟩) 0 0) [] := by
  have h := texts_made (w.drew.alloc (.cells #[encStr x] 9))
  have e : (w.drew.alloc (.cells #[encStr x] 9)).heap.size = w.heap.size + 1 := by simp
  rw [e] at h
  exact h.mono (fun g _ hg => by omega)
theorem blk2 (w : World) (x : Bytes) : ((w.drew.alloc (.cells #[] 9)).alloc (.cells #[encStr x] 9)).heap[w.heap.size + 1]? = some (.cells #[encStr x] 9 (0, 0)) := by
  have := heap_alloc_new (w.drew.alloc (.cells #[] 9)) (.cells #[encStr x] 9)
  simpa using this
theorem blk3 (w : World) (x : Bytes) : ((w.drew.alloc (.cells #[encStr x] 9)).alloc (.cells #[] 9)).heap[w.heap.size]? = some (.cells #[encStr x] 9 (0, 0)) := by
  rw [Below.heap_alloc _ _ _ (by simp)]
  exact heap_alloc_new w.drew (.cells #[encStr x] 9)
/-- the first append -/
theorem first_app {w W w5 : World} {gA : Nat} {vs : List Bytes} {v' : Value} {n : Nat} {xs : List Value} (h : OStrs (fun g => w.heap.size ≤ g) W (.slice (some ⟨gA, 0, none⟩) 0 0) []) (hW : Chg None w W) (hs : w5.ownsRow 0 9 1 v' n xs) (hn : n = vs.length) (hx : xs = vs.map encStr)
    (hl : v'.ownBlock = (Value.slice (some ⟨gA, 0, none⟩) 0 0).ownBlock ∨ v'.ownBlock = some W.heap.size) (hg : W.grownBy w5 (Value.slice (some ⟨gA, 0, none⟩) 0 0).ownBlock) :
    OStrs (fun g => w.heap.size ≤ g) w5 v' vs ∧ Chg None w w5 ∧ ∀ (gB : Nat) o, gB ≠ gA → W.heap[gB]? = some o → w5.heap[gB]? = some o := by
  obtain ⟨h1, h2⟩ := strs_app (k := vs) h (Chg.refl _ _) hW.size hs (by simpa using hn) (by simpa using hx) hl hg
  rw [List.nil_append] at h1
  refine ⟨h1, hW.then h2 (fun i hi e => by omega), fun gB o hne hB => ?_⟩
  rw [(Chg.ofGrown hg).block gB (Array.getElem?_eq_some_iff.1 hB).1 (fun e => hne (own_new e.symm))]
  exact hB
/-- the second append -/
theorem second_app {w w5 W w7 : World} {vs X : List Bytes} {x : Bytes} {u v' : Value} {n : Nat} {xs : List Value} (hX : vs ++ [x] = X) (h : OStrs (fun g => w.heap.size ≤ g) w5 u vs) (h5 : Chg None w w5) (hW : Chg None w5 W) (hs : w7.ownsRow 0 9 1 v' n xs) (hn : n = vs.length + 1) (hx : xs = vs.map encStr ++ [encStr x])
    (hl : v'.ownBlock = u.ownBlock ∨ v'.ownBlock = some W.heap.size) (hg : W.grownBy w7 u.ownBlock) : RStrs (fun g => w.heap.size ≤ g) w7 v' X ∧ Chg None w w7 := by
  obtain ⟨h1, h2⟩ := strs_app (k := [x]) h hW (Nat.le_trans h5.size hW.size) hs (by simpa using hn) (by simpa using hx) hl hg
  rw [hX] at h1
  exact ⟨h1.read, h5.then h2 (fun i hi e => by omega)⟩

set_option maxRecDepth 100000 in
set_option maxHeartbeats 1000000 in
theorem walk (kv : Value) (ks : List Bytes) (vv : Value) (vss : List (List Bytes)) (k x : Bytes) (w : World) (hk : RStrs All w kv ks) (hv : RTextss All w vv vss)
    (hb : bulkS ks + bulkSS vss + k.length + x.length ≤ 1048576) (hT : Tab w) :
    Calls Tryd.prog 14 #[kv, vv, encStr k, encStr x] w (Ret (.bool true) w) := by
  have hz := Uv.bulk_zip ks bulkSS (fun _ _ => rfl) vss
  obtain ⟨es, hes⟩ : ∃ es, ks.zip vss = es := ⟨_, rfl⟩
  have hN0 : bulk (ks.zip vss) ≤ 4194304 := by omega
  rw [hes] at hz
  have HE := Lib.hid hes
  clear hes
  have hvl := Uv.length_vals (kept es) k
  have hbk := Uv.bulk_kept es
  have HH : Hid (has (add (kept es) k x) k = true) := by show _ = _; rw [Uv.has_add]; simp
  obtain ⟨X, hX0⟩ : ∃ X, vals (add (kept es) k x) k = X := ⟨_, rfl⟩
  have hX : vals (kept es) k ++ [x] = X := by rw [← hX0, Uv.vals_add, if_pos rfl]
  have HX := Lib.hid hX
  have HX0 := Lib.hid hX0
  have hXl : 0 < X.length := by rw [← hX]; simp
  clear hX hX0
  have hvo : ValOk es := valOk_of_bulk (by omega)
  have hkm : k.length ≤ maxLen := by unfold maxLen; omega
  go_enter Tryd.func14, Tryd.ntmps14
  go_wp2_with fail
  refine (entries_ok All _ _ ks vss _ hk hv hN0).mono ?_
  rw [HE.out]
  rintro e w1 ⟨a1, k1, rfl, o1, c1⟩
  go_wp2_with fail
  refine (held_ok _ _ _ es _ [] k _ o1.read (steps_nil _) (hT.new c1) (by simp only [bulkT]; omega)).mono ?_
  rw [show plM (kept es) [] = kept es from rfl]
  rintro e w3 ⟨a3, k3, rfl, s3, c3⟩
  have o3 := o1.read.new c3
  go_wp2_with fail
  refine (implAdd_ok _ _ es k x k _ o3 (by omega) hkm).mono ?_
  rw [HH.out, HX0.out]
  rintro e w4 ⟨a4, k4, rfl, s4, c4⟩
  have o4 := o3.new c4
  have c04 := (c1.trans c3).trans c4
  have s34 := s3.read.new c4
  have s44 := s4.read
  have hf := s4.1.2
  clear s3 o1 o3 HX0 HH
  obtain ⟨vs, hvs⟩ : ∃ vs, vals (kept es) k = vs := ⟨_, rfl⟩
  have HVS := Lib.hid hvs
  rw [hvs] at s34 hvl HX ⊢
  clear hvs
  have d4 : Chg None w4 (w4.drew.alloc (.cells #[] 9)) := ((Chg.refl None w4).drew).alloc _
  have d42 : Chg None w4 ((w4.drew.alloc (.cells #[] 9)).alloc (.cells #[encStr x] 9)) := (((Chg.refl None w4).drew).alloc _).alloc _
  have d43 : Chg None w4 ((w4.drew.alloc (.cells #[encStr x] 9)).alloc (.cells #[] 9)) := (((Chg.refl None w4).drew).alloc _).alloc _
  have r1 := (s34.new d4).src
  have r2 := (s34.new d42).src
  have r3 := (s34.new d43).src
  have h1 := way1 w4
  have h2 := way2 w4 x
  have h3 := way3 w4 x
  have HB2 := Lib.hid (blk2 w4 x)
  have HB3 := Lib.hid (blk3 w4 x)
  by_cases hv0 : vs = []
  · have hz0 : ((vs.length : Int) == 0) = true := by rw [hv0]; rfl
    clear hv0 hf s4
    go_wp2
    refine wp_region_held_drew (S := fun _ => True) (by kernel_rfl) trivial (fun _ => ?_)
    refine wpAnyH_take (i := 0) (v := ?_) rfl (by kernel_rfl) (by kernel_rfl) (by kernel_rfl) (fun _ _ _ h => h) (Or.inl ⟨by rfl, ?_⟩) trivial ?_
    rotate_left
    · (intro w' _; go_simp; first | done | with_reducible rfl)
    change wpAnyH _ _ _ _ _ _ _ (Act.put _ (some 31) _) _
    simp only [Act.put, List.setIfInBounds_toArray, List.set_cons_zero, List.set_cons_succ]
    refine wpAnyH_take (i := 1) (v := ?_) rfl (by kernel_rfl) (by kernel_rfl) (by kernel_rfl) (fun _ _ _ h => h) (Or.inl ⟨by rfl, ?_⟩) trivial ?_
    rotate_left
    · (intro w' _; go_simp; first | done | with_reducible rfl)
    change wpAnyH _ _ _ _ _ _ _ (Act.put _ (some 32) _) _
    simp only [Act.put, List.setIfInBounds_toArray, List.set_cons_zero, List.set_cons_succ]
    refine wpAnyH_take (i := 2) (v := ?_) rfl (by kernel_rfl) (by kernel_rfl) (by kernel_rfl) (fun _ _ _ h => h) (Or.inl ⟨by rfl, ?_⟩) trivial ?_
    rotate_left
    · (intro w' _; go_simp; first | done | with_reducible rfl)
    change wpAnyH _ _ _ _ _ _ _ (Act.put _ (some 33) _) _
    simp only [Act.put, List.setIfInBounds_toArray, List.set_cons_zero, List.set_cons_succ]
    refine wpAnyH_take (i := 4) (v := ?_) rfl (by kernel_rfl) (by kernel_rfl) (by kernel_rfl) (fun _ _ _ h => h) (Or.inl ⟨by rfl, ?_⟩) trivial ?_
    rotate_left
    · (intro w' _; go_simp; first | done | with_reducible rfl)
    change wpAnyH _ _ _ _ _ _ _ (Act.put _ (some 35) _) _
    simp only [Act.put, List.setIfInBounds_toArray, List.set_cons_zero, List.set_cons_succ]
    refine wpAnyH_take (i := 6) (v := ?_) rfl (by kernel_rfl) (by kernel_rfl) (by kernel_rfl) (fun _ _ _ h => h) (Or.inl ⟨by rfl, ?_⟩) trivial ?_
    rotate_left
    · (intro w' _; go_simp; first | done | with_reducible rfl)
    change wpAnyH _ _ _ _ _ _ _ (Act.put _ (some 37) _) _
    simp only [Act.put, List.setIfInBounds_toArray, List.set_cons_zero, List.set_cons_succ]
    refine wpAnyH_ready (rs := [3, 7]) (by kernel_rfl) (by simp) (AllReadyH.cons rfl (fun K hK => ?_) (AllReadyH.cons rfl (fun K hK => ?_) (AllReadyH.nil)))
    · go_simp
      refine hK.out _ _ trivial (fun _ => ?_)
      clear hK K
      refine wpAnyH_ready (rs := [5, 7]) (by kernel_rfl) (by simp) (AllReadyH.cons rfl (fun K hK => ?_) (AllReadyH.cons rfl (fun K hK => ?_) (AllReadyH.nil)))
      · (refine step_appW _ elStr rfl _ _ _ rfl h1.1 rfl r1 rfl (by simp [maxLen]; omega) (by simp; omega) ?_; rw [List.length_nil, Nat.zero_add]; intro a5 k5 w5 hs5 hg5 hl5; obtain ⟨hO5, c5, hB⟩ := first_app (vs := vs) h1 d4 hs5 rfl (by simp) hl5 hg5; clear hs5 hg5 hl5 hB h1 h2 h3)
        refine hK.out _ _ trivial (fun _ => ?_)
        clear hK K
        change wpAnyH _ _ _ _ _ _ _ (Act.put _ (some 36) _) _
        simp only [Act.put, List.setIfInBounds_toArray, List.set_cons_zero, List.set_cons_succ]
        refine wpAnyH_ready (rs := [7]) (by kernel_rfl) (by simp) (AllReadyH.cons rfl (fun K hK => ?_) (AllReadyH.nil))
        go_simp
        refine hK.out _ _ trivial (fun _ => ?_)
        clear hK K
        refine wpAnyH_ready (rs := [8]) (by kernel_rfl) (by simp) (AllReadyH.cons rfl (fun K hK => ?_) (AllReadyH.nil))
        (refine step_appW _ elStr rfl _ _ _ rfl (ownsRow_chg hO5.1 ((Chg.refl None w5).alloc _) (fun _ _ x => x)) rfl (Src.ofSlice _ elStr.ht ⟨w5.heap.size, 0, none⟩ 1 1 [encStr x] rfl (World.news_of_block (cs := #[encStr x]) (t := 9) (fr := (0, 0)) (heap_alloc_new w5 _)) (by simp [Value.oneCell', encStr])) rfl (by unfold maxLen; omega) (by omega) ?_; intro a7 k7 w7 hs7 hg7 hl7; obtain ⟨hO7, c7⟩ := second_app HX.out hO5 c5 ((Chg.refl None w5).alloc _) hs7 rfl rfl hl7 hg7; clear hs7 hg7 hl7 hO5)
        refine hK.out _ _ trivial (fun _ => ?_)
        clear hK K
        change wpAnyH _ _ _ _ _ _ _ (Act.put _ (some 39) _) _
        simp only [Act.put, List.setIfInBounds_toArray, List.set_cons_zero, List.set_cons_succ]
        refine wpAnyH_ready (rs := [9]) (by kernel_rfl) (by simp) (AllReadyH.cons rfl (fun K hK => ?_) (AllReadyH.nil))
        go_simp
        refine (same_ok _ _ _ _ X X _ (s44.new c7) hO7).mono ?_
        rw [decide_eq_true rfl]
        rintro e w8 ⟨rfl, c8'⟩
        have c8 := c7.trans c8'
        clear c8' hO7
        go_wp2_with fail
        refine hK.out _ _ trivial (fun _ => ?_)
        clear hK K
        refine wpAnyH_take (i := 10) (v := ?_) rfl (by kernel_rfl) (by kernel_rfl) (by kernel_rfl) (fun _ _ _ h => h) (Or.inl ⟨by rfl, ?_⟩) trivial ?_
        rotate_left
        · (intro w' _; go_simp; first | done | with_reducible rfl)
        change wpAnyH _ _ _ _ _ _ _ (Act.put _ (some 41) _) _
        simp only [Act.put, List.setIfInBounds_toArray, List.set_cons_zero, List.set_cons_succ]
        refine wpAnyH_take (i := 11) (v := ?_) rfl (by kernel_rfl) (by kernel_rfl) (by kernel_rfl) (fun _ _ _ h => h) (Or.inl ⟨by rfl, ?_⟩) trivial ?_
        rotate_left
        · (intro w' _; go_simp; first | done | with_reducible rfl)
        change wpAnyH _ _ _ _ _ _ _ (Act.put _ (some 42) _) _
        simp only [Act.put, List.setIfInBounds_toArray, List.set_cons_zero, List.set_cons_succ]
        refine wpAnyH_take (i := 12) (v := ?_) rfl (by kernel_rfl) (by kernel_rfl) (by kernel_rfl) (fun _ _ _ h => h) (Or.inl ⟨by rfl, ?_⟩) trivial ?_
        rotate_left
        · (intro w' _; go_simp; first | done | with_reducible rfl)
        change wpAnyH _ _ _ _ _ _ _ (Act.put _ (some 43) _) _
        simp only [Act.put, List.setIfInBounds_toArray, List.set_cons_zero, List.set_cons_succ]
        refine wpAnyH_take (i := 13) (v := ?_) rfl (by kernel_rfl) (by kernel_rfl) (by kernel_rfl) (fun _ _ _ h => h) (Or.inl ⟨by rfl, ?_⟩) trivial ?_
        rotate_left
        · (intro w' _; go_simp; first | done | with_reducible rfl)
        change wpAnyH _ _ _ _ _ _ _ (Act.put _ (some 44) _) _
        simp only [Act.put, List.setIfInBounds_toArray, List.set_cons_zero, List.set_cons_succ]
        refine wpAnyH_take (i := 14) (v := ?_) rfl (by kernel_rfl) (by kernel_rfl) (by kernel_rfl) (fun _ _ _ h => h) (Or.inl ⟨by rfl, ?_⟩) trivial ?_
        rotate_left
        · (intro w' _; go_simp; first | done | with_reducible rfl)
        change wpAnyH _ _ _ _ _ _ _ (Act.put _ (some 45) _) _
        simp only [Act.put, List.setIfInBounds_toArray, List.set_cons_zero, List.set_cons_succ]
        refine wpAnyH_take (i := 15) (v := ?_) rfl (by kernel_rfl) (by kernel_rfl) (by kernel_rfl) (fun _ _ _ h => h) (Or.inl ⟨by rfl, ?_⟩) trivial ?_
        rotate_left
        · (intro w' _; go_simp; first | done | with_reducible rfl)
        change wpAnyH _ _ _ _ _ _ _ (Act.put _ (some 46) _) _
        simp only [Act.put, List.setIfInBounds_toArray, List.set_cons_zero, List.set_cons_succ]
        refine wpAnyH_take (i := 16) (v := undef) rfl (by kernel_rfl) (by kernel_rfl) (by kernel_rfl) (fun _ _ _ h => h) (Or.inr ⟨by rfl, rfl⟩) trivial ?_
        change wpAnyH _ _ _ _ _ _ _ (Act.put _ (some 47) _) _
        simp only [Act.put, List.setIfInBounds_toArray, List.set_cons_zero, List.set_cons_succ]
        refine wpAnyH_take (i := 17) (v := undef) rfl (by kernel_rfl) (by kernel_rfl) (by kernel_rfl) (fun _ _ _ h => h) (Or.inr ⟨by rfl, rfl⟩) trivial ?_
        change wpAnyH _ _ _ _ _ _ _ (Act.put _ (some 48) _) _
        simp only [Act.put, List.setIfInBounds_toArray, List.set_cons_zero, List.set_cons_succ]
        refine wpAnyH_take (i := 18) (v := undef) rfl (by kernel_rfl) (by kernel_rfl) (by kernel_rfl) (fun _ _ _ h => h) (Or.inr ⟨by rfl, rfl⟩) trivial ?_
        change wpAnyH _ _ _ _ _ _ _ (Act.put _ (some 49) _) _
        simp only [Act.put, List.setIfInBounds_toArray, List.set_cons_zero, List.set_cons_succ]
        refine wpAnyH_take (i := 19) (v := undef) rfl (by kernel_rfl) (by kernel_rfl) (by kernel_rfl) (fun _ _ _ h => h) (Or.inr ⟨by rfl, rfl⟩) trivial ?_
        change wpAnyH _ _ _ _ _ _ _ (Act.put _ (some 50) _) _
        simp only [Act.put, List.setIfInBounds_toArray, List.set_cons_zero, List.set_cons_succ]
        refine wpAnyH_take (i := 20) (v := undef) rfl (by kernel_rfl) (by kernel_rfl) (by kernel_rfl) (fun _ _ _ h => h) (Or.inr ⟨by rfl, rfl⟩) trivial ?_
        change wpAnyH _ _ _ _ _ _ _ (Act.put _ (some 51) _) _
        simp only [Act.put, List.setIfInBounds_toArray, List.set_cons_zero, List.set_cons_succ]
        refine wpAnyH_take (i := 21) (v := undef) rfl (by kernel_rfl) (by kernel_rfl) (by kernel_rfl) (fun _ _ _ h => h) (Or.inr ⟨by rfl, rfl⟩) trivial ?_
        change wpAnyH _ _ _ _ _ _ _ (Act.put _ (some 52) _) _
        simp only [Act.put, List.setIfInBounds_toArray, List.set_cons_zero, List.set_cons_succ]
        refine wpAnyH_take (i := 22) (v := undef) rfl (by kernel_rfl) (by kernel_rfl) (by kernel_rfl) (fun _ _ _ h => h) (Or.inr ⟨by rfl, rfl⟩) trivial ?_
        change wpAnyH _ _ _ _ _ _ _ (Act.put _ (some 53) _) _
        simp only [Act.put, List.setIfInBounds_toArray, List.set_cons_zero, List.set_cons_succ]
        refine wpAnyH_take (i := 23) (v := ?_) rfl (by kernel_rfl) (by kernel_rfl) (by kernel_rfl) (fun _ _ _ h => h) (Or.inl ⟨by rfl, ?_⟩) trivial ?_
        rotate_left
        · (intro w' _; go_simp; first | done | with_reducible rfl)
        change wpAnyH _ _ _ _ _ _ _ (Act.put _ (some 54) _) _
        simp only [Act.put, List.setIfInBounds_toArray, List.set_cons_zero, List.set_cons_succ]
        refine wpAnyH_take (i := 24) (v := ?_) rfl (by kernel_rfl) (by kernel_rfl) (by kernel_rfl) (fun _ _ _ h => h) (Or.inl ⟨by rfl, ?_⟩) trivial ?_
        rotate_left
        · (intro w' _; go_simp; first | done | with_reducible rfl)
        change wpAnyH _ _ _ _ _ _ _ (Act.put _ (some 55) _) _
        simp only [Act.put, List.setIfInBounds_toArray, List.set_cons_zero, List.set_cons_succ]
        refine wpAnyH_take (i := 25) (v := ?_) rfl (by kernel_rfl) (by kernel_rfl) (by kernel_rfl) (fun _ _ _ h => h) (Or.inl ⟨by rfl, ?_⟩) trivial ?_
        rotate_left
        · (intro w' _; go_simp; first | done | with_reducible rfl)
        change wpAnyH _ _ _ _ _ _ _ (Act.put _ (some 8) _) _
        simp only [Act.put, List.setIfInBounds_toArray, List.set_cons_zero, List.set_cons_succ]
        refine wpAnyH_done (by kernel_rfl) ?_ _
        go_wp2
        go_ret
        exact ⟨rfl, c04.trans c8⟩
      · go_simp
        refine hK.out _ _ trivial (fun _ => ?_)
        clear hK K
        refine wpAnyH_ready (rs := [5]) (by kernel_rfl) (by simp) (AllReadyH.cons rfl (fun K hK => ?_) (AllReadyH.nil))
        (refine step_appW _ elStr rfl _ _ _ rfl h2.1 rfl r2 rfl (by simp [maxLen]; omega) (by simp; omega) ?_; rw [List.length_nil, Nat.zero_add]; intro a5 k5 w5 hs5 hg5 hl5; obtain ⟨hO5, c5, hB⟩ := first_app (vs := vs) h2 d42 hs5 rfl (by simp) hl5 hg5; have hbB := hB _ _ (by omega) HB2.out; clear hs5 hg5 hl5 hB h1 h2 h3)
        refine hK.out _ _ trivial (fun _ => ?_)
        clear hK K
        change wpAnyH _ _ _ _ _ _ _ (Act.put _ (some 36) _) _
        simp only [Act.put, List.setIfInBounds_toArray, List.set_cons_zero, List.set_cons_succ]
        refine wpAnyH_ready (rs := [8]) (by kernel_rfl) (by simp) (AllReadyH.cons rfl (fun K hK => ?_) (AllReadyH.nil))
        (refine step_appW _ elStr rfl _ _ _ rfl hO5.1 rfl (Src.ofSlice _ elStr.ht ⟨_, 0, none⟩ 1 1 [encStr x] rfl (World.news_of_block (cs := #[encStr x]) (t := 9) (fr := (0, 0)) hbB) (by simp [Value.oneCell', encStr])) rfl (by unfold maxLen; omega) (by omega) ?_; intro a7 k7 w7 hs7 hg7 hl7; obtain ⟨hO7, c7⟩ := second_app HX.out hO5 c5 (Chg.refl None w5) hs7 rfl rfl hl7 hg7; clear hs7 hg7 hl7 hO5 hbB)
        refine hK.out _ _ trivial (fun _ => ?_)
        clear hK K
        change wpAnyH _ _ _ _ _ _ _ (Act.put _ (some 39) _) _
        simp only [Act.put, List.setIfInBounds_toArray, List.set_cons_zero, List.set_cons_succ]
        refine wpAnyH_ready (rs := [9]) (by kernel_rfl) (by simp) (AllReadyH.cons rfl (fun K hK => ?_) (AllReadyH.nil))
        go_simp
        refine (same_ok _ _ _ _ X X _ (s44.new c7) hO7).mono ?_
        rw [decide_eq_true rfl]
        rintro e w8 ⟨rfl, c8'⟩
        have c8 := c7.trans c8'
        clear c8' hO7
        go_wp2_with fail
        refine hK.out _ _ trivial (fun _ => ?_)
        clear hK K
        refine wpAnyH_take (i := 10) (v := ?_) rfl (by kernel_rfl) (by kernel_rfl) (by kernel_rfl) (fun _ _ _ h => h) (Or.inl ⟨by rfl, ?_⟩) trivial ?_
        rotate_left
        · (intro w' _; go_simp; first | done | with_reducible rfl)
        change wpAnyH _ _ _ _ _ _ _ (Act.put _ (some 41) _) _
        simp only [Act.put, List.setIfInBounds_toArray, List.set_cons_zero, List.set_cons_succ]
        refine wpAnyH_take (i := 11) (v := ?_) rfl (by kernel_rfl) (by kernel_rfl) (by kernel_rfl) (fun _ _ _ h => h) (Or.inl ⟨by rfl, ?_⟩) trivial ?_
        rotate_left
        · (intro w' _; go_simp; first | done | with_reducible rfl)
        change wpAnyH _ _ _ _ _ _ _ (Act.put _ (some 42) _) _
        simp only [Act.put, List.setIfInBounds_toArray, List.set_cons_zero, List.set_cons_succ]
        refine wpAnyH_take (i := 12) (v := ?_) rfl (by kernel_rfl) (by kernel_rfl) (by kernel_rfl) (fun _ _ _ h => h) (Or.inl ⟨by rfl, ?_⟩) trivial ?_
        rotate_left
        · (intro w' _; go_simp; first | done | with_reducible rfl)
        change wpAnyH _ _ _ _ _ _ _ (Act.put _ (some 43) _) _
        simp only [Act.put, List.setIfInBounds_toArray, List.set_cons_zero, List.set_cons_succ]
        refine wpAnyH_take (i := 13) (v := ?_) rfl (by kernel_rfl) (by kernel_rfl) (by kernel_rfl) (fun _ _ _ h => h) (Or.inl ⟨by rfl, ?_⟩) trivial ?_
        rotate_left
        · (intro w' _; go_simp; first | done | with_reducible rfl)
        change wpAnyH _ _ _ _ _ _ _ (Act.put _ (some 44) _) _
        simp only [Act.put, List.setIfInBounds_toArray, List.set_cons_zero, List.set_cons_succ]
        refine wpAnyH_take (i := 14) (v := ?_) rfl (by kernel_rfl) (by kernel_rfl) (by kernel_rfl) (fun _ _ _ h => h) (Or.inl ⟨by rfl, ?_⟩) trivial ?_
        rotate_left
        · (intro w' _; go_simp; first | done | with_reducible rfl)
        change wpAnyH _ _ _ _ _ _ _ (Act.put _ (some 45) _) _
        simp only [Act.put, List.setIfInBounds_toArray, List.set_cons_zero, List.set_cons_succ]
        refine wpAnyH_take (i := 15) (v := ?_) rfl (by kernel_rfl) (by kernel_rfl) (by kernel_rfl) (fun _ _ _ h => h) (Or.inl ⟨by rfl, ?_⟩) trivial ?_
        rotate_left
        · (intro w' _; go_simp; first | done | with_reducible rfl)
        change wpAnyH _ _ _ _ _ _ _ (Act.put _ (some 46) _) _
        simp only [Act.put, List.setIfInBounds_toArray, List.set_cons_zero, List.set_cons_succ]
        refine wpAnyH_take (i := 16) (v := undef) rfl (by kernel_rfl) (by kernel_rfl) (by kernel_rfl) (fun _ _ _ h => h) (Or.inr ⟨by rfl, rfl⟩) trivial ?_
        change wpAnyH _ _ _ _ _ _ _ (Act.put _ (some 47) _) _
        simp only [Act.put, List.setIfInBounds_toArray, List.set_cons_zero, List.set_cons_succ]
        refine wpAnyH_take (i := 17) (v := undef) rfl (by kernel_rfl) (by kernel_rfl) (by kernel_rfl) (fun _ _ _ h => h) (Or.inr ⟨by rfl, rfl⟩) trivial ?_
        change wpAnyH _ _ _ _ _ _ _ (Act.put _ (some 48) _) _
        simp only [Act.put, List.setIfInBounds_toArray, List.set_cons_zero, List.set_cons_succ]
        refine wpAnyH_take (i := 18) (v := undef) rfl (by kernel_rfl) (by kernel_rfl) (by kernel_rfl) (fun _ _ _ h => h) (Or.inr ⟨by rfl, rfl⟩) trivial ?_
        change wpAnyH _ _ _ _ _ _ _ (Act.put _ (some 49) _) _
        simp only [Act.put, List.setIfInBounds_toArray, List.set_cons_zero, List.set_cons_succ]
        refine wpAnyH_take (i := 19) (v := undef) rfl (by kernel_rfl) (by kernel_rfl) (by kernel_rfl) (fun _ _ _ h => h) (Or.inr ⟨by rfl, rfl⟩) trivial ?_
        change wpAnyH _ _ _ _ _ _ _ (Act.put _ (some 50) _) _
        simp only [Act.put, List.setIfInBounds_toArray, List.set_cons_zero, List.set_cons_succ]
        refine wpAnyH_take (i := 20) (v := undef) rfl (by kernel_rfl) (by kernel_rfl) (by kernel_rfl) (fun _ _ _ h => h) (Or.inr ⟨by rfl, rfl⟩) trivial ?_
        change wpAnyH _ _ _ _ _ _ _ (Act.put _ (some 51) _) _
        simp only [Act.put, List.setIfInBounds_toArray, List.set_cons_zero, List.set_cons_succ]
        refine wpAnyH_take (i := 21) (v := undef) rfl (by kernel_rfl) (by kernel_rfl) (by kernel_rfl) (fun _ _ _ h => h) (Or.inr ⟨by rfl, rfl⟩) trivial ?_
        change wpAnyH _ _ _ _ _ _ _ (Act.put _ (some 52) _) _
        simp only [Act.put, List.setIfInBounds_toArray, List.set_cons_zero, List.set_cons_succ]
        refine wpAnyH_take (i := 22) (v := undef) rfl (by kernel_rfl) (by kernel_rfl) (by kernel_rfl) (fun _ _ _ h => h) (Or.inr ⟨by rfl, rfl⟩) trivial ?_
        change wpAnyH _ _ _ _ _ _ _ (Act.put _ (some 53) _) _
        simp only [Act.put, List.setIfInBounds_toArray, List.set_cons_zero, List.set_cons_succ]
        refine wpAnyH_take (i := 23) (v := ?_) rfl (by kernel_rfl) (by kernel_rfl) (by kernel_rfl) (fun _ _ _ h => h) (Or.inl ⟨by rfl, ?_⟩) trivial ?_
        rotate_left
        · (intro w' _; go_simp; first | done | with_reducible rfl)
        change wpAnyH _ _ _ _ _ _ _ (Act.put _ (some 54) _) _
        simp only [Act.put, List.setIfInBounds_toArray, List.set_cons_zero, List.set_cons_succ]
        refine wpAnyH_take (i := 24) (v := ?_) rfl (by kernel_rfl) (by kernel_rfl) (by kernel_rfl) (fun _ _ _ h => h) (Or.inl ⟨by rfl, ?_⟩) trivial ?_
        rotate_left
        · (intro w' _; go_simp; first | done | with_reducible rfl)
        change wpAnyH _ _ _ _ _ _ _ (Act.put _ (some 55) _) _
        simp only [Act.put, List.setIfInBounds_toArray, List.set_cons_zero, List.set_cons_succ]
        refine wpAnyH_take (i := 25) (v := ?_) rfl (by kernel_rfl) (by kernel_rfl) (by kernel_rfl) (fun _ _ _ h => h) (Or.inl ⟨by rfl, ?_⟩) trivial ?_
        rotate_left
        · (intro w' _; go_simp; first | done | with_reducible rfl)
        change wpAnyH _ _ _ _ _ _ _ (Act.put _ (some 8) _) _
        simp only [Act.put, List.setIfInBounds_toArray, List.set_cons_zero, List.set_cons_succ]
        refine wpAnyH_done (by kernel_rfl) ?_ _
        go_wp2
        go_ret
        exact ⟨rfl, c04.trans c8⟩
    · go_simp
      refine hK.out _ _ trivial (fun _ => ?_)
      clear hK K
      refine wpAnyH_ready (rs := [3]) (by kernel_rfl) (by simp) (AllReadyH.cons rfl (fun K hK => ?_) (AllReadyH.nil))
      go_simp
      refine hK.out _ _ trivial (fun _ => ?_)
      clear hK K
      refine wpAnyH_ready (rs := [5]) (by kernel_rfl) (by simp) (AllReadyH.cons rfl (fun K hK => ?_) (AllReadyH.nil))
      (refine step_appW _ elStr rfl _ _ _ rfl h3.1 rfl r3 rfl (by simp [maxLen]; omega) (by simp; omega) ?_; rw [List.length_nil, Nat.zero_add]; intro a5 k5 w5 hs5 hg5 hl5; obtain ⟨hO5, c5, hB⟩ := first_app (vs := vs) h3 d43 hs5 rfl (by simp) hl5 hg5; have hbB := hB _ _ (by omega) HB3.out; clear hs5 hg5 hl5 hB h1 h2 h3)
      refine hK.out _ _ trivial (fun _ => ?_)
      clear hK K
      change wpAnyH _ _ _ _ _ _ _ (Act.put _ (some 36) _) _
      simp only [Act.put, List.setIfInBounds_toArray, List.set_cons_zero, List.set_cons_succ]
      refine wpAnyH_ready (rs := [8]) (by kernel_rfl) (by simp) (AllReadyH.cons rfl (fun K hK => ?_) (AllReadyH.nil))
      (refine step_appW _ elStr rfl _ _ _ rfl hO5.1 rfl (Src.ofSlice _ elStr.ht ⟨_, 0, none⟩ 1 1 [encStr x] rfl (World.news_of_block (cs := #[encStr x]) (t := 9) (fr := (0, 0)) hbB) (by simp [Value.oneCell', encStr])) rfl (by unfold maxLen; omega) (by omega) ?_; intro a7 k7 w7 hs7 hg7 hl7; obtain ⟨hO7, c7⟩ := second_app HX.out hO5 c5 (Chg.refl None w5) hs7 rfl rfl hl7 hg7; clear hs7 hg7 hl7 hO5 hbB)
      refine hK.out _ _ trivial (fun _ => ?_)
      clear hK K
      change wpAnyH _ _ _ _ _ _ _ (Act.put _ (some 39) _) _
      simp only [Act.put, List.setIfInBounds_toArray, List.set_cons_zero, List.set_cons_succ]
      refine wpAnyH_ready (rs := [9]) (by kernel_rfl) (by simp) (AllReadyH.cons rfl (fun K hK => ?_) (AllReadyH.nil))
      go_simp
      refine (same_ok _ _ _ _ X X _ (s44.new c7) hO7).mono ?_
      rw [decide_eq_true rfl]
      rintro e w8 ⟨rfl, c8'⟩
      have c8 := c7.trans c8'
      clear c8' hO7
      go_wp2_with fail
      refine hK.out _ _ trivial (fun _ => ?_)
      clear hK K
      refine wpAnyH_take (i := 10) (v := ?_) rfl (by kernel_rfl) (by kernel_rfl) (by kernel_rfl) (fun _ _ _ h => h) (Or.inl ⟨by rfl, ?_⟩) trivial ?_
      rotate_left
      · (intro w' _; go_simp; first | done | with_reducible rfl)
      change wpAnyH _ _ _ _ _ _ _ (Act.put _ (some 41) _) _
      simp only [Act.put, List.setIfInBounds_toArray, List.set_cons_zero, List.set_cons_succ]
      refine wpAnyH_take (i := 11) (v := ?_) rfl (by kernel_rfl) (by kernel_rfl) (by kernel_rfl) (fun _ _ _ h => h) (Or.inl ⟨by rfl, ?_⟩) trivial ?_
      rotate_left
      · (intro w' _; go_simp; first | done | with_reducible rfl)
      change wpAnyH _ _ _ _ _ _ _ (Act.put _ (some 42) _) _
      simp only [Act.put, List.setIfInBounds_toArray, List.set_cons_zero, List.set_cons_succ]
      refine wpAnyH_take (i := 12) (v := ?_) rfl (by kernel_rfl) (by kernel_rfl) (by kernel_rfl) (fun _ _ _ h => h) (Or.inl ⟨by rfl, ?_⟩) trivial ?_
      rotate_left
      · (intro w' _; go_simp; first | done | with_reducible rfl)
      change wpAnyH _ _ _ _ _ _ _ (Act.put _ (some 43) _) _
      simp only [Act.put, List.setIfInBounds_toArray, List.set_cons_zero, List.set_cons_succ]
      refine wpAnyH_take (i := 13) (v := ?_) rfl (by kernel_rfl) (by kernel_rfl) (by kernel_rfl) (fun _ _ _ h => h) (Or.inl ⟨by rfl, ?_⟩) trivial ?_
      rotate_left
      · (intro w' _; go_simp; first | done | with_reducible rfl)
      change wpAnyH _ _ _ _ _ _ _ (Act.put _ (some 44) _) _
      simp only [Act.put, List.setIfInBounds_toArray, List.set_cons_zero, List.set_cons_succ]
      refine wpAnyH_take (i := 14) (v := ?_) rfl (by kernel_rfl) (by kernel_rfl) (by kernel_rfl) (fun _ _ _ h => h) (Or.inl ⟨by rfl, ?_⟩) trivial ?_
      rotate_left
      · (intro w' _; go_simp; first | done | with_reducible rfl)
      change wpAnyH _ _ _ _ _ _ _ (Act.put _ (some 45) _) _
      simp only [Act.put, List.setIfInBounds_toArray, List.set_cons_zero, List.set_cons_succ]
      refine wpAnyH_take (i := 15) (v := ?_) rfl (by kernel_rfl) (by kernel_rfl) (by kernel_rfl) (fun _ _ _ h => h) (Or.inl ⟨by rfl, ?_⟩) trivial ?_
      rotate_left
      · (intro w' _; go_simp; first | done | with_reducible rfl)
      change wpAnyH _ _ _ _ _ _ _ (Act.put _ (some 46) _) _
      simp only [Act.put, List.setIfInBounds_toArray, List.set_cons_zero, List.set_cons_succ]
      refine wpAnyH_take (i := 16) (v := undef) rfl (by kernel_rfl) (by kernel_rfl) (by kernel_rfl) (fun _ _ _ h => h) (Or.inr ⟨by rfl, rfl⟩) trivial ?_
      change wpAnyH _ _ _ _ _ _ _ (Act.put _ (some 47) _) _
      simp only [Act.put, List.setIfInBounds_toArray, List.set_cons_zero, List.set_cons_succ]
      refine wpAnyH_take (i := 17) (v := undef) rfl (by kernel_rfl) (by kernel_rfl) (by kernel_rfl) (fun _ _ _ h => h) (Or.inr ⟨by rfl, rfl⟩) trivial ?_
      change wpAnyH _ _ _ _ _ _ _ (Act.put _ (some 48) _) _
      simp only [Act.put, List.setIfInBounds_toArray, List.set_cons_zero, List.set_cons_succ]
      refine wpAnyH_take (i := 18) (v := undef) rfl (by kernel_rfl) (by kernel_rfl) (by kernel_rfl) (fun _ _ _ h => h) (Or.inr ⟨by rfl, rfl⟩) trivial ?_
      change wpAnyH _ _ _ _ _ _ _ (Act.put _ (some 49) _) _
      simp only [Act.put, List.setIfInBounds_toArray, List.set_cons_zero, List.set_cons_succ]
      refine wpAnyH_take (i := 19) (v := undef) rfl (by kernel_rfl) (by kernel_rfl) (by kernel_rfl) (fun _ _ _ h => h) (Or.inr ⟨by rfl, rfl⟩) trivial ?_
      change wpAnyH _ _ _ _ _ _ _ (Act.put _ (some 50) _) _
      simp only [Act.put, List.setIfInBounds_toArray, List.set_cons_zero, List.set_cons_succ]
      refine wpAnyH_take (i := 20) (v := undef) rfl (by kernel_rfl) (by kernel_rfl) (by kernel_rfl) (fun _ _ _ h => h) (Or.inr ⟨by rfl, rfl⟩) trivial ?_
      change wpAnyH _ _ _ _ _ _ _ (Act.put _ (some 51) _) _
      simp only [Act.put, List.setIfInBounds_toArray, List.set_cons_zero, List.set_cons_succ]
      refine wpAnyH_take (i := 21) (v := undef) rfl (by kernel_rfl) (by kernel_rfl) (by kernel_rfl) (fun _ _ _ h => h) (Or.inr ⟨by rfl, rfl⟩) trivial ?_
      change wpAnyH _ _ _ _ _ _ _ (Act.put _ (some 52) _) _
      simp only [Act.put, List.setIfInBounds_toArray, List.set_cons_zero, List.set_cons_succ]
      refine wpAnyH_take (i := 22) (v := undef) rfl (by kernel_rfl) (by kernel_rfl) (by kernel_rfl) (fun _ _ _ h => h) (Or.inr ⟨by rfl, rfl⟩) trivial ?_
      change wpAnyH _ _ _ _ _ _ _ (Act.put _ (some 53) _) _
      simp only [Act.put, List.setIfInBounds_toArray, List.set_cons_zero, List.set_cons_succ]
      refine wpAnyH_take (i := 23) (v := ?_) rfl (by kernel_rfl) (by kernel_rfl) (by kernel_rfl) (fun _ _ _ h => h) (Or.inl ⟨by rfl, ?_⟩) trivial ?_
      rotate_left
      · (intro w' _; go_simp; first | done | with_reducible rfl)
      change wpAnyH _ _ _ _ _ _ _ (Act.put _ (some 54) _) _
      simp only [Act.put, List.setIfInBounds_toArray, List.set_cons_zero, List.set_cons_succ]
      refine wpAnyH_take (i := 24) (v := ?_) rfl (by kernel_rfl) (by kernel_rfl) (by kernel_rfl) (fun _ _ _ h => h) (Or.inl ⟨by rfl, ?_⟩) trivial ?_
      rotate_left
      · (intro w' _; go_simp; first | done | with_reducible rfl)
      change wpAnyH _ _ _ _ _ _ _ (Act.put _ (some 55) _) _
      simp only [Act.put, List.setIfInBounds_toArray, List.set_cons_zero, List.set_cons_succ]
      refine wpAnyH_take (i := 25) (v := ?_) rfl (by kernel_rfl) (by kernel_rfl) (by kernel_rfl) (fun _ _ _ h => h) (Or.inl ⟨by rfl, ?_⟩) trivial ?_
      rotate_left
      · (intro w' _; go_simp; first | done | with_reducible rfl)
      change wpAnyH _ _ _ _ _ _ _ (Act.put _ (some 8) _) _
      simp only [Act.put, List.setIfInBounds_toArray, List.set_cons_zero, List.set_cons_succ]
      refine wpAnyH_done (by kernel_rfl) ?_ _
      go_wp2
      go_ret
      exact ⟨rfl, c04.trans c8⟩
  · obtain ⟨v0, vr, hvc⟩ := List.exists_cons_of_ne_nil hv0
    subst hvc
    rcases hf with ⟨hf1, hf2⟩ | ⟨g, cap, cur, hf1, hf2, hf3, hf4, hf5, hf6, hf7⟩
    · omega
    · injection hf1 with hf1 _ hfc
      subst hf1
      subst hfc
      have p0 : w4.cell? ⟨g, 0, none⟩ = some (encStr v0) := by
        have := s4.1.cells (g := g) rfl 0 (encStr v0) (by rw [← HX.out]; rfl)
        rwa [add_off] at this
      have HD : Hid (Uv.hd (vals (kept es) k) = v0) := by show _ = _; rw [HVS.out]; rfl
      have hvv : (v0 == v0) = true := by simp
      have hN : 0 < (v0 :: vr).length := by simp
      generalize v0 :: vr = vs at *
      have hz0 : ((vs.length : Int) == 0) = false := by rw [beq_eq_false_iff_ne]; omega
      clear hf2 hf3 hf4 hf5 hf6 hf7 s4
      go_wp2
      go_region_held3 (fun w' => w'.cell? ⟨g, 0, none⟩ = some (encStr v0))
        (first | go_keep | exact c5.cell p0 (fun x => x) | exact c7.cell p0 (fun x => x) | exact c8.cell p0 (fun x => x) | exact c9.cell p0 (fun x => x))
        (first | (refine step_appW _ elStr rfl _ _ _ rfl h1.1 rfl r1 rfl (by simp [maxLen]; omega) (by simp; omega) ?_; rw [List.length_nil, Nat.zero_add]; intro a5 k5 w5 hs5 hg5 hl5; obtain ⟨hO5, c5, hB⟩ := first_app (vs := vs) h1 d4 hs5 rfl (by simp) hl5 hg5; clear hs5 hg5 hl5 hB h1 h2 h3) | (refine step_appW _ elStr rfl _ _ _ rfl h2.1 rfl r2 rfl (by simp [maxLen]; omega) (by simp; omega) ?_; rw [List.length_nil, Nat.zero_add]; intro a5 k5 w5 hs5 hg5 hl5; obtain ⟨hO5, c5, hB⟩ := first_app (vs := vs) h2 d42 hs5 rfl (by simp) hl5 hg5; have hbB := hB _ _ (by omega) HB2.out; clear hs5 hg5 hl5 hB h1 h2 h3) | (refine step_appW _ elStr rfl _ _ _ rfl h3.1 rfl r3 rfl (by simp [maxLen]; omega) (by simp; omega) ?_; rw [List.length_nil, Nat.zero_add]; intro a5 k5 w5 hs5 hg5 hl5; obtain ⟨hO5, c5, hB⟩ := first_app (vs := vs) h3 d43 hs5 rfl (by simp) hl5 hg5; have hbB := hB _ _ (by omega) HB3.out; clear hs5 hg5 hl5 hB h1 h2 h3) | (refine step_appW _ elStr rfl _ _ _ rfl (ownsRow_chg hO5.1 ((Chg.refl None w5).alloc _) (fun _ _ x => x)) rfl (Src.ofSlice _ elStr.ht ⟨w5.heap.size, 0, none⟩ 1 1 [encStr x] rfl (World.news_of_block (cs := #[encStr x]) (t := 9) (fr := (0, 0)) (heap_alloc_new w5 _)) (by simp [Value.oneCell', encStr])) rfl (by unfold maxLen; omega) (by omega) ?_; intro a7 k7 w7 hs7 hg7 hl7; obtain ⟨hO7, c7⟩ := second_app HX.out hO5 c5 ((Chg.refl None w5).alloc _) hs7 rfl rfl hl7 hg7; clear hs7 hg7 hl7 hO5) | (refine step_appW _ elStr rfl _ _ _ rfl hO5.1 rfl (Src.ofSlice _ elStr.ht ⟨_, 0, none⟩ 1 1 [encStr x] rfl (World.news_of_block (cs := #[encStr x]) (t := 9) (fr := (0, 0)) hbB) (by simp [Value.oneCell', encStr])) rfl (by unfold maxLen; omega) (by omega) ?_; intro a7 k7 w7 hs7 hg7 hl7; obtain ⟨hO7, c7⟩ := second_app HX.out hO5 c5 (Chg.refl None w5) hs7 rfl rfl hl7 hg7; clear hs7 hg7 hl7 hO5 hbB) | (go_at_call 19; refine (same_ok _ _ _ _ X X _ (s44.new c7) hO7).mono ?_; rw [decide_eq_true rfl]; rintro e w8 ⟨rfl, c8'⟩; have c8 := c7.trans c8'; clear c8') | (go_at_call 22; refine (implGet_ok _ _ es k _ (o4.new c8) hvo hkm).mono ?_; rw [HD.out]; rintro e w9 ⟨rfl, c9'⟩; have c9 := c8.trans c9'; clear c9'))
      all_goals (go_wp2; go_ret; exact ⟨rfl, c04.trans c9⟩)
end Go.Proofs.YtbnefebheecccaaDoor.fnAddLast
