/-
  FnAddTwice's walk: where keys, values and texts are of bulk at most 1048576 the law returns true, and writes nothing that was there.
-/
import Derived.Test.YtbnefebheecccaaDoorOpen
import Derived.Test.YtbnefebheecccaaDoorEntries
import Derived.Test.YtbnefebheecccaaDoorLit
namespace Go.Proofs.YtbnefebheecccaaDoor.fnAddTwice
open Go.RowKit
open Uv (Bytes Ent KV St vals has add bulk bulkS bulkT kept plM enc)

theorem has_first (m : KV) (k x j y : Bytes) : has (plM m [((0 : Int), k, x), ((0 : Int), j, y)]) k = true := by simp [plM, Uv.stM, Uv.has_add]
theorem has_second (m : KV) (k x j y : Bytes) : has (plM m [((0 : Int), j, y), ((0 : Int), k, x)]) k = true := by simp [plM, Uv.stM, Uv.has_add]
theorem vals_both (m : KV) (k x y : Bytes) : vals (plM m [((0 : Int), k, x), ((0 : Int), k, y)]) k = vals m k ++ [x, y] := by simp [plM, Uv.stM, Uv.vals_add]
theorem vals_swap (m : KV) (k x j y : Bytes) (h : ¬ k = j) (q : Bytes) : vals (plM m [((0 : Int), k, x), ((0 : Int), j, y)]) q = vals (plM m [((0 : Int), j, y), ((0 : Int), k, x)]) q := by
  simp only [plM, Uv.stM, List.foldl_cons, List.foldl_nil, if_true, Uv.vals_add]
  by_cases h1 : q = k
  · subst h1
    simp [h]
  · simp [h1]

set_option maxRecDepth 100000 in
set_option maxHeartbeats 1000000 in
theorem walk (kv : Value) (ks : List Bytes) (vv : Value) (vss : List (List Bytes)) (k x m y : Bytes) (w : World) (hk : RStrs All w kv ks) (hv : RTextss All w vv vss)
    (hb : bulkS ks + bulkSS vss + k.length + x.length + m.length + y.length ≤ 1048576) (hT : Tab w) :
    Calls Tryd.prog 5 #[kv, vv, encStr k, encStr x, encStr m, encStr y] w (Ret (.bool true) w) := by
  have hz := Uv.bulk_zip ks bulkSS (fun _ _ => rfl) vss
  obtain ⟨es, hes⟩ : ∃ es, ks.zip vss = es := ⟨_, rfl⟩
  have hN0 : bulk (ks.zip vss) ≤ 4194304 := by omega
  rw [hes] at hz
  have HE := Lib.hid hes
  clear hes
  have hbA : bulkT [((0 : Int), k, x), ((0 : Int), m, y)] ≤ 3000000 := by simp only [bulkT]; omega
  have hbB : bulkT [((0 : Int), m, y), ((0 : Int), k, x)] ≤ 3000000 := by simp only [bulkT]; omega
  have HHA := Lib.hid (has_first (kept es) k x m y)
  have HHB := Lib.hid (has_second (kept es) k x m y)
  have HSW := Lib.hid (vals_swap (kept es) k x m y)
  have HBX := Lib.hid (vals_both (kept es) k x y)
  have HBY := Lib.hid (vals_both (kept es) k y x)
  have hvl := Uv.length_vals (kept es) k
  have hbk := Uv.bulk_kept es
  go_enter Tryd.func5, Tryd.ntmps5
  go_wp2_with fail
  refine (entries_ok All _ _ ks vss _ hk hv hN0).mono ?_
  rw [HE.out]
  rintro e w1 ⟨a1, k1, rfl, o1, c1⟩
  have hA := steps_lit w1 [((0 : Int), k, x), ((0 : Int), m, y)] (by simp)
  have hB := steps_lit (w1.alloc (.cells (stFlat [((0 : Int), k, x), ((0 : Int), m, y)]).toArray 35)) [((0 : Int), m, y), ((0 : Int), k, x)] (by simp)
  have hA2 := hA.new ((Chg.refl None _).alloc (.cells (stFlat [((0 : Int), m, y), ((0 : Int), k, x)]).toArray 35))
  have hcA : Chg None w1 ((w1.alloc (.cells (stFlat [((0 : Int), k, x), ((0 : Int), m, y)]).toArray 35)).alloc (.cells (stFlat [((0 : Int), m, y), ((0 : Int), k, x)]).toArray 35)) := ((Chg.refl None w1).alloc _).alloc _
  have hz1 : (w1.alloc (.cells (stFlat [((0 : Int), k, x), ((0 : Int), m, y)]).toArray 35)).heap.size = w1.heap.size + 1 := by simp
  rw [hz1] at hB
  clear hA hz1
  have o2 := o1.read.new hcA
  have c2 := c1.trans hcA
  go_wp2_with fail
  refine (held_ok _ _ _ es _ [((0 : Int), k, x), ((0 : Int), m, y)] k _ o2 hA2 (hT.new c2) (by omega)).mono ?_
  rw [HHA.out]
  rintro e w3 ⟨a3, k3, rfl, s3, c3⟩
  go_wp2_with fail
  refine (held_ok _ _ _ es _ [((0 : Int), m, y), ((0 : Int), k, x)] k _ (o2.new c3) (hB.new c3) ((hT.new c2).new c3) (by omega)).mono ?_
  rw [HHB.out]
  rintro e w4 ⟨a4, k4, rfl, s4, c4⟩
  have c14 := (c2.trans c3).trans c4
  have o4 := (o2.new c3).new c4
  have hA4 := (hA2.new c3).new c4
  have hB4 := (hB.new c3).new c4
  have s34 := s3.read.new c4
  have s44 := s4.read
  clear s3 s4 o2 hA2 hB o1 hcA HHA HHB
  by_cases hkm : k = m
  · have hne : (k == m) = true := by simp [hkm]
    subst hkm
    obtain ⟨X, hX⟩ : ∃ X, vals (kept es) k ++ [x, y] = X := ⟨_, rfl⟩
    obtain ⟨Y, hY⟩ : ∃ Y, vals (kept es) k ++ [y, x] = Y := ⟨_, rfl⟩
    rw [HBX.out, hX] at s34
    rw [HBY.out, hY] at s44
    have HX := Lib.hid hX
    have HY := Lib.hid hY
    rw [HBX.out, hX, HBY.out, hY]
    clear hX hY HBX HBY HSW hA4 hB4
    go_wp2_with fail
    refine (held_ok _ _ _ es _ [] k _ o4 (steps_nil _) (hT.new c14) (by simp only [bulkT]; omega)).mono ?_
    rw [show plM (kept es) [] = kept es from rfl]
    rintro e w5 ⟨a5, k5, rfl, s5, c5⟩
    have s35 := s34.new c5
    have s45 := s44.new c5
    have s55 := s5.read
    have c15 := c14.trans c5
    clear s5 s34 s44
    generalize vals (kept es) k = vs at *
    have hlit := texts_made w5
    have hsrc := (s55.new ((Chg.refl None w5).alloc (.cells #[] 9))).src
    have tok : True := trivial
    go_wp2_with (first | (at_builtin; have _t := tok; refine wpList_app _ elStr rfl _ _ _ rfl hlit.1 rfl hsrc rfl (by simp [maxLen]; omega) (by simp; omega) ?_; rw [List.length_nil, Nat.zero_add]; intro a6 k6 w6 hs6 hg6 hl6; obtain ⟨hO6, hc6⟩ := strs_app (k := vs) hlit (Chg.refl _ _) (by simp) hs6 (by simp) (by simp) hl6 hg6; clear tok hs6 hg6 hl6; rw [List.nil_append] at hO6; have hcw6 : Chg None w5 w6 := ((Chg.refl None w5).alloc _).then hc6 (fun i hi e => by omega)) | (at_builtin; refine wpList_app _ elStr rfl _ _ _ rfl (ownsRow_chg hO6.1 ((Chg.refl None w6).alloc _) (fun _ _ x => x)) rfl (Src.ofSlice _ elStr.ht ⟨w6.heap.size, 0, none⟩ 2 2 [encStr x, encStr y] rfl (World.news_of_block (cs := #[encStr x, encStr y]) (t := 9) (fr := (0, 0)) (heap_alloc_new w6 _)) (by simp [Value.oneCell', encStr])) rfl (by unfold maxLen; omega) (by omega) ?_; intro a7 k7 w7 hs7 hg7 hl7; obtain ⟨hO7, hc7⟩ := strs_app (k := [x, y]) hO6 ((Chg.refl None w6).alloc _) (by have := hcw6.size; simp; omega) hs7 (by simp) (by simp) hl7 hg7; clear hs7 hg7 hl7; have hcw7 : Chg None w5 w7 := hcw6.then hc7 (fun i hi e => by omega)))
    rw [HX.out] at hO7
    have s37 := s35.new hcw7
    have s47 := s45.new hcw7
    have s57 := s55.new hcw7
    have s77 := hO7.read
    have c17 := c15.trans hcw7
    clear hO7 hO6 hc6 hc7 hcw6 hcw7 hlit hsrc s35 s45 s55
    refine (same_ok _ _ _ _ X X _ s37 s77).mono ?_
    rintro e w8 ⟨rfl, c8⟩
    rw [decide_eq_true rfl]
    have s48 := s47.new c8
    have s58 := s57.new c8
    have c18 := c17.trans c8
    clear s37 s77 s47 s57
    have hlit := texts_made w8
    have hsrc := (s58.new ((Chg.refl None w8).alloc (.cells #[] 9))).src
    have tok : True := trivial
    go_wp2_with (first | (at_builtin; have _t := tok; refine wpList_appW _ elStr rfl _ _ _ rfl hlit.1 rfl hsrc rfl (by simp [maxLen]; omega) (by simp; omega) ?_; rw [List.length_nil, Nat.zero_add]; intro a6 k6 w6 hs6 hg6 hl6; obtain ⟨hO6, hc6⟩ := strs_app (k := vs) hlit (Chg.refl _ _) (by simp) hs6 (by simp) (by simp) hl6 hg6; clear tok hs6 hg6 hl6; rw [List.nil_append] at hO6; have hcw6 : Chg None w8 w6 := ((Chg.refl None w8).alloc _).then hc6 (fun i hi e => by omega)) | (at_builtin; refine wpList_appW _ elStr rfl _ _ _ rfl (ownsRow_chg hO6.1 ((Chg.refl None w6).alloc _) (fun _ _ x => x)) rfl (Src.ofSlice _ elStr.ht ⟨w6.heap.size, 0, none⟩ 2 2 [encStr y, encStr x] rfl (World.news_of_block (cs := #[encStr y, encStr x]) (t := 9) (fr := (0, 0)) (heap_alloc_new w6 _)) (by simp [Value.oneCell', encStr])) rfl (by unfold maxLen; omega) (by omega) ?_; intro a9 k9 w9 hs9 hg9 hl9; obtain ⟨hO9, hc9⟩ := strs_app (k := [y, x]) hO6 ((Chg.refl None w6).alloc _) (by have := hcw6.size; simp; omega) hs9 (by simp) (by simp) hl9 hg9; clear hs9 hg9 hl9; have hcw9 : Chg None w8 w9 := hcw6.then hc9 (fun i hi e => by omega)))
    rw [HY.out] at hO9
    have s99 := hO9.read
    have s49 := s48.new hcw9
    refine (same_ok _ _ _ _ Y Y _ s49 s99).mono ?_
    rintro e w10 ⟨rfl, c10⟩
    rw [decide_eq_true rfl]
    clear hO9 hO6 hc6 hc9 hcw6 hlit hsrc
    go_wp2
    go_ret
    exact ⟨rfl, (c18.trans hcw9).trans c10⟩
  · have hne : (k == m) = false := by simp [hkm]
    have HEN := Lib.hid (Uv.enc_vals ((Uv.uniq_kept es).plM [((0 : Int), k, x), ((0 : Int), m, y)]) ((Uv.uniq_kept es).plM [((0 : Int), m, y), ((0 : Int), k, x)]) (HSW.out hkm))
    have hq := HSW.out hkm k
    rw [← hq] at s44 ⊢
    clear hkm HSW HBX HBY hq
    generalize vals (plM (kept es) [((0 : Int), k, x), ((0 : Int), m, y)]) k = X at *
    go_wp2_with fail
    refine (same_ok _ _ _ _ X X _ s34 s44).mono ?_
    rintro e w5 ⟨rfl, c5⟩
    rw [decide_eq_true rfl]
    have c15 := c14.trans c5
    go_wp2_with fail
    refine (encoded_ok _ _ _ es _ [((0 : Int), k, x), ((0 : Int), m, y)] _ (o4.new c5) (hA4.new c5) (hT.new c15) (by omega)).mono ?_
    rw [HEN.out]
    rintro e w6 ⟨rfl, c6⟩
    go_wp2_with fail
    refine (encoded_ok _ _ _ es _ [((0 : Int), m, y), ((0 : Int), k, x)] _ ((o4.new c5).new c6) ((hB4.new c5).new c6) ((hT.new c15).new c6) (by omega)).mono ?_
    rintro e w7 ⟨rfl, c7⟩
    clear HEN
    generalize enc (plM (kept es) [((0 : Int), m, y), ((0 : Int), k, x)]) = t at *
    have hte : (t == t) = true := by simp
    go_wp2
    go_ret
    exact ⟨rfl, (c15.trans c6).trans c7⟩
end Go.Proofs.YtbnefebheecccaaDoor.fnAddTwice
