/-
  laws.held and laws.encoded: what there is behind steps.
-/
import Derived.Test.YtcbenidcaaegnaaDoorPlay
import Derived.Deep.QuietTactic
import Derived.BigQuiet
import Derived.IntWalk
namespace Go.Proofs.YtcbenidcaaegnaaDoor
open Go.RowKit
open Uv (Bytes Ent KV vals has kept bulk bulkT enc Ans St plM plA)

theorem steps_app {B : Nat} {w W w2 : World} {u v' : Value} {l k : List St} {n : Nat} {xs : List Value} (h : OSteps (fun g => B ≤ g) w u l) (hc : Chg None w W) (hB : B ≤ W.heap.size) (hs : w2.ownsRow 0 61 3 v' n xs) (hn : n = (l ++ k).length) (hx : xs = stFlat (l ++ k))
    (hl : v'.ownBlock = u.ownBlock ∨ v'.ownBlock = some W.heap.size) (hg : W.grownBy w2 u.ownBlock) : OSteps (fun g => B ≤ g) w2 v' (l ++ k) ∧ Chg (fun g => B ≤ g) w w2 := by
  subst hn
  subst hx
  refine ⟨⟨hs, fun g hg => ?_⟩, hc.any.trans ((Chg.ofGrown hg).mono (fun k _ hk => h.2 k hk.symm))⟩
  rcases hl with e | e
  · exact h.2 g (e ▸ hg)
  · rw [e] at hg
    injection hg with hg
    omega

set_option maxRecDepth 100000 in
set_option maxHeartbeats 1000000 in
theorem held_fits (F G : Nat → Prop) (v : Value) (es : KV) (tv : Value) (ss : List St) (key : Bytes) (w : World) (hv : REnts F w v es) (ht : RSteps G w tv ss) (hT : Tab w) (hN : Uv.Fits es (ss ++ [Uv.ask key])) :
    Calls Tryd.prog 9 #[v, tv, encStr key] w (TextsPost (vals (plM (kept es) ss) key) (has (plM (kept es) ss) key) w) := by
  have hln : ss.length + 1 ≤ 2097152 := by simpa using hN.2.1
  have HBT := Lib.hid hN
  clear hN
  have HA : Hid (plA (kept es) (ss ++ [Uv.ask key]) = plA (kept es) ss ++ [([], has (plM (kept es) ss) key, vals (plM (kept es) ss) key)]) := by show _ = _; rw [Uv.plA_snoc, Uv.stA_ask]
  have hAl : (plA (kept es) ss).length = ss.length := Uv.length_plA _ _
  have HAL := Lib.hid hAl
  have hsrc := (ht.new ((Chg.refl None w).alloc (.cells #[] 61))).src
  obtain ⟨ta, tc, hts, -⟩ := id ht
  subst hts
  have hlit : OSteps (fun g => w.heap.size ≤ g) (w.alloc (.cells #[] 61)) (.slice (some ⟨w.heap.size, 0, none⟩) 0 0) [] := ⟨World.ownsRow_lit w #[] 0 (Nat.zero_le _) (by simp [maxLen]) rfl, fun g hg => Nat.le_of_eq (own_new hg).symm⟩
  clear hAl
  have tok : True := trivial
  go_enter Tryd.func9, Tryd.ntmps9
  go_wp2_with (first | (at_builtin; have _t := tok; refine wpList_app _ elStep rfl _ _ _ rfl hlit.1 rfl hsrc rfl (by simp [maxLen]; omega) (by simp; omega) ?_; rw [List.length_nil, Nat.zero_add]; intro a2 c2 w2 hs2 hg2 hl2; obtain ⟨hO2, hc2⟩ := steps_app (k := ss) hlit (Chg.refl _ _) (by simp) hs2 (by simp) (by simp [stFlat]) hl2 hg2; clear tok hs2 hg2 hl2; rw [List.nil_append] at hO2; have hcw2 : Chg None w w2 := ((Chg.refl None w).alloc _).then hc2 (fun i hi e => by omega)) | (at_builtin; refine wpList_app _ elStep rfl _ _ _ rfl (ownsRow_chg hO2.1 ((Chg.refl None w2).alloc _) (fun _ _ x => x)) rfl (Src.ofSlice _ elStep.ht ⟨w2.heap.size, 0, none⟩ 1 1 [.int .i64 6, encStr key, encStr []] rfl (World.news_of_block (cs := #[.int .i64 6, encStr key, encStr []]) (t := 61) (fr := (0, 0)) (heap_alloc_new w2 _)) (by simp [Value.oneCell'])) rfl (by unfold maxLen; omega) (by omega) ?_; intro a3 c3 w3 hs3 hg3 hl3; obtain ⟨hO3, hc3⟩ := steps_app (k := [Uv.ask key]) hO2 ((Chg.refl None w2).alloc _) (by have := hcw2.size; simp; omega) hs3 (by simp) (by rw [stFlat_append]; rfl) hl3 hg3; clear hs3 hg3 hl3; have hcw3 : Chg None w w3 := hcw2.then hc3 (fun i hi e => by omega)))
  refine (implPlay_fits _ _ v es _ (ss ++ [Uv.ask key]) _ (hv.new hcw3) (by simpa using hO3.read) (hT.new hcw3) HBT.out).mono ?_
  rw [HA.out]
  rintro e w4 ⟨a4, c4, rfl, hA4, hc4⟩
  have hln4 : (plA (kept es) ss ++ [(([] : Bytes), has (plM (kept es) ss) key, vals (plM (kept es) ss) key)]).length = ss.length + 1 := by rw [List.length_append, HAL.out]; rfl
  obtain ⟨g, cap, sv, hsh, hcp, hcm, hF, q0, q1, q2, hsv⟩ := hA4.at' (i := ss.length) (by omega)
  have hel : (plA (kept es) ss ++ [(([] : Bytes), has (plM (kept es) ss) key, vals (plM (kept es) ss) key)])[ss.length] = ([], has (plM (kept es) ss) key, vals (plM (kept es) ss) key) := by
    rw [List.getElem_append_right (by rw [HAL.out]; exact Nat.le_refl _)]
    simp [HAL.out]
  rw [hel] at q1 hsv
  simp only [Value.slice.injEq] at hsh
  obtain ⟨rfl, _, rfl⟩ := hsh
  rw [hln4] at hcp ⊢
  unfold maxLen at hcm
  have hcw4 := hcw3.trans hc4
  obtain ⟨sa, sc, hss⟩ := ownsRow_shape hsv.1
  simp only at q1 hss
  subst hss
  have hfin : OStrs (fun g => w.heap.size ≤ g) w4 (.slice sa (vals (plM (kept es) ss) key).length sc) (vals (plM (kept es) ss) key) := hsv.mono (fun g _ h => Nat.le_trans hcw3.size h)
  clear hel hln4 q0 HA HAL HBT hA4 hO2 hO3 hsv
  generalize vals (plM (kept es) ss) key = vs at *
  generalize has (plM (kept es) ss) key = hb at *
  have d1 : (((ss.length + 1 : Nat) : Int) != (ss.length : Int) + 1) = false := by simp
  have d2 : ((ss.length : Int) + 1 != (ss.length : Int) + 1) = false := by simp
  have u1 : IntKind.i64.wrap ((ss.length : Int) + 1 - 1) = (ss.length : Int) := by rw [Int.add_sub_cancel]; exact IntWalk.i64_in _ (by omega)
  go_wp2
  go_quiet (fail)
  go_wp2
  go_ret2
  exact ⟨sa, sc, rfl, hfin.kept ((Chg.refl None w4).drewN _) (fun _ _ x => x), hcw4.drewN _⟩
theorem held_ok (F G : Nat → Prop) (v : Value) (es : KV) (tv : Value) (ss : List St) (key : Bytes) (w : World) (hv : REnts F w v es) (ht : RSteps G w tv ss) (hT : Tab w) (hN : bulk es + bulkT ss + key.length + 2 ≤ 4194304) :
    Calls Tryd.prog 9 #[v, tv, encStr key] w (TextsPost (vals (plM (kept es) ss) key) (has (plM (kept es) ss) key) w) :=
  held_fits F G v es tv ss key w hv ht hT (Uv.fits_of_bulk (by rw [Uv.bulkT_append]; simp only [bulkT, Uv.ask, List.length_nil]; omega))

end Go.Proofs.YtcbenidcaaegnaaDoor
