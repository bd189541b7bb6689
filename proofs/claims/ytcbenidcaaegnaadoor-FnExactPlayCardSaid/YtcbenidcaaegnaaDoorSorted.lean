/-
  The reference's Sorted and encode; spec.Encode.
-/
import Derived.Test.YtcbenidcaaegnaaDoorXEnts
import Derived.Test.YtcbenidcaaegnaaDoorSortPure
import Derived.Test.YtcbenidcaaegnaaDoorSpecEsc
import Derived.Test.YtcbenidcaaegnaaDoorKept
import Derived.Deep.QuietTactic
import Derived.BigQuiet
namespace Go.Proofs.YtcbenidcaaegnaaDoor
open Go.RowKit
open Uv (Bytes Ent KV keys Uniq bulk bulkS kept SortedK insAt epts joinA enc esc)

/-- entries sorted by key, in a new row -/
def SortPost (F : Nat → Prop) (m : KV) (w : World) (e : Ending) (w' : World) : Prop :=
  ∃ a cap out, e = .returned (.slice a out.length cap) ∧ out.Perm m ∧ SortedK out ∧ XEnts F w.heap.size w' (.slice a out.length cap) out ∧ Chg None w w'

theorem own_ge {W W1 : World} {v' : Value} (hW : W1.heap.size = W.heap.size + 1) (h : v'.ownBlock = (Value.slice (some ⟨W.heap.size, 0, none⟩) 0 0).ownBlock ∨ ∀ x, v'.ownBlock = some x → W1.heap.size ≤ x) : ∀ x, v'.ownBlock = some x → W.heap.size ≤ x := by
  intro x hx
  rcases h with e | e
  · rw [e] at hx
    exact Nat.le_of_eq (own_new hx).symm
  · have := e x hx
    omega

set_option maxRecDepth 100000 in
set_option maxHeartbeats 2000000 in
theorem specSorted_ok (F : Nat → Prop) (v : Value) (m : KV) (w : World) (hv : REnts F w v m) (hN : bulk m ≤ 4194304) : Calls Tryd.prog 60 #[v] w (SortPost F m w) := by
  have hln := Uv.length_le_bulk m
  obtain ⟨a, ca, rfl, ha1, ha2, ha3⟩ := hv
  unfold maxLen at ha2
  have HA := Lib.hid ha3
  clear ha3
  go_enter Tryd.func60, Tryd.ntmps60
  go_wp2
  go_loopw [3, 4] (fun o iv wr => ∃ (i : Nat) (out : KV), i ≤ m.length ∧ iv = .int .i64 i ∧ out.Perm (m.take i) ∧ SortedK out ∧ XEnts F w.heap.size wr o out ∧ o.ownBlock ≠ none ∧ Chg None w wr) (fun _ iv _ => m.length - (intOf iv).toNat)
  case atStart => exact ⟨0, [], Nat.zero_le _, rfl, by simp, List.Pairwise.nil, XEnts.made F _ w (Nat.le_refl _), by simp [Value.ownBlock], (Chg.refl _ _).alloc _⟩
  case round =>
    obtain ⟨wo, rfl⟩ : ∃ wo : World, wo = wr := ⟨_, rfl⟩
    obtain ⟨i, out, hi, rfl, hp, hsk, hX, hnn, hch⟩ := hrel
    have HP := Lib.hid hp
    have HSK := Lib.hid hsk
    have hol : out.length = i := by rw [hp.length_eq]; simp; omega
    have HOL := Lib.hid hol
    have hole : out.length ≤ 4194304 := by omega
    obtain ⟨ao, co, hso⟩ := hX.shape
    subst hso
    obtain ⟨g, rfl⟩ : ∃ g, ao = some ⟨g, 0, none⟩ := by
      obtain ⟨xs, svs, _, hown, _⟩ := hX
      rcases hown.2 with ⟨e, _⟩ | ⟨g, cap, cur, e, _⟩
      · rw [e] at hnn
        simp [Value.ownBlock] at hnn
      · injection e with e
        exact ⟨g, e⟩
    have hR := hX.read
    obtain ⟨a', co', hsh, hbc, hbd, hbe⟩ := id hR
    simp only [Value.slice.injEq] at hsh
    obtain ⟨rfl, _, rfl⟩ := hsh
    unfold maxLen at hbd
    have HB := Lib.hid hbe
    have hgl := hX.lt g rfl
    clear hbe hp hsk hol hnn
    by_cases hlt : i < m.length
    · obtain ⟨b, off, sv, rfl, hFb, p1, p2, hr⟩ := HA.out i m[i] (by simp [hlt])
      have hbl : b < w.heap.size := World.block_lt_of_cell? w _ p1
      have hr : RStrs (fun x => F x ∧ x < w.heap.size) wo sv m[i].2 := (hr.mono (fun x hx h => ⟨h, hx⟩)).new hch
      have p1o := hch.cell p1 (fun x => x)
      have p2o := hch.cell p2 (fun x => x)
      clear p1 p2
      obtain ⟨a2, cap2, hsv, -⟩ := id hr
      subst hsv
      go_wp2
      go_loopw [5] (fun jv wi => ∃ j : Nat, j ≤ out.length ∧ jv = .int .i64 j ∧ (∀ (x : Nat) (hx : x < out.length), x < j → out[x].1 < m[i].1) ∧ Chg None wo wi) (fun jv _ => out.length - (intOf jv).toNat)
      case atStart => exact ⟨0, Nat.zero_le _, rfl, fun x hx h => by omega, Chg.refl _ _⟩
      case round =>
        obtain ⟨j, hj, rfl, hlow, hci⟩ := hrel
        have HLOW := Lib.hid hlow
        clear hlow
        have p1 := hci.cell p1o (fun x => x)
        have p2 := hci.cell p2o (fun x => x)
        by_cases hlj : j < out.length
        · obtain ⟨b2, off2, sv2, hb2', _, q1, _⟩ := HB.out j out[j] (by simp [hlj])
          injection hb2' with hb2'
          injection hb2' with hb2' hof2
          subst hb2'
          subst hof2
          rw [Nat.zero_add] at q1
          have q1 := hci.cell q1 (fun x => x)
          have d1 : decide ((j : Int) < (out.length : Int)) = true := by simp; omega
          by_cases hless : out[j].1 < m[i].1
          · have hb1 := less_yes hless
            have hb2 : Op.bytesLess out[j].1 m[i].1 = true := by rw [less_eq]; simpa using hless
            have HL := Lib.hid hless
            clear hless
            go_wp2
            go_quiet (fail)
            go_wp2
            go_roundw
            case rel => exact ⟨j + 1, by omega, by go_num, fun x hx hxj => by
              by_cases hxe : x < j
              · exact HLOW.out x hx hxe
              · obtain rfl : x = j := by omega
                exact HL.out, hci.drewN _⟩
            case measure => simp [intOf]; omega
          · have hb1 := less_no hless
            have hb2 : Op.bytesLess out[j].1 m[i].1 = false := by rw [less_eq]; simpa using hless
            have HST : Hid (∀ h : j < out.length, ¬ out[j].1 < m[i].1) := Lib.hid (fun _ => hless)
            clear hless
            go_wp2
            go_quiet (fail)
            rename_i nq
            have hcW : Chg None wo (wr.drewN nq) := hci.drewN nq
            have hXW := (hX.new hcW).new ((Chg.refl None _).alloc (.cells #[] 28))
            have hBW : w.heap.size ≤ (wr.drewN nq).heap.size := Nat.le_trans hch.size hcW.size
            have hgW : g < (wr.drewN nq).heap.size := Nat.lt_of_lt_of_le hgl.2 hcW.size
            have hrW := hr.new hcW
            have p1 := hcW.cell p1o (fun x => x)
            have p2 := hcW.cell p2o (fun x => x)
            have hchW := hch.trans hcW
            obtain ⟨news1, sv1, hsl1, hsrc1, hsay1⟩ := hXW.srcTake j hj
            have HS1 := Lib.hid hsl1
            have HY1 := Lib.hid hsay1
            have htl : (out.take j).length = j := by rw [List.length_take]; omega
            have HTL := Lib.hid htl
            clear hsl1 hsay1 htl hci
            have hXW' := hX.new hcW
            generalize wr.drewN nq = W at *
            have hlit : (W.alloc (.cells #[] 28)).ownsRow 0 28 2 (.slice (some ⟨W.heap.size, 0, none⟩) 0 0) 0 [] := World.ownsRow_lit W #[] 0 (Nat.zero_le _) (by simp [maxLen]) rfl
            have tok1 : True := trivial
            have tok2 : True := trivial
            have hcj : ¬ co = j := by omega
            go_wp2_with (first | (at_builtin; have _t := tok1; refine wpList_app _ elEnt rfl _ _ _ rfl hlit rfl hsrc1 rfl (by unfold maxLen; omega) (by omega) ?_; rw [Nat.zero_add]; intro a5 c5 w5 hs5 hg5 hl5; obtain ⟨hX5, hc5, hn5⟩ := xents_app (F := F) (B := w.heap.size) (es := []) (ks := out.take j) (svs := []) (xs := []) rfl hlit (fun x hx => by rw [own_new hx]; exact hBW) (says_nil _ _) (by simp; omega) (Chg.refl _ _) hg5 hs5 (by rw [HTL.out]; simp) rfl hl5 HS1.out HY1.out; clear tok1 hs5 hg5 hl5 hsrc1 hlit; rw [List.nil_append] at hX5; have hcW5 : Chg None W w5 := ((Chg.refl None W).alloc _).then hc5 (fun x hx e => Nat.ne_of_lt hx (own_new e.symm)); have hn5' := own_ge (W := W) (by simp) hn5; obtain ⟨xs5, svs5, hsl5, hown5, hnew5, hsay5⟩ := hX5; rw [HTL.out] at hown5; have HS5 := Lib.hid hsl5; have HY5 := Lib.hid hsay5; clear hsl5 hsay5 hc5 hn5; have p1 := hcW5.cell p1 (fun x => x); have p2 := hcW5.cell p2 (fun x => x)) | (at_builtin; have _t := tok2; refine wpList_app _ elEnt rfl _ _ _ rfl (ownsRow_chg hown5 ((Chg.refl None w5).alloc _) (fun _ _ x => x)) rfl (Src.ofSlice _ elEnt.ht ⟨w5.heap.size, 0, none⟩ 1 1 [encStr m[i].1, .slice a2 m[i].2.length cap2] rfl (World.news_of_block (cs := #[encStr m[i].1, .slice a2 m[i].2.length cap2]) (t := 28) (fr := (0, 0)) (heap_alloc_new w5 _)) (by simp [Value.oneCell'])) rfl (by unfold maxLen; omega) (by omega) ?_; intro a6 c6 w6 hs6 hg6 hl6; obtain ⟨hX6, hc6, hn6⟩ := xents_app (F := F) (B := w.heap.size) (es := out.take j) (ks := [m[i]]) (svs2 := [.slice a2 m[i].2.length cap2]) HS5.out (by rw [HTL.out]; exact hown5) hnew5 HY5.out (by have := hcW5.size; omega) ((Chg.refl None w5).alloc _) hg6 hs6 (by rw [HTL.out]; rfl) rfl hl6 rfl (says_one ((hrW.new hcW5).new ((Chg.refl None w5).alloc _))); clear tok2 hs6 hg6 hl6; have hcW6 : Chg None W w6 := hcW5.then hc6 (fun x hx e => absurd hx (Nat.not_lt.2 (hn5' x e.symm))); have hX3 := hXW'.new hcW6; obtain ⟨news3, sv3, hsl3, hsrc3, hsay3⟩ := hX3.srcDrop j hj hbc; have HS3 := Lib.hid hsl3; have HY3 := Lib.hid hsay3; clear hsl3 hsay3; simp only [hcj, if_false] at hsrc3; obtain ⟨xs6, svs6, hsl6, hown6, hnew6, hsay6⟩ := hX6; have htl6 : (out.take j ++ [m[i]]).length = j + 1 := (by rw [List.length_append, HTL.out]; rfl); rw [htl6] at hown6; have HS6 := Lib.hid hsl6; have HY6 := Lib.hid hsay6; have HTL6 := Lib.hid htl6; clear hsl6 hsay6 htl6) | (at_builtin; refine wpList_app _ elEnt rfl _ _ _ rfl hown6 rfl (hsrc3 _) rfl (by unfold maxLen; omega) (by omega) ?_; intro a7 c7 w7 hs7 hg7 hl7))
            obtain ⟨hX7, hc7, hn7⟩ := xents_app (F := F) (B := w.heap.size) (es := out.take j ++ [m[i]]) (ks := out.drop j) HS6.out (by rw [HTL6.out]; exact hown6) hnew6 HY6.out (by have := hcW6.size; omega) (Chg.refl _ _) hg7 hs7 (by rw [HTL6.out, List.length_drop]) rfl hl7 HS3.out HY3.out
            have hn6' : ∀ x, (Value.slice a6 (j + 1) c6).ownBlock = some x → W.heap.size ≤ x := fun x hx => by
              rcases hn6 with e | e
              · exact hn5' x (e ▸ hx)
              · have := e x hx
                have := hcW5.size
                omega
            have hcW7 : Chg None W w7 := hcW6.then hc7 (fun x hx e => absurd hx (Nat.not_lt.2 (hn6' x e.symm)))
            have hln7 : (insAt out m[i] j).length = out.length + 1 := Uv.length_ins out m[i] j
            have hX8 : XEnts F w.heap.size w7 (.slice a7 (j + 1 + (out.length - j)) c7) (insAt out m[i] j) := hX7
            have hnn7 : (Value.slice a7 (j + 1 + (out.length - j)) c7).ownBlock ≠ none := by
              obtain ⟨xs, svs, _, hown, _⟩ := hX8
              rcases hown.2 with ⟨_, e⟩ | ⟨x, cap, cur, e, _⟩
              · omega
              · rw [e]
                simp [Value.ownBlock]
            have HPM : Hid ((insAt out m[i] j).Perm (m.take (i + 1))) := Lib.hid ((Uv.perm_ins out m[i] j).trans (by rw [List.take_succ_eq_append_getElem hlt]; exact HP.out.append_right _))
            have HSM := Lib.hid (Uv.sorted_ins (e := m[i]) (j := j) HSK.out HLOW.out HST.out)
            clear hX7 hc7 hs7 hg7 hl7 hown6 hown5
            go_roundw
            case rel => exact ⟨i + 1, insAt out m[i] j, by omega, by go_num, HPM.out, HSM.out, hX8, hnn7, hchW.trans hcW7⟩
            case measure => simp [intOf]; omega
        · have d1 : decide ((j : Int) < (out.length : Int)) = false := by simp; omega
          have HST : Hid (∀ h : j < out.length, ¬ out[j].1 < m[i].1) := Lib.hid (fun h => absurd h hlj)
          by_cases hcj : co = j
          · obtain rfl : j = co := hcj.symm
            go_wp2
            go_quiet (fail)
            rename_i nq
            have hcW : Chg None wo (wr.drewN nq) := hci.drewN nq
            have hXW := (hX.new hcW).new ((Chg.refl None _).alloc (.cells #[] 28))
            have hBW : w.heap.size ≤ (wr.drewN nq).heap.size := Nat.le_trans hch.size hcW.size
            have hgW : g < (wr.drewN nq).heap.size := Nat.lt_of_lt_of_le hgl.2 hcW.size
            have hrW := hr.new hcW
            have p1 := hcW.cell p1o (fun x => x)
            have p2 := hcW.cell p2o (fun x => x)
            have hchW := hch.trans hcW
            obtain ⟨news1, sv1, hsl1, hsrc1, hsay1⟩ := hXW.srcTake j hj
            have HS1 := Lib.hid hsl1
            have HY1 := Lib.hid hsay1
            have htl : (out.take j).length = j := by rw [List.length_take]; omega
            have HTL := Lib.hid htl
            clear hsl1 hsay1 htl hci
            have hXW' := hX.new hcW
            generalize wr.drewN nq = W at *
            have hlit : (W.alloc (.cells #[] 28)).ownsRow 0 28 2 (.slice (some ⟨W.heap.size, 0, none⟩) 0 0) 0 [] := World.ownsRow_lit W #[] 0 (Nat.zero_le _) (by simp [maxLen]) rfl
            have tok1 : True := trivial
            have tok2 : True := trivial
            go_wp2_with (first | (at_builtin; have _t := tok1; refine wpList_app _ elEnt rfl _ _ _ rfl hlit rfl hsrc1 rfl (by unfold maxLen; omega) (by omega) ?_; rw [Nat.zero_add]; intro a5 c5 w5 hs5 hg5 hl5; obtain ⟨hX5, hc5, hn5⟩ := xents_app (F := F) (B := w.heap.size) (es := []) (ks := out.take j) (svs := []) (xs := []) rfl hlit (fun x hx => by rw [own_new hx]; exact hBW) (says_nil _ _) (by simp; omega) (Chg.refl _ _) hg5 hs5 (by rw [HTL.out]; simp) rfl hl5 HS1.out HY1.out; clear tok1 hs5 hg5 hl5 hsrc1 hlit; rw [List.nil_append] at hX5; have hcW5 : Chg None W w5 := ((Chg.refl None W).alloc _).then hc5 (fun x hx e => Nat.ne_of_lt hx (own_new e.symm)); have hn5' := own_ge (W := W) (by simp) hn5; obtain ⟨xs5, svs5, hsl5, hown5, hnew5, hsay5⟩ := hX5; rw [HTL.out] at hown5; have HS5 := Lib.hid hsl5; have HY5 := Lib.hid hsay5; clear hsl5 hsay5 hc5 hn5; have p1 := hcW5.cell p1 (fun x => x); have p2 := hcW5.cell p2 (fun x => x)) | (at_builtin; have _t := tok2; refine wpList_app _ elEnt rfl _ _ _ rfl (ownsRow_chg hown5 ((Chg.refl None w5).alloc _) (fun _ _ x => x)) rfl (Src.ofSlice _ elEnt.ht ⟨w5.heap.size, 0, none⟩ 1 1 [encStr m[i].1, .slice a2 m[i].2.length cap2] rfl (World.news_of_block (cs := #[encStr m[i].1, .slice a2 m[i].2.length cap2]) (t := 28) (fr := (0, 0)) (heap_alloc_new w5 _)) (by simp [Value.oneCell'])) rfl (by unfold maxLen; omega) (by omega) ?_; intro a6 c6 w6 hs6 hg6 hl6; obtain ⟨hX6, hc6, hn6⟩ := xents_app (F := F) (B := w.heap.size) (es := out.take j) (ks := [m[i]]) (svs2 := [.slice a2 m[i].2.length cap2]) HS5.out (by rw [HTL.out]; exact hown5) hnew5 HY5.out (by have := hcW5.size; omega) ((Chg.refl None w5).alloc _) hg6 hs6 (by rw [HTL.out]; rfl) rfl hl6 rfl (says_one ((hrW.new hcW5).new ((Chg.refl None w5).alloc _))); clear tok2 hs6 hg6 hl6; have hcW6 : Chg None W w6 := hcW5.then hc6 (fun x hx e => absurd hx (Nat.not_lt.2 (hn5' x e.symm))); have hX3 := hXW'.new hcW6; obtain ⟨news3, sv3, hsl3, hsrc3, hsay3⟩ := hX3.srcDrop j hj hbc; have HS3 := Lib.hid hsl3; have HY3 := Lib.hid hsay3; clear hsl3 hsay3; simp only [if_true, show out.length - j = 0 by omega] at hsrc3; obtain ⟨xs6, svs6, hsl6, hown6, hnew6, hsay6⟩ := hX6; have htl6 : (out.take j ++ [m[i]]).length = j + 1 := (by rw [List.length_append, HTL.out]; rfl); rw [htl6] at hown6; have HS6 := Lib.hid hsl6; have HY6 := Lib.hid hsay6; have HTL6 := Lib.hid htl6; clear hsl6 hsay6 htl6) | (at_builtin; refine wpList_app _ elEnt rfl _ _ _ rfl hown6 rfl (hsrc3 _) rfl (by unfold maxLen; omega) (by omega) ?_; intro a7 c7 w7 hs7 hg7 hl7))
            obtain ⟨hX7, hc7, hn7⟩ := xents_app (F := F) (B := w.heap.size) (es := out.take j ++ [m[i]]) (ks := out.drop j) HS6.out (by rw [HTL6.out]; exact hown6) hnew6 HY6.out (by have := hcW6.size; omega) (Chg.refl _ _) hg7 hs7 (by rw [HTL6.out, List.length_drop]; omega) rfl hl7 HS3.out HY3.out
            have hn6' : ∀ x, (Value.slice a6 (j + 1) c6).ownBlock = some x → W.heap.size ≤ x := fun x hx => by
              rcases hn6 with e | e
              · exact hn5' x (e ▸ hx)
              · have := e x hx
                have := hcW5.size
                omega
            have hcW7 : Chg None W w7 := hcW6.then hc7 (fun x hx e => absurd hx (Nat.not_lt.2 (hn6' x e.symm)))
            have hln7 : (insAt out m[i] j).length = out.length + 1 := Uv.length_ins out m[i] j
            have hX8 : XEnts F w.heap.size w7 (.slice a7 (j + 1 + 0) c7) (insAt out m[i] j) := hX7
            have hnn7 : (Value.slice a7 (j + 1 + 0) c7).ownBlock ≠ none := by
              obtain ⟨xs, svs, _, hown, _⟩ := hX8
              rcases hown.2 with ⟨_, e⟩ | ⟨x, cap, cur, e, _⟩
              · omega
              · rw [e]
                simp [Value.ownBlock]
            have HPM : Hid ((insAt out m[i] j).Perm (m.take (i + 1))) := Lib.hid ((Uv.perm_ins out m[i] j).trans (by rw [List.take_succ_eq_append_getElem hlt]; exact HP.out.append_right _))
            have HSM := Lib.hid (Uv.sorted_ins (e := m[i]) (j := j) HSK.out HLOW.out HST.out)
            clear hX7 hc7 hs7 hg7 hl7 hown6 hown5
            go_roundw
            case rel => exact ⟨i + 1, insAt out m[i] j, by omega, by go_num, HPM.out, HSM.out, hX8, hnn7, hchW.trans hcW7⟩
            case measure => simp [intOf]; omega
          · go_wp2
            go_quiet (fail)
            rename_i nq
            have hcW : Chg None wo (wr.drewN nq) := hci.drewN nq
            have hXW := (hX.new hcW).new ((Chg.refl None _).alloc (.cells #[] 28))
            have hBW : w.heap.size ≤ (wr.drewN nq).heap.size := Nat.le_trans hch.size hcW.size
            have hgW : g < (wr.drewN nq).heap.size := Nat.lt_of_lt_of_le hgl.2 hcW.size
            have hrW := hr.new hcW
            have p1 := hcW.cell p1o (fun x => x)
            have p2 := hcW.cell p2o (fun x => x)
            have hchW := hch.trans hcW
            obtain ⟨news1, sv1, hsl1, hsrc1, hsay1⟩ := hXW.srcTake j hj
            have HS1 := Lib.hid hsl1
            have HY1 := Lib.hid hsay1
            have htl : (out.take j).length = j := by rw [List.length_take]; omega
            have HTL := Lib.hid htl
            clear hsl1 hsay1 htl hci
            have hXW' := hX.new hcW
            generalize wr.drewN nq = W at *
            have hlit : (W.alloc (.cells #[] 28)).ownsRow 0 28 2 (.slice (some ⟨W.heap.size, 0, none⟩) 0 0) 0 [] := World.ownsRow_lit W #[] 0 (Nat.zero_le _) (by simp [maxLen]) rfl
            have tok1 : True := trivial
            have tok2 : True := trivial
            go_wp2_with (first | (at_builtin; have _t := tok1; refine wpList_app _ elEnt rfl _ _ _ rfl hlit rfl hsrc1 rfl (by unfold maxLen; omega) (by omega) ?_; rw [Nat.zero_add]; intro a5 c5 w5 hs5 hg5 hl5; obtain ⟨hX5, hc5, hn5⟩ := xents_app (F := F) (B := w.heap.size) (es := []) (ks := out.take j) (svs := []) (xs := []) rfl hlit (fun x hx => by rw [own_new hx]; exact hBW) (says_nil _ _) (by simp; omega) (Chg.refl _ _) hg5 hs5 (by rw [HTL.out]; simp) rfl hl5 HS1.out HY1.out; clear tok1 hs5 hg5 hl5 hsrc1 hlit; rw [List.nil_append] at hX5; have hcW5 : Chg None W w5 := ((Chg.refl None W).alloc _).then hc5 (fun x hx e => Nat.ne_of_lt hx (own_new e.symm)); have hn5' := own_ge (W := W) (by simp) hn5; obtain ⟨xs5, svs5, hsl5, hown5, hnew5, hsay5⟩ := hX5; rw [HTL.out] at hown5; have HS5 := Lib.hid hsl5; have HY5 := Lib.hid hsay5; clear hsl5 hsay5 hc5 hn5; have p1 := hcW5.cell p1 (fun x => x); have p2 := hcW5.cell p2 (fun x => x)) | (at_builtin; have _t := tok2; refine wpList_app _ elEnt rfl _ _ _ rfl (ownsRow_chg hown5 ((Chg.refl None w5).alloc _) (fun _ _ x => x)) rfl (Src.ofSlice _ elEnt.ht ⟨w5.heap.size, 0, none⟩ 1 1 [encStr m[i].1, .slice a2 m[i].2.length cap2] rfl (World.news_of_block (cs := #[encStr m[i].1, .slice a2 m[i].2.length cap2]) (t := 28) (fr := (0, 0)) (heap_alloc_new w5 _)) (by simp [Value.oneCell'])) rfl (by unfold maxLen; omega) (by omega) ?_; intro a6 c6 w6 hs6 hg6 hl6; obtain ⟨hX6, hc6, hn6⟩ := xents_app (F := F) (B := w.heap.size) (es := out.take j) (ks := [m[i]]) (svs2 := [.slice a2 m[i].2.length cap2]) HS5.out (by rw [HTL.out]; exact hown5) hnew5 HY5.out (by have := hcW5.size; omega) ((Chg.refl None w5).alloc _) hg6 hs6 (by rw [HTL.out]; rfl) rfl hl6 rfl (says_one ((hrW.new hcW5).new ((Chg.refl None w5).alloc _))); clear tok2 hs6 hg6 hl6; have hcW6 : Chg None W w6 := hcW5.then hc6 (fun x hx e => absurd hx (Nat.not_lt.2 (hn5' x e.symm))); have hX3 := hXW'.new hcW6; obtain ⟨news3, sv3, hsl3, hsrc3, hsay3⟩ := hX3.srcDrop j hj hbc; have HS3 := Lib.hid hsl3; have HY3 := Lib.hid hsay3; clear hsl3 hsay3; simp only [hcj, if_false] at hsrc3; obtain ⟨xs6, svs6, hsl6, hown6, hnew6, hsay6⟩ := hX6; have htl6 : (out.take j ++ [m[i]]).length = j + 1 := (by rw [List.length_append, HTL.out]; rfl); rw [htl6] at hown6; have HS6 := Lib.hid hsl6; have HY6 := Lib.hid hsay6; have HTL6 := Lib.hid htl6; clear hsl6 hsay6 htl6) | (at_builtin; refine wpList_app _ elEnt rfl _ _ _ rfl hown6 rfl (hsrc3 _) rfl (by unfold maxLen; omega) (by omega) ?_; intro a7 c7 w7 hs7 hg7 hl7))
            obtain ⟨hX7, hc7, hn7⟩ := xents_app (F := F) (B := w.heap.size) (es := out.take j ++ [m[i]]) (ks := out.drop j) HS6.out (by rw [HTL6.out]; exact hown6) hnew6 HY6.out (by have := hcW6.size; omega) (Chg.refl _ _) hg7 hs7 (by rw [HTL6.out, List.length_drop]) rfl hl7 HS3.out HY3.out
            have hn6' : ∀ x, (Value.slice a6 (j + 1) c6).ownBlock = some x → W.heap.size ≤ x := fun x hx => by
              rcases hn6 with e | e
              · exact hn5' x (e ▸ hx)
              · have := e x hx
                have := hcW5.size
                omega
            have hcW7 : Chg None W w7 := hcW6.then hc7 (fun x hx e => absurd hx (Nat.not_lt.2 (hn6' x e.symm)))
            have hln7 : (insAt out m[i] j).length = out.length + 1 := Uv.length_ins out m[i] j
            have hX8 : XEnts F w.heap.size w7 (.slice a7 (j + 1 + (out.length - j)) c7) (insAt out m[i] j) := hX7
            have hnn7 : (Value.slice a7 (j + 1 + (out.length - j)) c7).ownBlock ≠ none := by
              obtain ⟨xs, svs, _, hown, _⟩ := hX8
              rcases hown.2 with ⟨_, e⟩ | ⟨x, cap, cur, e, _⟩
              · omega
              · rw [e]
                simp [Value.ownBlock]
            have HPM : Hid ((insAt out m[i] j).Perm (m.take (i + 1))) := Lib.hid ((Uv.perm_ins out m[i] j).trans (by rw [List.take_succ_eq_append_getElem hlt]; exact HP.out.append_right _))
            have HSM := Lib.hid (Uv.sorted_ins (e := m[i]) (j := j) HSK.out HLOW.out HST.out)
            clear hX7 hc7 hs7 hg7 hl7 hown6 hown5
            go_roundw
            case rel => exact ⟨i + 1, insAt out m[i] j, by omega, by go_num, HPM.out, HSM.out, hX8, hnn7, hchW.trans hcW7⟩
            case measure => simp [intOf]; omega
    · obtain rfl : i = m.length := by omega
      have hp := HP.out
      rw [List.take_of_length_le (Nat.le_refl _)] at hp
      have HPP := Lib.hid hp
      clear hp
      go_wp2
      go_ret
      exact ⟨_, _, out, rfl, HPP.out, HSK.out, hX, hch⟩
end Go.Proofs.YtcbenidcaaegnaaDoor
