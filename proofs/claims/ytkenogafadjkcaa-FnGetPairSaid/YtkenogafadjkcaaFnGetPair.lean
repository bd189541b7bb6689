/-
  FnGetPair: for every key, every list of texts (of at most 2^47 bytes) and every other key the law returns true, and writes nothing that was there.
-/
import Derived.Test.YtkenogafadjkcaaOpen
import Derived.Test.YtkenogafadjkcaaImpl
import Derived.Test.YtkenogafadjkcaaToEnt
import Derived.Test.YtkenogafadjkcaaOneEnt
import Derived.Deep.AppendLies
import Derived.Deep.RegionHeld3
namespace Go.Proofs.Ytkenogafadjkcaa.fnGetPair
open Go.RowKit
open Uv (Bytes Ent KV lk vals has bulk bulkS kept)

set_option maxRecDepth 100000 in
set_option maxHeartbeats 1600000 in
theorem walk (k : Bytes) (lv : Value) (l : List Bytes) (o : Bytes) (w : World) (hk : k.length ≤ maxLen) (hl : RStrs All w lv l) (ho : o.length ≤ maxLen) (hn : l.length * 16 ≤ 140737488355328) :
    Calls Try.prog 3 #[encStr k, lv, encStr o] w (Ret (.bool true) w) := by
  have hV := valOk_one hk hn
  have H1 : Hid (has (kept [(k, l)]) k = true) := by show _ = _; simp [kept_one, has, lk]
  have hls := (hl.new ((Chg.refl None w).alloc (.cells #[] 9))).src
  obtain ⟨al, cl, hsh, hl1, hl2, hl3⟩ := id hl
  subst hsh
  have H3 := Lib.hid hl3
  clear hl3
  unfold maxLen at hl2
  by_cases he : k = o
  · have hkk : (k == o) = true := by simp [he]
    clear he
    by_cases hl0 : l = []
    · have hz0 : ((l.length : Int) == 0) = true := by rw [hl0]; rfl
      clear hl0
      go_enter Try.func3, Try.ntmps3
      go_wp2_with (at_builtin; refine wpList_app _ elStr rfl _ _ _ rfl (World.ownsRow_lit w #[] 0 (Nat.zero_le _) (by simp [maxLen]) rfl) rfl hls rfl (by unfold maxLen; omega) (by omega) ?_; rw [Nat.zero_add]; intro a2 c2 w2 hs2 hg2 hl2'; have hE : REnts All (w2.alloc (.cells #[encStr k, .slice a2 l.length c2] 24)) (.slice (some ⟨w2.heap.size, 0, none⟩) 1 1) [(k, l)] := one_ent (F := All) (OStrs.read ⟨by simpa using hs2, fun _ _ => trivial⟩); have hc : Chg None w (w2.alloc (.cells #[encStr k, .slice a2 l.length c2] 24)) := (((Chg.refl None w).alloc _).then (Chg.ofGrown hg2) (fun i hi e => Nat.ne_of_lt hi (own_new e.symm))).alloc _; clear hs2 hg2 hl2')
      generalize w2.alloc (.cells #[encStr k, .slice a2 l.length c2] 24) = W at *
      generalize w2.heap.size = E at *
      have hE1 := hE.new ((Chg.refl None W).drew)
      try go_wp2
      refine wp_region_held_drew (S := fun _ => True) (by kernel_rfl) trivial (fun _ => ?_)
      refine wpAnyH_take (i := 0) (v := ?_) rfl (by kernel_rfl) (by kernel_rfl) (by kernel_rfl) (fun _ _ _ h => h) (Or.inl ⟨by rfl, ?_⟩) trivial ?_
      rotate_left
      · (intro w' _; go_simp; first | done | with_reducible rfl)
      change wpAnyH _ _ _ _ _ _ _ (Act.put _ (some 17) _) _
      simp only [Act.put, List.setIfInBounds_toArray, List.set_cons_zero, List.set_cons_succ]
      refine wpAnyH_take (i := 1) (v := ?_) rfl (by kernel_rfl) (by kernel_rfl) (by kernel_rfl) (fun _ _ _ h => h) (Or.inl ⟨by rfl, ?_⟩) trivial ?_
      rotate_left
      · (intro w' _; go_simp; first | done | with_reducible rfl)
      change wpAnyH _ _ _ _ _ _ _ (Act.put _ (some 18) _) _
      simp only [Act.put, List.setIfInBounds_toArray, List.set_cons_zero, List.set_cons_succ]
      refine wpAnyH_ready (rs := [2]) (by kernel_rfl) (by simp) (AllReadyH.cons rfl (fun K hK => ?_) (AllReadyH.nil))
      go_simp
      refine (implHas_ok _ _ [(k, l)] k _ hE1 hV hk).mono ?_
      rw [H1.out]
      rintro e w3 ⟨rfl, c3⟩
      go_wp2_with fail
      refine hK.out _ _ trivial (fun _ => ?_)
      clear hK K
      refine wpAnyH_take (i := 3) (v := ?_) rfl (by kernel_rfl) (by kernel_rfl) (by kernel_rfl) (fun _ _ _ h => h) (Or.inl ⟨by rfl, ?_⟩) trivial ?_
      rotate_left
      · (intro w' _; go_simp; first | done | with_reducible rfl)
      change wpAnyH _ _ _ _ _ _ _ (Act.put _ (some 20) _) _
      simp only [Act.put, List.setIfInBounds_toArray, List.set_cons_zero, List.set_cons_succ]
      refine wpAnyH_take (i := 4) (v := ?_) rfl (by kernel_rfl) (by kernel_rfl) (by kernel_rfl) (fun _ _ _ h => h) (Or.inl ⟨by rfl, ?_⟩) trivial ?_
      rotate_left
      · (intro w' _; go_simp; first | done | with_reducible rfl)
      change wpAnyH _ _ _ _ _ _ _ (Act.put _ (some 21) _) _
      simp only [Act.put, List.setIfInBounds_toArray, List.set_cons_zero, List.set_cons_succ]
      refine wpAnyH_take (i := 5) (v := ?_) rfl (by kernel_rfl) (by kernel_rfl) (by kernel_rfl) (fun _ _ _ h => h) (Or.inl ⟨by rfl, ?_⟩) trivial ?_
      rotate_left
      · (intro w' _; go_simp; first | done | with_reducible rfl)
      change wpAnyH _ _ _ _ _ _ _ (Act.put _ (some 22) _) _
      simp only [Act.put, List.setIfInBounds_toArray, List.set_cons_zero, List.set_cons_succ]
      refine wpAnyH_take (i := 6) (v := ?_) rfl (by kernel_rfl) (by kernel_rfl) (by kernel_rfl) (fun _ _ _ h => h) (Or.inl ⟨by rfl, ?_⟩) trivial ?_
      rotate_left
      · (intro w' _; go_simp; first | done | with_reducible rfl)
      change wpAnyH _ _ _ _ _ _ _ (Act.put _ (some 23) _) _
      simp only [Act.put, List.setIfInBounds_toArray, List.set_cons_zero, List.set_cons_succ]
      refine wpAnyH_take (i := 7) (v := ?_) rfl (by kernel_rfl) (by kernel_rfl) (by kernel_rfl) (fun _ _ _ h => h) (Or.inl ⟨by rfl, ?_⟩) trivial ?_
      rotate_left
      · (intro w' _; go_simp; first | done | with_reducible rfl)
      change wpAnyH _ _ _ _ _ _ _ (Act.put _ (some 24) _) _
      simp only [Act.put, List.setIfInBounds_toArray, List.set_cons_zero, List.set_cons_succ]
      refine wpAnyH_take (i := 8) (v := undef) rfl (by kernel_rfl) (by kernel_rfl) (by kernel_rfl) (fun _ _ _ h => h) (Or.inr ⟨by rfl, rfl⟩) trivial ?_
      change wpAnyH _ _ _ _ _ _ _ (Act.put _ (some 25) _) _
      simp only [Act.put, List.setIfInBounds_toArray, List.set_cons_zero, List.set_cons_succ]
      refine wpAnyH_take (i := 9) (v := undef) rfl (by kernel_rfl) (by kernel_rfl) (by kernel_rfl) (fun _ _ _ h => h) (Or.inr ⟨by rfl, rfl⟩) trivial ?_
      change wpAnyH _ _ _ _ _ _ _ (Act.put _ (some 26) _) _
      simp only [Act.put, List.setIfInBounds_toArray, List.set_cons_zero, List.set_cons_succ]
      refine wpAnyH_take (i := 10) (v := undef) rfl (by kernel_rfl) (by kernel_rfl) (by kernel_rfl) (fun _ _ _ h => h) (Or.inr ⟨by rfl, rfl⟩) trivial ?_
      change wpAnyH _ _ _ _ _ _ _ (Act.put _ (some 27) _) _
      simp only [Act.put, List.setIfInBounds_toArray, List.set_cons_zero, List.set_cons_succ]
      refine wpAnyH_take (i := 11) (v := undef) rfl (by kernel_rfl) (by kernel_rfl) (by kernel_rfl) (fun _ _ _ h => h) (Or.inr ⟨by rfl, rfl⟩) trivial ?_
      change wpAnyH _ _ _ _ _ _ _ (Act.put _ (some 28) _) _
      simp only [Act.put, List.setIfInBounds_toArray, List.set_cons_zero, List.set_cons_succ]
      refine wpAnyH_take (i := 12) (v := undef) rfl (by kernel_rfl) (by kernel_rfl) (by kernel_rfl) (fun _ _ _ h => h) (Or.inr ⟨by rfl, rfl⟩) trivial ?_
      change wpAnyH _ _ _ _ _ _ _ (Act.put _ (some 29) _) _
      simp only [Act.put, List.setIfInBounds_toArray, List.set_cons_zero, List.set_cons_succ]
      refine wpAnyH_take (i := 13) (v := undef) rfl (by kernel_rfl) (by kernel_rfl) (by kernel_rfl) (fun _ _ _ h => h) (Or.inr ⟨by rfl, rfl⟩) trivial ?_
      change wpAnyH _ _ _ _ _ _ _ (Act.put _ (some 30) _) _
      simp only [Act.put, List.setIfInBounds_toArray, List.set_cons_zero, List.set_cons_succ]
      refine wpAnyH_take (i := 14) (v := undef) rfl (by kernel_rfl) (by kernel_rfl) (by kernel_rfl) (fun _ _ _ h => h) (Or.inr ⟨by rfl, rfl⟩) trivial ?_
      change wpAnyH _ _ _ _ _ _ _ (Act.put _ (some 31) _) _
      simp only [Act.put, List.setIfInBounds_toArray, List.set_cons_zero, List.set_cons_succ]
      refine wpAnyH_take (i := 15) (v := ?_) rfl (by kernel_rfl) (by kernel_rfl) (by kernel_rfl) (fun _ _ _ h => h) (Or.inl ⟨by rfl, ?_⟩) trivial ?_
      rotate_left
      · (intro w' _; go_simp; first | done | with_reducible rfl)
      change wpAnyH _ _ _ _ _ _ _ (Act.put _ (some 32) _) _
      simp only [Act.put, List.setIfInBounds_toArray, List.set_cons_zero, List.set_cons_succ]
      refine wpAnyH_take (i := 16) (v := ?_) rfl (by kernel_rfl) (by kernel_rfl) (by kernel_rfl) (fun _ _ _ h => h) (Or.inl ⟨by rfl, ?_⟩) trivial ?_
      rotate_left
      · (intro w' _; go_simp; first | done | with_reducible rfl)
      change wpAnyH _ _ _ _ _ _ _ (Act.put _ (some 33) _) _
      simp only [Act.put, List.setIfInBounds_toArray, List.set_cons_zero, List.set_cons_succ]
      refine wpAnyH_take (i := 17) (v := ?_) rfl (by kernel_rfl) (by kernel_rfl) (by kernel_rfl) (fun _ _ _ h => h) (Or.inl ⟨by rfl, ?_⟩) trivial ?_
      rotate_left
      · (intro w' _; go_simp; first | done | with_reducible rfl)
      change wpAnyH _ _ _ _ _ _ _ (Act.put _ (some 6) _) _
      simp only [Act.put, List.setIfInBounds_toArray, List.set_cons_zero, List.set_cons_succ]
      refine wpAnyH_done (by kernel_rfl) ?_ _
      go_wp2
      go_ret
      exact ⟨rfl, hc.drew.trans c3⟩
    · obtain ⟨x, r, hlr⟩ := List.exists_cons_of_ne_nil hl0
      obtain ⟨bl, fl, hal, _, hcl⟩ := H3.out 0 x (by rw [hlr]; rfl)
      replace hcl : w.cell? ⟨bl, fl, none⟩ = some (encStr x) := hcl
      subst hal
      have hlp : 0 < l.length := by rw [hlr]; simp
      have hz0 : ((l.length : Int) == 0) = false := by rw [beq_eq_false_iff_ne]; omega
      have HD : Hid (Uv.hd (vals (kept [(k, l)]) k) = x) := by show _ = _; rw [hlr]; simp [kept_one, vals, lk, Uv.hd]
      have hxx : (x == x) = true := by simp
      clear hlr hl0
      go_enter Try.func3, Try.ntmps3
      go_wp2_with (at_builtin; refine wpList_app _ elStr rfl _ _ _ rfl (World.ownsRow_lit w #[] 0 (Nat.zero_le _) (by simp [maxLen]) rfl) rfl hls rfl (by unfold maxLen; omega) (by omega) ?_; rw [Nat.zero_add]; intro a2 c2 w2 hs2 hg2 hl2'; have hE : REnts All (w2.alloc (.cells #[encStr k, .slice a2 l.length c2] 24)) (.slice (some ⟨w2.heap.size, 0, none⟩) 1 1) [(k, l)] := one_ent (F := All) (OStrs.read ⟨by simpa using hs2, fun _ _ => trivial⟩); have hc : Chg None w (w2.alloc (.cells #[encStr k, .slice a2 l.length c2] 24)) := (((Chg.refl None w).alloc _).then (Chg.ofGrown hg2) (fun i hi e => Nat.ne_of_lt hi (own_new e.symm))).alloc _; clear hs2 hg2 hl2')
      replace hcl := hc.cell hcl (fun x => x)
      generalize w2.alloc (.cells #[encStr k, .slice a2 l.length c2] 24) = W at *
      generalize w2.heap.size = E at *
      have hE1 := hE.new ((Chg.refl None W).drew)
      try go_wp2
      go_region_held3 (fun w' => w'.cell? ⟨bl, fl, none⟩ = some (encStr x)) (first | go_keep | exact c3.cell (by assumption) (fun x => x) | exact c4.cell (by assumption) (fun x => x)) (first | (go_at_call 4; refine (implHas_ok _ _ [(k, l)] k _ hE1 hV hk).mono ?_; rw [H1.out]; rintro e w3 ⟨rfl, c3⟩) | (go_at_call 5; refine (implGet_ok _ _ [(k, l)] k _ (hE1.new c3) hV hk).mono ?_; rw [HD.out]; rintro e w4 ⟨rfl, c4⟩))
      go_wp2
      go_ret
      exact ⟨rfl, (hc.drew.trans c3).trans c4⟩
  · have hkk : (k == o) = false := by simp [he]
    have H2 : Hid (has (kept [(k, l)]) o = false) := by show _ = _; simp [kept_one, has, lk, he]
    have H4 : Hid (Uv.hd (vals (kept [(k, l)]) o) = []) := by show _ = _; simp [kept_one, vals, lk, Uv.hd, he]
    clear he
    go_enter Try.func3, Try.ntmps3
    go_wp2_with (at_builtin; refine wpList_app _ elStr rfl _ _ _ rfl (World.ownsRow_lit w #[] 0 (Nat.zero_le _) (by simp [maxLen]) rfl) rfl hls rfl (by unfold maxLen; omega) (by omega) ?_; rw [Nat.zero_add]; intro a2 c2 w2 hs2 hg2 hl2'; have hE : REnts All (w2.alloc (.cells #[encStr k, .slice a2 l.length c2] 24)) (.slice (some ⟨w2.heap.size, 0, none⟩) 1 1) [(k, l)] := one_ent (F := All) (OStrs.read ⟨by simpa using hs2, fun _ _ => trivial⟩); have hc : Chg None w (w2.alloc (.cells #[encStr k, .slice a2 l.length c2] 24)) := (((Chg.refl None w).alloc _).then (Chg.ofGrown hg2) (fun i hi e => Nat.ne_of_lt hi (own_new e.symm))).alloc _; clear hs2 hg2 hl2')
    generalize w2.alloc (.cells #[encStr k, .slice a2 l.length c2] 24) = W at *
    generalize w2.heap.size = E at *
    try go_wp2_with fail
    refine (implHas_ok _ _ [(k, l)] k _ hE hV hk).mono ?_
    rw [H1.out]
    rintro e w3 ⟨rfl, c3⟩
    go_wp2_with fail
    refine (implHas_ok _ _ [(k, l)] o _ (hE.new c3) hV ho).mono ?_
    rw [H2.out]
    rintro e w4 ⟨rfl, c4⟩
    go_wp2_with fail
    refine (implGet_ok _ _ [(k, l)] o _ ((hE.new c3).new c4) hV ho).mono ?_
    rw [H4.out]
    rintro e w5 ⟨rfl, c5⟩
    go_wp2
    go_ret
    exact ⟨rfl, ((hc.trans c3).trans c4).trans c5⟩
end Go.Proofs.Ytkenogafadjkcaa.fnGetPair
