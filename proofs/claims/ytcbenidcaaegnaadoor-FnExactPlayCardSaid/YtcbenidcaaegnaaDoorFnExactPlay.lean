/-
  FnExactPlay: for every list of entries and of steps the law returns true, and writes nothing that was there. No condition.
-/
import Derived.Test.YtcbenidcaaegnaaDoorOpenT
import Derived.Test.YtcbenidcaaegnaaDoorToEnt
import Derived.Test.YtcbenidcaaegnaaDoorSz
import Derived.Test.YtcbenidcaaegnaaDoorEqEnt
import Derived.Test.YtcbenidcaaegnaaDoorMark
import Derived.Test.YtcbenidcaaegnaaDoorStepOps
import Derived.Test.YtcbenidcaaegnaaDoorAnsOps
import Derived.Test.YtcbenidcaaegnaaDoorSpecPlay
import Derived.Test.YtcbenidcaaegnaaDoorPlay
namespace Go.Proofs.YtcbenidcaaegnaaDoor.fnExactPlay
open Go.RowKit
open Uv (Bytes Ent KV St Ans kept bulk bulkS bulkT plA plM szR)

theorem stA_len (m : KV) (s : St) : (Uv.stA m s).2.2.length ≤ bulk m := by
  have h := Uv.length_vals m s.2.1
  unfold Uv.stA
  split
  · simp
  · split
    · simp
    · split
      · simp
      · split
        · simp
        · split
          · simp
          · split
            · simp
            · exact h
theorem cntA_plA (N : Nat) (ss : List St) : ∀ m : KV, bulk m + bulkT ss ≤ N → cntA (plA m ss) ≤ ss.length * (2 + N) := by
  induction ss with
  | nil => intro m _; simp [plA, cntA]
  | cons s r ih =>
    intro m h
    have h1 := stA_len m s
    have h2 := Uv.bulk_stM m s
    simp only [bulkT] at h
    have h3 := ih (Uv.stM m s) (by omega)
    simp only [plA, cntA, List.length_cons, Nat.add_mul, Nat.one_mul] at h3 ⊢
    omega

set_option maxRecDepth 100000 in
set_option maxHeartbeats 4000000 in
theorem main (v : Value) (es : KV) (tv : Value) (ss : List St) (w : World) (hv : REnts All w v es) (hs : ∀ e ∈ es, e.1.length ≤ maxLen ∧ ∀ y ∈ e.2, y.length ≤ maxLen) (ht : RSteps All w tv ss) (hts : ∀ s ∈ ss, s.2.1.length ≤ maxLen ∧ s.2.2.length ≤ maxLen) (hT : Tab w)
    (hb : bulk es + bulkZ ss ≤ 1048576) : Calls Tryd.prog 4 #[v, tv] w (Ret (.bool true) w) := by
  obtain ⟨L, hL⟩ : ∃ L, L = 1048576 - bulk es := ⟨_, rfl⟩
  have HZ : Hid (szR 1048576 (bulk es) = (L : Int)) := by show _ = _; rw [Uv.szR_yes (by omega), hL]
  have hLl : L ≤ 1048576 := by omega
  have HZ2 := Lib.hid (Uv.szR_yes (L := L) (n := bulkZ ss) (by omega))
  have hbt := bulkT_le ss
  have hN : bulk es ≤ 4194304 := by omega
  have hN2 : bulk es + bulkT ss ≤ 4194304 := by omega
  have hsl := length_le_bulkZ ss
  have hbk := Uv.bulk_kept es
  have hcA := cntA_plA 4194304 ss (kept es) (by omega)
  have hal : (plA (kept es) ss).length ≤ 4194304 := by rw [Uv.length_plA]; omega
  have hcA2 : 1 + cntA (plA (kept es) ss) ≤ 100000000000000 := by omega
  have hcnt := cnt_le es
  have HS := Lib.hid hs
  have HTS := Lib.hid hts
  have hv0 : REnts (fun g => g < w.heap.size) w v es := hv.mono (fun g hg _ => hg)
  have ht0 : RSteps (fun g => g < w.heap.size) w tv ss := ht.mono (fun g hg _ => hg)
  clear hs hts hv ht hL hcA hbt
  obtain ⟨V, hVV⟩ : ∃ V, plA (kept es) ss = V := ⟨_, rfl⟩
  have HV := Lib.hid hVV
  rw [hVV] at hal hcA2
  clear hVV
  go_enter Tryd.func4, Tryd.ntmps4
  go_wp2_with fail
  refine (szEntryS_ok _ v es 1048576 _ hv0 (Nat.le_refl _) HS.out).mono ?_
  rintro e w1 ⟨rfl, c1⟩
  rw [HZ.out]
  have v1 := hv0.new c1
  have t1 := ht0.new c1
  go_wp2_with fail
  refine (szStepS_ok _ tv ss L _ t1 hLl HTS.out).mono ?_
  rintro e w2 ⟨rfl, c2⟩
  rw [HZ2.out]
  have v2 := v1.new c2
  have t2 := t1.new c2
  have c2 := c1.trans c2
  go_wp2_with fail
  refine (toEntryS_ok _ v es _ v2 hN).mono ?_
  rintro e w3 ⟨a3, k3, rfl, o3, c3⟩
  have v3 := v2.new c3
  have t3 := t2.new c3
  have c3 := c2.trans c3
  go_wp2_with fail
  refine (toStepS_ok _ tv ss _ t3 (by omega)).mono ?_
  rintro e w4 ⟨a4, k4, rfl, p4, c4⟩
  have v4 := v3.new c4
  have t4 := t3.new c4
  have o4 := o3.new c4
  have c4 := c3.trans c4
  go_wp2_with fail
  refine (specPlay_ok _ _ _ es _ ss _ o4.read p4.read hN2).mono ?_
  rintro e w5 ⟨a5, k5, rfl, r5, c5⟩
  rw [HV.out] at r5 ⊢
  have v5 := v4.new c5
  have t5 := t4.new c5
  have c5 := c4.trans c5
  have r5 : OAns (fun g => g < w5.heap.size) w5 _ V := r5.mono (fun g hg _ => hg)
  clear o3 o4 p4
  go_wp2_with fail
  refine (toEntryS_ok _ v es _ v5 hN).mono ?_
  rintro e w6 ⟨a6, k6, rfl, o6, c6⟩
  have v6 := v5.new c6
  have t6 := t5.new c6
  have r6 := r5.new c6
  have z6 := c6.size
  have o6 : OEnts (fun g => w5.heap.size ≤ g ∧ g < w6.heap.size) w6 _ es := o6.mono (fun g hg h => ⟨h, hg⟩)
  have c6 := c5.trans c6
  go_wp2_with fail
  refine (toStepS_ok _ tv ss _ t6 (by omega)).mono ?_
  rintro e w7 ⟨a7, k7, rfl, p7, c7⟩
  have v7 := v6.new c7
  have t7 := t6.new c7
  have r7 := r6.new c7
  have o7 := o6.new c7
  have z7 := c7.size
  have p7 : OSteps (fun g => w6.heap.size ≤ g ∧ g < w7.heap.size) w7 _ ss := ⟨p7.1, fun g hg => ⟨p7.2 g hg, (p7.1.lt g hg).2⟩⟩
  have c7 := c6.trans c7
  go_wp2_with fail
  refine (implPlay_ok _ _ _ es _ ss _ o7.read p7.read (hT.new c7) hN2).mono ?_
  rintro e w8 ⟨a8, k8, rfl, s8, c8⟩
  rw [HV.out] at s8 ⊢
  have v8 := v7.new c8
  have t8 := t7.new c8
  have r8 := r7.new c8
  have o8 := o7.new c8
  have p8 := p7.new c8
  have z8 := c8.size
  have c8 := c7.trans c8
  go_wp2_with fail
  refine (eqAnswerS_ok _ _ _ _ V _ s8 r8 hal).mono ?_
  rintro e w9 ⟨rfl, c9⟩
  have v9 := v8.new c9
  have t9 := t8.new c9
  have r9 := r8.new c9
  have o9 := o8.new c9
  have p9 := p8.new c9
  have s9 := s8.new c9
  have z9 := c9.size
  have c9 := c8.trans c9
  go_wp2_with fail
  refine (toEntryS_ok _ v es _ v9 hN).mono ?_
  rintro e w10 ⟨a10, k10, rfl, oo, c10⟩
  have v10 := v9.new c10
  have t10 := t9.new c10
  have r10 := r9.new c10
  have o10 := o9.new c10
  have p10 := p9.new c10
  have s10 := s9.new c10
  have z10 := c10.size
  have c10 := c9.trans c10
  go_wp2_with fail
  refine (eqEntryS_ok _ _ _ _ es es _ o10.read oo.read).mono ?_
  rintro e w11 ⟨rfl, c11⟩
  rw [decide_eq_true rfl]
  have v11 := v10.new c11
  have t11 := t10.new c11
  have r11 := r10.new c11
  have o11 := o10.new c11
  have p11 := p10.new c11
  have s11 := s10.new c11
  have z11 := c11.size
  have c11 := c10.trans c11
  clear oo
  go_wp2_with fail
  refine (toStepS_ok _ tv ss _ t11 (by omega)).mono ?_
  rintro e w12 ⟨a12, k12, rfl, pp, c12⟩
  have v12 := v11.new c12
  have t12 := t11.new c12
  have r12 := r11.new c12
  have o12 := o11.new c12
  have p12 := p11.new c12
  have s12 := s11.new c12
  have z12 := c12.size
  have c12 := c11.trans c12
  go_wp2_with fail
  refine (eqStepS_ok _ _ _ _ ss _ p12.read pp.read).mono ?_
  rintro e w13 ⟨rfl, c13⟩
  have v13 := v12.new c13
  have t13 := t12.new c13
  have r13 := r12.new c13
  have o13 := o12.new c13
  have p13 := p12.new c13
  have s13 := s12.new c13
  have z13 := c13.size
  have c13 := c12.trans c13
  clear pp
  go_wp2_with fail
  refine (markEntryS_ok _ _ es 1 _ o13 (by omega)).mono ?_
  rintro e w14 ⟨rfl, c14⟩
  have v14 := v13.kept c14 (fun g _ h1 h2 => by have := c5.size; omega)
  have t14 := t13.kept c14 (fun g _ h1 h2 => by have := c5.size; omega)
  have r14 := r13.kept c14 (fun g _ h1 h2 => by omega)
  have p14 := p13.kept c14 (fun g hg h2 => by have := (p13.2 g hg).1; omega)
  have s14 := s13.kept c14 (fun g _ h1 h2 => by omega)
  have z14 := c14.size
  have c14 : Chg None w w14 := c13.then c14 (fun i hi h => by have := c5.size; omega)
  clear o13
  go_wp2_with fail
  refine (markStepS_ok _ _ ss (1 + cnt es) _ p14 (by omega)).mono ?_
  rintro e w15 ⟨rfl, c15⟩
  have v15 := v14.kept c15 (fun g _ h1 h2 => by have := c5.size; omega)
  have t15 := t14.kept c15 (fun g _ h1 h2 => by have := c5.size; omega)
  have r15 := r14.kept c15 (fun g _ h1 h2 => by omega)
  have s15 := s14.kept c15 (fun g _ h1 h2 => by omega)
  have z15 := c15.size
  have c15 : Chg None w w15 := c14.then c15 (fun i hi h => by have := c5.size; omega)
  clear p14
  go_wp2_with fail
  refine (eqAnswerS_ok _ _ _ _ V _ s15 r15 hal).mono ?_
  rintro e w16 ⟨rfl, c16⟩
  have v16 := v15.new c16
  have t16 := t15.new c16
  have r16 := r15.new c16
  have s16 := s15.new c16
  have z16 := c16.size
  have c16 := c15.trans c16
  go_wp2_with fail
  refine (markAnswerS_ok _ _ V 1 _ s16 hal hcA2).mono ?_
  rintro e w17 ⟨rfl, s17, c17⟩
  have v17 := v16.kept c17 (fun g _ h1 h2 => by have := c5.size; omega)
  have t17 := t16.kept c17 (fun g _ h1 h2 => by have := c5.size; omega)
  have r17 := r16.kept c17 (fun g _ h1 h2 => by omega)
  have z17 := c17.size
  have c17 : Chg None w w17 := c16.then c17 (fun i hi h => by have := c5.size; omega)
  go_wp2_with fail
  refine (heldAnswerS_ok _ _ V 1 _ s17 hal hcA2).mono ?_
  rintro e w18 ⟨rfl, c18⟩
  have v18 := v17.new c18
  have t18 := t17.new c18
  have r18 := r17.new c18
  have s18 := s17.new c18
  have c18 := c17.trans c18
  have hne : (((1 + cntA V : Nat) : Int) != ((1 + cntA V : Nat) : Int)) = false := by simp
  go_wp2_with fail
  refine (toEntryS_ok _ v es _ v18 hN).mono ?_
  rintro e w19 ⟨a19, k19, rfl, o19, c19⟩
  have t19 := t18.new c19
  have r19 := r18.new c19
  have s19 := s18.new c19
  have c19 := c18.trans c19
  go_wp2_with fail
  refine (toStepS_ok _ tv ss _ t19 (by omega)).mono ?_
  rintro e w20 ⟨a20, k20, rfl, p20, c20⟩
  have r20 := r19.new c20
  have s20 := s19.new c20
  have o20 := o19.new c20
  have c20 := c19.trans c20
  go_wp2_with fail
  refine (implPlay_ok _ _ _ es _ ss _ o20.read p20.read (hT.new c20) hN2).mono ?_
  rintro e w21 ⟨a21, k21, rfl, h21, c21⟩
  rw [HV.out] at h21 ⊢
  have r21 := r20.new c21
  have s21 := s20.new c21
  have c21 := c20.trans c21
  clear o19 o20 p20
  go_wp2_with fail
  refine (eqAnswerS_ok _ _ _ _ V _ h21 r21 hal).mono ?_
  rintro e w22 ⟨rfl, c22⟩
  have s22 := s21.new c22
  have c22 := c21.trans c22
  go_wp2_with fail
  refine (heldAnswerS_ok _ _ V 1 _ s22 hal hcA2).mono ?_
  rintro e w23 ⟨rfl, c23⟩
  have c23 := c22.trans c23
  go_wp2
  go_ret
  exact ⟨rfl, c23⟩

set_option maxRecDepth 100000 in
set_option maxHeartbeats 1000000 in
theorem walk (v : Value) (es : KV) (tv : Value) (ss : List St) (w : World) (hv : REnts All w v es) (hs : ∀ e ∈ es, e.1.length ≤ maxLen ∧ ∀ y ∈ e.2, y.length ≤ maxLen) (ht : RSteps All w tv ss) (hts : ∀ s ∈ ss, s.2.1.length ≤ maxLen ∧ s.2.2.length ≤ maxLen) (hT : Tab w) :
    Calls Tryd.prog 4 #[v, tv] w (Ret (.bool true) w) := by
  by_cases h0 : bulk es ≤ 1048576
  · by_cases h1 : bulk es + bulkZ ss ≤ 1048576
    · exact main v es tv ss w hv hs ht hts hT h1
    · obtain ⟨L, hL⟩ : ∃ L, L = 1048576 - bulk es := ⟨_, rfl⟩
      have HZ : Hid (szR 1048576 (bulk es) = (L : Int)) := by show _ = _; rw [Uv.szR_yes h0, hL]
      have hLl : L ≤ 1048576 := by omega
      have HZ2 : Hid (szR L (bulkZ ss) = -1) := Lib.hid (Uv.szR_no (by omega))
      have HS := Lib.hid hs
      have HTS := Lib.hid hts
      clear hs hts hL h0 h1 hT
      go_enter Tryd.func4, Tryd.ntmps4
      go_wp2_with fail
      refine (szEntryS_ok _ v es 1048576 _ hv (Nat.le_refl _) HS.out).mono ?_
      rintro e w1 ⟨rfl, c1⟩
      rw [HZ.out]
      go_wp2_with fail
      refine (szStepS_ok _ tv ss L _ (ht.new c1) hLl HTS.out).mono ?_
      rintro e w2 ⟨rfl, c2⟩
      rw [HZ2.out]
      go_wp2
      go_ret
      exact ⟨rfl, c1.trans c2⟩
  · have HZ : Hid (szR 1048576 (bulk es) = -1) := Lib.hid (Uv.szR_no (by omega))
    have HS := Lib.hid hs
    clear hs hts h0 hT
    go_enter Tryd.func4, Tryd.ntmps4
    go_wp2_with fail
    refine (szEntryS_ok _ v es 1048576 _ hv (Nat.le_refl _) HS.out).mono ?_
    rintro e w1 ⟨rfl, c1⟩
    rw [HZ.out]
    go_wp2
    go_ret
    exact ⟨rfl, c1⟩
end Go.Proofs.YtcbenidcaaegnaaDoor.fnExactPlay
