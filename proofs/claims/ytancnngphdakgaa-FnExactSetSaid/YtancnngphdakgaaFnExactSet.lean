/-
  FnExactSet: for every list of entries and all texts the law returns true, and writes nothing that was there. No condition.
-/
import Derived.Test.YtancnngphdakgaaOpen
import Derived.Test.YtancnngphdakgaaImpl
import Derived.Test.YtancnngphdakgaaToEnt
import Derived.Test.YtancnngphdakgaaSz
import Derived.Test.YtancnngphdakgaaEqEnt
import Derived.Test.YtancnngphdakgaaSpec
import Derived.Test.YtancnngphdakgaaMark
import Derived.ChangeOld
namespace Go.Proofs.Ytancnngphdakgaa.fnExactSet
open Go.RowKit
open Uv (Bytes Ent KV lk vals has addAll del sett add bulk bulkS kept szR)

theorem cond_ok {w : World} {F G : Nat → Prop} {w' : World} (h : Chg F w w') (hs : ∀ k, k < w.heap.size → F k → G k) : Chg G w w' := h.mono hs

set_option maxRecDepth 100000 in
set_option maxHeartbeats 4000000 in
theorem main (v : Value) (es : KV) (k x q : Bytes) (w : World) (hv : REnts All w v es) (hs : ∀ e ∈ es, e.1.length ≤ maxLen ∧ ∀ y ∈ e.2, y.length ≤ maxLen) (hq : q.length ≤ maxLen)
    (h0 : k.length ≤ 1048576) (h1 : x.length ≤ 1048576) (h2 : q.length ≤ 1048576) (hb : bulk es ≤ 1048576) :
    Calls Try.prog 7 #[v, encStr k, encStr x, encStr q] w (Ret (.bool true) w) := by
  have HZ := Lib.hid (Uv.szR_yes hb)
  have hN : bulk es ≤ 4194304 := by omega
  have hN2 : bulk es + k.length + x.length + 2 ≤ 4194304 := by omega
  have HS := Lib.hid hs
  have hv0 : REnts (fun g => g < w.heap.size) w v es := hv.mono (fun g hg _ => hg)
  have hV : (vals (sett (kept es) k x) q).length ≤ 4194304 := by
    have h1 := Uv.length_vals (sett (kept es) k x) q
    have h2 := Uv.bulk_kept es
    have h3 := Uv.bulk_sett (kept es) k x
    omega
  clear hs hv
  go_enter Try.func7, Try.ntmps7
  go_wp2_with fail
  refine (szEntryS_ok _ v es 1048576 _ hv0 (Nat.le_refl _) HS.out).mono ?_
  rintro e w1 ⟨rfl, c1⟩
  rw [HZ.out]
  have v1 := hv0.new c1
  go_wp2_with fail
  refine (toEntryS_ok _ v es _ v1 hN).mono ?_
  rintro e w2 ⟨a2, k2, rfl, o2, c2⟩
  have v2 := v1.new c2
  have c2 := c1.trans c2
  go_wp2_with fail
  refine (specSet_ok _ _ es k x q _ o2.read hN2).mono ?_
  rintro e w3 ⟨a3, k3, rfl, s3, c3⟩
  have v3 := v2.new c3
  have c3 := c2.trans c3
  have r3 : RStrs (fun g => g < w3.heap.size) w3 _ _ := s3.read.mono (fun g hg _ => hg)
  generalize hVV : vals (sett (kept es) k x) q = V at *
  generalize hBB : has (sett (kept es) k x) q = B at *
  have HV := Lib.hid hVV
  have HB := Lib.hid hBB
  clear hVV hBB s3
  go_wp2_with fail
  refine (toEntryS_ok _ v es _ v3 hN).mono ?_
  rintro e w4 ⟨a4, k4, rfl, o4, c4⟩
  have v4 := v3.new c4
  have r4 := r3.new c4
  have z4 := c4.size
  have o4 : OEnts (fun g => w3.heap.size ≤ g ∧ g < w4.heap.size) w4 _ es := o4.mono (fun g hg h => ⟨h, hg⟩)
  have c4 := c3.trans c4
  go_wp2_with fail
  refine (implSet_ok _ _ es k x q _ o4.read hN2 hq).mono ?_
  rintro e w5 ⟨a5, k5, rfl, s5, c5⟩
  have v5 := v4.new c5
  have r5 := r4.new c5
  have o5 := o4.new c5
  have z5 := c5.size
  have c5 := c4.trans c5
  rw [HV.out] at s5 ⊢
  rw [HB.out]
  go_wp2_with fail
  refine (eqStringS_ok _ _ _ _ V V _ s5.read r5).mono ?_
  rintro e w6 ⟨rfl, c6⟩
  rw [decide_eq_true rfl]
  have v6 := v5.new c6
  have r6 := r5.new c6
  have o6 := o5.new c6
  have s6 := s5.kept c6 (fun _ _ x => x)
  have z6 := c6.size
  have c6 := c5.trans c6
  have hbb : (B != B) = false := by simp
  go_wp2_with fail
  refine (toEntryS_ok _ v es _ v6 hN).mono ?_
  rintro e w7 ⟨a7, k7, rfl, o7, c7⟩
  have v7 := v6.new c7
  have r7 := r6.new c7
  have o6 := o6.new c7
  have s7 := s6.kept c7 (fun _ _ x => x)
  have z7 := c7.size
  have c7 := c6.trans c7
  go_wp2_with fail
  refine (eqEntryS_ok _ _ _ _ es es _ o6.read o7.read).mono ?_
  rintro e w8 ⟨rfl, c8⟩
  rw [decide_eq_true rfl]
  have v8 := v7.new c8
  have r8 := r7.new c8
  have o8 := o6.new c8
  have s8 := s7.kept c8 (fun _ _ x => x)
  have z8 := c8.size
  have c8 := c7.trans c8
  clear o7 o6
  go_wp2_with fail
  refine (markEntryS_ok _ _ es 1 _ o8 (by omega)).mono ?_
  rintro e w9 ⟨rfl, c9⟩
  have v9 := v8.kept c9 (fun g _ h1 h2 => by have := c3.size; omega)
  have r9 := r8.kept c9 (fun g _ h1 h2 => by omega)
  have s9 := s8.kept c9 (fun g hg h2 => by have := s8.2 g hg; omega)
  have z9 := c9.size
  have c9 : Chg None w w9 := c8.then c9 (fun i hi h => by have := c3.size; omega)
  clear o8
  go_wp2_with fail
  refine (eqStringS_ok _ _ _ _ V V _ s9.read r9).mono ?_
  rintro e w10 ⟨rfl, c10⟩
  rw [decide_eq_true rfl]
  have v10 := v9.new c10
  have r10 := r9.new c10
  have s10 := s9.kept c10 (fun _ _ x => x)
  have z10 := c10.size
  have c10 := c9.trans c10
  go_wp2_with fail
  refine (markStringS_ok _ _ V 1 _ s10 (by omega)).mono ?_
  rintro e w11 ⟨rfl, s11, c11⟩
  have v11 := v10.kept c11 (fun g _ h1 h2 => by have := s10.2 g h2.symm; have := c3.size; omega)
  have r11 := r10.kept c11 (fun g _ h1 h2 => by have := s10.2 g h2.symm; omega)
  have z11 := c11.size
  have c11 : Chg None w w11 := c10.then c11 (fun i hi h => by have := s10.2 i h.symm; have := c3.size; omega)
  go_wp2_with fail
  refine (heldStringS_ok _ _ 1 V.length _ s11.read (by omega)).mono ?_
  rintro e w12 ⟨rfl, c12⟩
  have v12 := v11.new c12
  have r12 := r11.new c12
  have s12 := s11.kept c12 (fun _ _ x => x)
  have c12 := c11.trans c12
  have hne : (((1 + V.length : Nat) : Int) != ((1 + V.length : Nat) : Int)) = false := by simp
  go_wp2_with fail
  refine (toEntryS_ok _ v es _ v12 hN).mono ?_
  rintro e w13 ⟨a13, k13, rfl, o13, c13⟩
  have r13 := r12.new c13
  have s13 := s12.kept c13 (fun _ _ x => x)
  have c13 := c12.trans c13
  go_wp2_with fail
  refine (implSet_ok _ _ es k x q _ o13.read hN2 hq).mono ?_
  rintro e w14 ⟨a14, k14, rfl, s14, c14⟩
  have r14 := r13.new c14
  have s15 := s13.kept c14 (fun _ _ x => x)
  have c14 := c13.trans c14
  rw [HV.out] at s14 ⊢
  rw [HB.out]
  go_wp2_with fail
  refine (eqStringS_ok _ _ _ _ V V _ s14.read r14).mono ?_
  rintro e w15 ⟨rfl, c15⟩
  rw [decide_eq_true rfl]
  have s15 := s15.kept c15 (fun _ _ x => x)
  have c15 := c14.trans c15
  go_wp2_with fail
  refine (heldStringS_ok _ _ 1 V.length _ s15.read (by omega)).mono ?_
  rintro e w16 ⟨rfl, c16⟩
  have c16 := c15.trans c16
  go_wp2
  go_ret
  exact ⟨rfl, c16⟩

set_option maxHeartbeats 1000000 in
theorem walk (v : Value) (es : KV) (k x q : Bytes) (w : World) (hv : REnts All w v es) (hs : ∀ e ∈ es, e.1.length ≤ maxLen ∧ ∀ y ∈ e.2, y.length ≤ maxLen) (_ : k.length ≤ maxLen) (_ : x.length ≤ maxLen) (hq : q.length ≤ maxLen) :
    Calls Try.prog 7 #[v, encStr k, encStr x, encStr q] w (Ret (.bool true) w) := by
  by_cases h0 : k.length ≤ 1048576
  rotate_left
  · go_enter Try.func7, Try.ntmps7
    go_wp2
    go_ret
    exact ⟨rfl, Chg.refl _ _⟩
  by_cases h1 : x.length ≤ 1048576
  rotate_left
  · go_enter Try.func7, Try.ntmps7
    go_wp2
    go_ret
    exact ⟨rfl, Chg.refl _ _⟩
  by_cases h2 : q.length ≤ 1048576
  rotate_left
  · go_enter Try.func7, Try.ntmps7
    go_wp2
    go_ret
    exact ⟨rfl, Chg.refl _ _⟩
  by_cases hb : bulk es ≤ 1048576
  · exact main v es k x q w hv hs hq h0 h1 h2 hb
  · have HZ := Lib.hid (Uv.szR_no (by omega : 1048576 < bulk es))
    have HS := Lib.hid hs
    clear hs
    go_enter Try.func7, Try.ntmps7
    go_wp2_with fail
    refine (szEntryS_ok All v es 1048576 _ hv (Nat.le_refl _) HS.out).mono ?_
    rintro e w1 ⟨rfl, c1⟩
    rw [HZ.out]
    go_wp2
    go_ret
    exact ⟨rfl, c1⟩
end Go.Proofs.Ytancnngphdakgaa.fnExactSet
