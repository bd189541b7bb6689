/-
  The thin package's calls: Get, Has, Add, Set, Del.
-/
import Derived.Test.YtbnefebheecccaaDoorEnts
namespace Go.Proofs.YtbnefebheecccaaDoor
open Go.RowKit
open Uv (Bytes Ent KV lk vals has addAll del sett add keys Uniq bulk bulkS kept)

theorem kept_small {es : KV} (hN : bulk es ≤ 4194304) : (kept es).length < maxLen := by
  have := Uv.length_le_bulk (kept es)
  have := Uv.bulk_kept es
  unfold maxLen
  omega

theorem implGet_ok (F : Nat → Prop) (v : Value) (es : KV) (k : Bytes) (w : World) (hv : REnts F w v es) (hN : ValOk es) (hk : k.length ≤ maxLen) :
    Calls Tryd.prog 22 #[v, encStr k] w (Ret (encStr (Uv.hd (vals (kept es) k))) w) := by
  go_enter Tryd.func22, Tryd.ntmps22
  go_wp2_with (first | (go_at_call 29; refine (values_ok F v es _ hv hN).mono ?_; rintro e w1 ⟨b, rfl, hM, hc⟩) | (go_at_call 35; refine (vGet_ok _ _ _ k _ hM hk).mono ?_; rintro e w2 ⟨rfl, hc2⟩))
  go_ret
  exact ⟨rfl, hc.trans hc2⟩

theorem implHas_ok (F : Nat → Prop) (v : Value) (es : KV) (k : Bytes) (w : World) (hv : REnts F w v es) (hN : ValOk es) (hk : k.length ≤ maxLen) :
    Calls Tryd.prog 23 #[v, encStr k] w (Ret (.bool (has (kept es) k)) w) := by
  go_enter Tryd.func23, Tryd.ntmps23
  go_wp2_with (first | (go_at_call 29; refine (values_ok F v es _ hv hN).mono ?_; rintro e w1 ⟨b, rfl, hM, hc⟩) | (go_at_call 36; refine (vHas_ok _ _ _ k _ hM hk).mono ?_; rintro e w2 ⟨rfl, hc2⟩))
  go_ret
  exact ⟨rfl, hc.trans hc2⟩

theorem made_chg {w w1 w2 : World} (hc : Chg None w w1) (hc2 : Chg (fun g => w.heap.size ≤ g) w1 w2) : Chg None w w2 := hc.then hc2 (fun _ hi h => absurd hi (Nat.not_lt.2 h))
theorem texts_after {w w2 w3 : World} {a : Option Addr} {n cap : Nat} {ss : List Bytes} (hc : Chg None w w2) (h : OStrs (fun g => w2.heap.size ≤ g) w3 (.slice a n cap) ss) : OStrs (fun g => w.heap.size ≤ g) w3 (.slice a n cap) ss :=
  h.mono (fun _ _ hg => Nat.le_trans hc.size hg)

theorem implAdd_ok (F : Nat → Prop) (v : Value) (es : KV) (k x q : Bytes) (w : World) (hv : REnts F w v es) (hN : bulk es + k.length + x.length + 2 ≤ 4194304) (hq : q.length ≤ maxLen) :
    Calls Tryd.prog 18 #[v, encStr k, encStr x, encStr q] w (TextsPost (vals (add (kept es) k x) q) (has (add (kept es) k x) q) w) := by
  have hkl : k.length ≤ maxLen := by unfold maxLen; omega
  have h1 := Uv.bulk_kept es
  have h2 := Uv.length_vals (kept es) k
  have h3 := Uv.bulk_add (kept es) k x
  have h4 := Uv.length_vals (add (kept es) k x) q
  go_enter Tryd.func18, Tryd.ntmps18
  go_wp2_with (first | (go_at_call 29; refine (values_ok F v es _ hv (valOk_of_bulk (by omega))).mono ?_; rintro e w1 ⟨b, rfl, hM, hc⟩) | (go_at_call 31; refine (vAdd_ok _ _ _ k x _ hM hkl (kept_small (by omega)) (by omega)).mono ?_; rintro e w2 ⟨rfl, hM2, hc2⟩) | (go_at_call 32; refine (asked_ok _ _ _ q _ hM2 hq (by omega)).mono ?_; rintro e w3 ⟨a, cap, rfl, hs, hc3⟩))
  go_ret2
  exact ⟨a, cap, rfl, texts_after (made_chg hc hc2) hs, (made_chg hc hc2).none hc3⟩

theorem implSet_ok (F : Nat → Prop) (v : Value) (es : KV) (k x q : Bytes) (w : World) (hv : REnts F w v es) (hN : bulk es + k.length + x.length + 2 ≤ 4194304) (hq : q.length ≤ maxLen) :
    Calls Tryd.prog 28 #[v, encStr k, encStr x, encStr q] w (TextsPost (vals (sett (kept es) k x) q) (has (sett (kept es) k x) q) w) := by
  have hkl : k.length ≤ maxLen := by unfold maxLen; omega
  have h1 := Uv.bulk_kept es
  have h3 := Uv.bulk_sett (kept es) k x
  have h4 := Uv.length_vals (sett (kept es) k x) q
  go_enter Tryd.func28, Tryd.ntmps28
  go_wp2_with (first | (go_at_call 29; refine (values_ok F v es _ hv (valOk_of_bulk (by omega))).mono ?_; rintro e w1 ⟨b, rfl, hM, hc⟩) | (go_at_call 33; refine (vSet_ok _ _ _ k x _ hM hkl (kept_small (by omega))).mono ?_; rintro e w2 ⟨rfl, hM2, hc2⟩) | (go_at_call 32; refine (asked_ok _ _ _ q _ hM2 hq (by omega)).mono ?_; rintro e w3 ⟨a, cap, rfl, hs, hc3⟩))
  go_ret2
  exact ⟨a, cap, rfl, texts_after (made_chg hc hc2) hs, (made_chg hc hc2).none hc3⟩

theorem implDel_ok (F : Nat → Prop) (v : Value) (es : KV) (k q : Bytes) (w : World) (hv : REnts F w v es) (hN : bulk es ≤ 4194304) (hkl : k.length ≤ maxLen) (hq : q.length ≤ maxLen) :
    Calls Tryd.prog 21 #[v, encStr k, encStr q] w (TextsPost (vals (del (kept es) k) q) (has (del (kept es) k) q) w) := by
  have h1 := Uv.bulk_kept es
  have h3 := Uv.bulk_del (kept es) k
  have h4 := Uv.length_vals (del (kept es) k) q
  go_enter Tryd.func21, Tryd.ntmps21
  go_wp2_with (first | (go_at_call 29; refine (values_ok F v es _ hv (valOk_of_bulk (by omega))).mono ?_; rintro e w1 ⟨b, rfl, hM, hc⟩) | (go_at_call 34; refine (vDel_ok _ _ _ k _ hM hkl).mono ?_; rintro e w2 ⟨rfl, hM2, hc2⟩) | (go_at_call 32; refine (asked_ok _ _ _ q _ hM2 hq (by omega)).mono ?_; rintro e w3 ⟨a, cap, rfl, hs, hc3⟩))
  go_ret2
  exact ⟨a, cap, rfl, texts_after (made_chg hc hc2) hs, (made_chg hc hc2).none hc3⟩
end Go.Proofs.YtbnefebheecccaaDoor
