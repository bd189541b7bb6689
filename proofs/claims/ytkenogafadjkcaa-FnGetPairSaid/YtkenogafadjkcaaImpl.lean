/-
  The thin package's calls: Get, Has, Add, Set, Del.
-/
import Derived.Test.YtkenogafadjkcaaEnts
namespace Go.Proofs.Ytkenogafadjkcaa
open Go.RowKit
open Uv (Bytes Ent KV lk vals has addAll del sett add keys Uniq bulk bulkS kept)

theorem kept_small {es : KV} (hN : bulk es ≤ 4194304) : (kept es).length < maxLen := by
  have := Uv.length_le_bulk (kept es)
  have := Uv.bulk_kept es
  unfold maxLen
  omega

theorem implGet_ok (F : Nat → Prop) (v : Value) (es : KV) (k : Bytes) (w : World) (hv : REnts F w v es) (hN : ValOk es) (hk : k.length ≤ maxLen) :
    Calls Try.prog 5 #[v, encStr k] w (Ret (encStr (Uv.hd (vals (kept es) k))) w) := by
  go_enter Try.func5, Try.ntmps5
  go_wp2_with (first | (go_at_call 6; refine (values_ok F v es _ hv hN).mono ?_; rintro e w1 ⟨b, rfl, hM, hc⟩) | (go_at_call 8; refine (vGet_ok _ _ _ k _ hM hk).mono ?_; rintro e w2 ⟨rfl, hc2⟩))
  go_ret
  exact ⟨rfl, hc.trans hc2⟩

theorem implHas_ok (F : Nat → Prop) (v : Value) (es : KV) (k : Bytes) (w : World) (hv : REnts F w v es) (hN : ValOk es) (hk : k.length ≤ maxLen) :
    Calls Try.prog 4 #[v, encStr k] w (Ret (.bool (has (kept es) k)) w) := by
  go_enter Try.func4, Try.ntmps4
  go_wp2_with (first | (go_at_call 6; refine (values_ok F v es _ hv hN).mono ?_; rintro e w1 ⟨b, rfl, hM, hc⟩) | (go_at_call 7; refine (vHas_ok _ _ _ k _ hM hk).mono ?_; rintro e w2 ⟨rfl, hc2⟩))
  go_ret
  exact ⟨rfl, hc.trans hc2⟩

theorem made_chg {w w1 w2 : World} (hc : Chg None w w1) (hc2 : Chg (fun g => w.heap.size ≤ g) w1 w2) : Chg None w w2 := hc.then hc2 (fun _ hi h => absurd hi (Nat.not_lt.2 h))
theorem texts_after {w w2 w3 : World} {a : Option Addr} {n cap : Nat} {ss : List Bytes} (hc : Chg None w w2) (h : OStrs (fun g => w2.heap.size ≤ g) w3 (.slice a n cap) ss) : OStrs (fun g => w.heap.size ≤ g) w3 (.slice a n cap) ss :=
  h.mono (fun _ _ hg => Nat.le_trans hc.size hg)



end Go.Proofs.Ytkenogafadjkcaa
