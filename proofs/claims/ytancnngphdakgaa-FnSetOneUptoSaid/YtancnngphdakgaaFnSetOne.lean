/-
  FnSetOne: where keys, values and texts are of bulk at most 1048576 the law returns true, and writes nothing that was there.
-/
import Derived.Test.YtancnngphdakgaaOpen
import Derived.Test.YtancnngphdakgaaEntries
import Derived.Test.YtancnngphdakgaaImpl
namespace Go.Proofs.Ytancnngphdakgaa.fnSetOne
open Go.RowKit
open Uv (Bytes Ent KV lk vals has sett bulk bulkS kept)

set_option maxHeartbeats 400000 in
theorem walk (kv : Value) (ks : List Bytes) (vv : Value) (vss : List (List Bytes)) (k x : Bytes) (w : World) (hk : RStrs All w kv ks) (hv : RTextss All w vv vss)
    (hb : bulkS ks + bulkSS vss + k.length + x.length ≤ 1048576) :
    Calls Try.prog 8 #[kv, vv, encStr k, encStr x] w (Ret (.bool true) w) := by
  have hz := Uv.bulk_zip ks bulkSS (fun _ _ => rfl) vss
  obtain ⟨es, hes⟩ : ∃ es, ks.zip vss = es := ⟨_, rfl⟩
  have hN0 : bulk (ks.zip vss) ≤ 4194304 := by omega
  rw [hes] at hz
  have HE := Lib.hid hes
  clear hes
  have H1 := Lib.hid (Uv.vals_sett_same (kept es) k x)
  go_enter Try.func8, Try.ntmps8
  go_wp2_with fail
  refine (entries_ok All _ _ ks vss _ hk hv hN0).mono ?_
  rw [HE.out]
  rintro e w1 ⟨a1, k1, rfl, o1, c1⟩
  go_wp2_with fail
  refine (implSet_ok _ _ es k x k _ o1.read (by omega) (by unfold maxLen; omega)).mono ?_
  rw [H1.out.1, H1.out.2]
  rintro e w2 ⟨a2, k2, rfl, s2, c2⟩
  have hnew : RStrs (fun _ => True) (w2.alloc (.cells #[encStr x] 9)) (.slice (some ⟨w2.heap.size, 0, none⟩) 1 1) [x] :=
    OStrs.read ⟨World.ownsRow_lit w2 #[encStr x] 1 (Nat.zero_le _) (by simp [maxLen]) rfl, fun _ _ => trivial⟩
  go_wp2_with fail
  refine (same_ok _ _ _ _ [x] [x] _ (s2.read.new ((Chg.refl _ _).alloc _)) hnew).mono ?_
  rintro e w3 ⟨rfl, c3⟩
  rw [decide_eq_true rfl]
  go_wp2
  go_ret
  exact ⟨rfl, ((c1.trans c2).alloc _).trans c3⟩
end Go.Proofs.Ytancnngphdakgaa.fnSetOne
