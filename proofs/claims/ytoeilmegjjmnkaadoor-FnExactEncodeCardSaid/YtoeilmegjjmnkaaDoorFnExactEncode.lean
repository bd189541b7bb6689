/-
  FnExactEncode's walk: for every list of entries the law returns true, and writes nothing that was there. No condition.
-/
import Derived.Test.YtoeilmegjjmnkaaDoorOpen
import Derived.Test.YtoeilmegjjmnkaaDoorEncode
import Derived.Test.YtoeilmegjjmnkaaDoorSpecEnc
import Derived.Test.YtoeilmegjjmnkaaDoorToEnt
import Derived.Test.YtoeilmegjjmnkaaDoorSz
import Derived.Test.YtoeilmegjjmnkaaDoorEqEnt
namespace Go.Proofs.YtoeilmegjjmnkaaDoor.fnExactEncode
open Go.RowKit
open Uv (Bytes Ent KV lk vals bulk bulkS kept szR enc)

set_option maxHeartbeats 1000000 in
theorem walk (v : Value) (es : KV) (w : World) (hv : REnts All w v es) (hs : ∀ e ∈ es, e.1.length ≤ maxLen ∧ ∀ y ∈ e.2, y.length ≤ maxLen) (hT : Tab w) :
    Calls Tryd.prog 5 #[v] w (Ret (.bool true) w) := by
  by_cases hb : bulk es ≤ 1048576
  · have HZ := Lib.hid (Uv.szR_yes hb)
    have hN : bulk es ≤ 4194304 := by omega
    have HS := Lib.hid hs
    clear hs
    go_enter Tryd.func5, Tryd.ntmps5
    go_wp2_with fail
    refine (szEntryS_ok All v es 1048576 _ hv (Nat.le_refl _) HS.out).mono ?_
    rintro e w1 ⟨rfl, c1⟩
    rw [HZ.out]
    go_wp2_with fail
    refine (toEntryS_ok All v es _ (hv.new c1) hN).mono ?_
    rintro e w2 ⟨a2, k2, rfl, o2, c2⟩
    have c2 := c1.trans c2
    go_wp2_with fail
    refine (specEncode_ok _ _ es _ o2.read hN).mono ?_
    rintro e w3 ⟨rfl, c3⟩
    have c3 := c2.trans c3
    go_wp2_with fail
    refine (toEntryS_ok All v es _ (hv.new c3) hN).mono ?_
    rintro e w4 ⟨a4, k4, rfl, o4, c4⟩
    have c4 := c3.trans c4
    go_wp2_with fail
    refine (implEncode_ok _ _ es _ o4.read (hT.new c4) hN).mono ?_
    rintro e w5 ⟨rfl, c5⟩
    have o5 := o4.new c5
    have c5 := c4.trans c5
    have hbb : (!enc (kept es) == enc (kept es)) = false := by simp
    go_wp2_with fail
    refine (toEntryS_ok All v es _ (hv.new c5) hN).mono ?_
    rintro e w6 ⟨a6, k6, rfl, o6, c6⟩
    have o5 := o5.new c6
    have c6 := c5.trans c6
    go_wp2_with fail
    refine (eqEntryS_ok _ _ _ _ es es _ o5.read o6.read).mono ?_
    rintro e w7 ⟨rfl, c7⟩
    rw [decide_eq_true rfl]
    go_wp2
    go_ret
    exact ⟨rfl, c6.trans c7⟩
  · have HZ := Lib.hid (Uv.szR_no (by omega : 1048576 < bulk es))
    have HS := Lib.hid hs
    clear hs
    go_enter Tryd.func5, Tryd.ntmps5
    go_wp2_with fail
    refine (szEntryS_ok All v es 1048576 _ hv (Nat.le_refl _) HS.out).mono ?_
    rintro e w1 ⟨rfl, c1⟩
    rw [HZ.out]
    go_wp2
    go_ret
    exact ⟨rfl, c1⟩
end Go.Proofs.YtoeilmegjjmnkaaDoor.fnExactEncode
