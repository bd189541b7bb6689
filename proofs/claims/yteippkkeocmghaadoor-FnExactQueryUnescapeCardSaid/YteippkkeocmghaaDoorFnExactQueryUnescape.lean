/-
  laws.FnExactQueryUnescape's walk: for every text the law returns true, and writes nothing that was there.
-/
import Derived.Test.YteippkkeocmghaaDoorUnesc
import Derived.Test.YteippkkeocmghaaDoorSpecUn
import Derived.OpenShut
import Derived.ProofKit
import Derived.ShutString
import Derived.Below
namespace Go.Proofs.YteippkkeocmghaaDoor.fnExactQueryUnescape
open Go.RowKit
open Uv (Bytes un unT)

set_option maxHeartbeats 400000 in
theorem walk (s : Bytes) (w : World) (hm : s.length ≤ maxLen) (hT : Tab w) : Calls Tryd.prog 5 #[encStr s] w (Ret (.bool true) w) := by
  unfold maxLen at hm
  by_cases hs : s.length ≤ 1048576
  · go_enter Tryd.func5, Tryd.ntmps5
    go_wp2_with fail
    refine (specQueryUnescape_ok s _ (by omega)).mono ?_
    rintro e w1 ⟨rfl, c1⟩
    have hT1 := hT.new c1
    go_wp2_with fail
    refine (implQueryUnescape_ok s _ hT1 (by omega)).mono ?_
    rintro e w2 ⟨rfl, c2⟩
    have hb : (!unT s == unT s) = false := by simp
    generalize (un s).isSome = b at *
    have hc : (b != b) = false := by simp
    go_wp2
    go_ret
    exact ⟨rfl, c1.trans c2⟩
  · go_enter Tryd.func5, Tryd.ntmps5
    go_wp2
    go_ret
    exact ⟨rfl, Chg.refl _ _⟩
end Go.Proofs.YteippkkeocmghaaDoor.fnExactQueryUnescape
