/-
  laws.FnExactQueryEscape's walk: for every text the law returns true, and writes nothing that was there.
-/
import Derived.Test.YteippkkeocmghaaDoorQEsc
import Derived.Test.YteippkkeocmghaaDoorSpecEsc
import Derived.OpenShut
import Derived.ProofKit
import Derived.ShutString
import Derived.Below
namespace Go.Proofs.YteippkkeocmghaaDoor.fnExactQueryEscape
open Go.RowKit
open Uv (Bytes esc)

set_option maxHeartbeats 400000 in
theorem walk (s : Bytes) (w : World) (hm : s.length ≤ maxLen) (hT : Tab w) : Calls Tryd.prog 4 #[encStr s] w (Ret (.bool true) w) := by
  unfold maxLen at hm
  by_cases hs : s.length ≤ 1048576
  · go_enter Tryd.func4, Tryd.ntmps4
    go_wp2_with fail
    refine (specQueryEscape_ok s _ (by omega)).mono ?_
    rintro e w1 ⟨rfl, c1⟩
    have hT1 := hT.new c1
    have hb : (!esc s == esc s) = false := by simp
    go_wp2_with fail
    refine (implQueryEscape_ok s _ hT1 (by omega)).mono ?_
    rintro e w2 ⟨rfl, c2⟩
    go_wp2
    go_ret
    exact ⟨rfl, c1.trans c2⟩
  · go_enter Tryd.func4, Tryd.ntmps4
    go_wp2
    go_ret
    exact ⟨rfl, Chg.refl _ _⟩
end Go.Proofs.YteippkkeocmghaaDoor.fnExactQueryEscape
