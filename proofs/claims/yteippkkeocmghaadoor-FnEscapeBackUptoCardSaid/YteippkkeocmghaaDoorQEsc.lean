/-
  net/url.QueryEscape and the thin package's.
-/
import Derived.Test.YteippkkeocmghaaDoorEsc
namespace Go.Proofs.YteippkkeocmghaaDoor
open Go.RowKit
open Uv (Bytes esc)

theorem urlQueryEscape_ok (s : Bytes) (w : World) (hT : Tab w) (hs : s.length ≤ 10000000000) : Calls Tryd.prog 11 #[encStr s] w (Ret (encStr (esc s)) w) := by
  go_enter Tryd.func11, Tryd.ntmps11
  go_wp2_with (go_at_call 16; refine (escape_ok s _ hT hs).mono ?_; rintro e w1 ⟨rfl, hc⟩)
  go_ret
  exact ⟨rfl, hc⟩
theorem implQueryEscape_ok (s : Bytes) (w : World) (hT : Tab w) (hs : s.length ≤ 10000000000) : Calls Tryd.prog 7 #[encStr s] w (Ret (encStr (esc s)) w) := by
  go_enter Tryd.func7, Tryd.ntmps7
  go_wp2_with (go_at_call 11; refine (urlQueryEscape_ok s _ hT hs).mono ?_; rintro e w1 ⟨rfl, hc⟩)
  go_ret
  exact ⟨rfl, hc⟩
end Go.Proofs.YteippkkeocmghaaDoor
