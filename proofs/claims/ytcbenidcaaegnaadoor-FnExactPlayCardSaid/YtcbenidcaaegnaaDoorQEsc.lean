/-
  net/url.QueryEscape and the thin package's.
-/
import Derived.Test.YtcbenidcaaegnaaDoorEsc
namespace Go.Proofs.YtcbenidcaaegnaaDoor
open Go.RowKit
open Uv (Bytes esc)

theorem urlQueryEscape_ok (s : Bytes) (w : World) (hT : Tab w) (hs : s.length ≤ 10000000000) : Calls Tryd.prog 52 #[encStr s] w (Ret (encStr (esc s)) w) := by
  go_enter Tryd.func52, Tryd.ntmps52
  go_wp2_with (go_at_call 66; refine (escape_ok s _ hT hs).mono ?_; rintro e w1 ⟨rfl, hc⟩)
  go_ret
  exact ⟨rfl, hc⟩
end Go.Proofs.YtcbenidcaaegnaaDoor
