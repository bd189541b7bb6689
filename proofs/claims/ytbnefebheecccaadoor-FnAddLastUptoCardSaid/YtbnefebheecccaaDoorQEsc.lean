/-
  net/url.QueryEscape and the thin package's.
-/
import Derived.Test.YtbnefebheecccaaDoorEsc
namespace Go.Proofs.YtbnefebheecccaaDoor
open Go.RowKit
open Uv (Bytes esc)

theorem urlQueryEscape_ok (s : Bytes) (w : World) (hT : Tab w) (hs : s.length ≤ 10000000000) : Calls Tryd.prog 38 #[encStr s] w (Ret (encStr (esc s)) w) := by
  go_enter Tryd.func38, Tryd.ntmps38
  go_wp2_with (go_at_call 44; refine (escape_ok s _ hT hs).mono ?_; rintro e w1 ⟨rfl, hc⟩)
  go_ret
  exact ⟨rfl, hc⟩
theorem implQueryEscape_ok (s : Bytes) (w : World) (hT : Tab w) (hs : s.length ≤ 10000000000) : Calls Tryd.prog 27 #[encStr s] w (Ret (encStr (esc s)) w) := by
  go_enter Tryd.func27, Tryd.ntmps27
  go_wp2_with (go_at_call 38; refine (urlQueryEscape_ok s _ hT hs).mono ?_; rintro e w1 ⟨rfl, hc⟩)
  go_ret
  exact ⟨rfl, hc⟩
end Go.Proofs.YtbnefebheecccaaDoor
