/-
  DERIVED. GIVEN WITH THE SEED: THE PROGRAM's TIES (one call each: nine closed facts by the kernel) AND EACH ROW's TIE, after the 31st guide's Derived/Test/Toyas{Tie, Card}.lean. No idea stands in it: it is a product of the set-up. Laid BY PROGRAM, IN A SANDBOX (cutbox-door.mjs). By AI agents, Wed Nov 11 2026. No macro, syntax, notation, axiom, sorry.
-/
import Derived.Test.YtoeilmegjjmnkaaDoorRows
import Derived.LaidByTextLater
import Derived.SevenTiedAt
import Derived.LaidSub
import Derived.LaidOnce
namespace Go.Proofs.YtoeilmegjjmnkaaDoor
open Go
set_option maxRecDepth 100000
theorem seatTie1 : Tryd.prog.laidByTextLater [("net/url.table", Rows.laid_net_url_table)] [.data] true :=
  Program.laidByTextLater_by_one 14 8 257 (by kernel_rfl) (by kernel_rfl) (by kernel_rfl) (by kernel_rfl) (by kernel_rfl) (by kernel_rfl) (fun _ _ => by kernel_rfl)
theorem noOwnUnsafe : Tryd.pinned.checked.prog.headLifts.contains "ownunsafe" = false := by kernel_rfl
theorem tie : Tryd.prog.laidByTextLater [("net/url.table", Rows.laid_net_url_table)] [.data] true :=
  Program.laidByTextLater.sub seatTie1 ["net/url.table"] (by kernel_rfl) (by kernel_rfl)
theorem fnEncodeOrder_row_tie : Rows.fnEncodeOrderRow.laidByTextAt .later Tryd.pinned [.data] true :=
  OpenClaim.laidByTextAt_later rfl rfl tie noOwnUnsafe
theorem fnEncodeSafe_row_tie : Rows.fnEncodeSafeRow.laidByTextAt .later Tryd.pinned [.data] true :=
  OpenClaim.laidByTextAt_later rfl rfl tie noOwnUnsafe
theorem fnExactEncode_row_tie : Rows.fnExactEncodeRow.laidByTextAt .later Tryd.pinned [.data] true :=
  OpenClaim.laidByTextAt_later rfl rfl tie noOwnUnsafe
theorem fnEncodeOne_row_tie : Rows.fnEncodeOneRow.laidByTextAt .later Tryd.pinned [.data] true :=
  OpenClaim.laidByTextAt_later rfl rfl tie noOwnUnsafe
theorem fnEncodeTwo_row_tie : Rows.fnEncodeTwoRow.laidByTextAt .later Tryd.pinned [.data] true :=
  OpenClaim.laidByTextAt_later rfl rfl tie noOwnUnsafe
theorem fnEncodeEmpty_row_tie : Rows.fnEncodeEmptyRow.laidByTextAt .later Tryd.pinned [.data] true :=
  OpenClaim.laidByTextAt_later rfl rfl tie noOwnUnsafe
theorem fnEncodeOrderUpto_row_tie : Rows.fnEncodeOrderUptoRow.laidByTextAt .later Tryd.pinned [.data] true :=
  OpenClaim.laidByTextAt_later rfl rfl tie noOwnUnsafe
theorem fnEncodeSafeUpto_row_tie : Rows.fnEncodeSafeUptoRow.laidByTextAt .later Tryd.pinned [.data] true :=
  OpenClaim.laidByTextAt_later rfl rfl tie noOwnUnsafe
theorem fnExactEncodeUpto_row_tie : Rows.fnExactEncodeUptoRow.laidByTextAt .later Tryd.pinned [.data] true :=
  OpenClaim.laidByTextAt_later rfl rfl tie noOwnUnsafe
theorem fnEncodeOneUpto_row_tie : Rows.fnEncodeOneUptoRow.laidByTextAt .later Tryd.pinned [.data] true :=
  OpenClaim.laidByTextAt_later rfl rfl tie noOwnUnsafe
theorem fnEncodeTwoUpto_row_tie : Rows.fnEncodeTwoUptoRow.laidByTextAt .later Tryd.pinned [.data] true :=
  OpenClaim.laidByTextAt_later rfl rfl tie noOwnUnsafe
theorem fnEncodeEmptyUpto_row_tie : Rows.fnEncodeEmptyUptoRow.laidByTextAt .later Tryd.pinned [.data] true :=
  OpenClaim.laidByTextAt_later rfl rfl tie noOwnUnsafe
end Go.Proofs.YtoeilmegjjmnkaaDoor
