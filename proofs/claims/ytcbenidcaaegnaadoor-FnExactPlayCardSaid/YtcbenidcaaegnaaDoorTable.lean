/-
  net/url.table as it is laid; shouldEscape and ishex over it.
-/
import Derived.Test.YtcbenidcaaegnaaDoorRows
import Derived.Test.YtcbenidcaaegnaaDoorBase
import Derived.Test.YtcbenidcaaegnaaDoorEscPure
import Derived.Lib.LaidTab
namespace Go.Proofs.YtcbenidcaaegnaaDoor
open Go.RowKit
open Uv (Bytes safeB)

/-- the table's 256 numbers, as the row lists them -/
def tabL : List Int := match Rows.laid_net_url_table (H := Unit) with
  | .agg l => l.map fun d => match d with | .lit (.int _ z) => z | _ => 0
  | _ => []
theorem tabL_len : tabL.length = 256 := by decide +kernel
theorem gTab : Tryd.prog.globalNamed "net/url.table" = some 0 := by kernel_rfl
theorem gTabType : (Tryd.prog.globals[0]?).map (·.type) = some 125 := by kernel_rfl

/-- the variable's cells -/
def Tab (w : World) : Prop := ∀ c : UInt8, w.cell? ⟨0, c.toNat, none⟩ = some (.int .u8 (tabL.getD c.toNat 0))

theorem laid_tab : (Rows.laid_net_url_table : DataW Unit) = Lib.tabData .u8 tabL := by kernel_rfl

set_option maxRecDepth 100000 in
theorem tab_of {W : World} (h : laidMetH Tryd.prog [("net/url.table", Rows.laid_net_url_table)] W) : Tab W := by
  have h0 : laidMet Tryd.prog [("net/url.table", Rows.laid_net_url_table)] W := h
  rw [laid_tab] at h0
  have h1 : Lib.TabIs Tryd.prog W "net/url.table" .u8 tabL := Lib.tabIs_of_head (rest := []) (n := 256) gTab gTabType (by kernel_rfl) (e := 96) (by kernel_rfl) (by kernel_rfl) (by kernel_rfl) h0
  intro c
  exact h1.cell gTab c.toNat (by rw [tabL_len]; exact c.toNat_lt)

theorem Tab.kept {F : Nat → Prop} {w w' : World} (h : Tab w) (hc : Chg F w w') (hF : ¬ F 0) : Tab w' := fun c => hc.cell (h c) hF
theorem Tab.new {w w' : World} (h : Tab w) (hc : Chg None w w') : Tab w' := h.kept hc (fun x => x)

theorem byte_cases {p : UInt8 → Prop} (h : ∀ n, n < 256 → p (UInt8.ofNat n)) (c : UInt8) : p c := by
  have := h c.toNat c.toNat_lt
  rwa [UInt8.ofNat_toNat] at this

theorem tab_safe (c : UInt8) : (bits BinOp.and IntKind.u8 (tabL[c.toNat]?.getD 0) 32 == 0) = !safeB c := by
  revert c
  exact byte_cases (by decide +kernel)

theorem ret_bool' {x y : Bool} (h : x = y) : Ending.returned (.bool x) = .returned (.bool y) := by rw [h]

set_option maxHeartbeats 400000 in
theorem shouldEscape_ok (c : UInt8) (w : World) (hT : Tab w) : Calls Tryd.prog 70 #[.int .u8 c.toNat, .int .u8 32] w (fun e w' => e = .returned (.bool (!safeB c)) ∧ w = w') := by
  have h := hT c
  have hlt : (c.toNat : Int) < 256 := by have := c.toNat_lt; omega
  go_enter Tryd.func70, Tryd.ntmps70
  go_wp2
  go_ret
  exact ⟨ret_bool' (tab_safe c), rfl⟩
end Go.Proofs.YtcbenidcaaegnaaDoor
