/-
  DERIVED. GIVEN WITH THE SEED: THE CARDS: each row of YtoeilmegjjmnkaaDoorRows.lean that lists a variable, with what it lists TIED to the program's text (the seventh form; the later family's looks); each row that meets fmt, with fmt's text TOLD by the authors' own Lean function (tested against real Go, not proved from fmt's source: count such statements apart). THE CARD IS WHAT COUNTS. Prove the row's statement (the work); the ties are given (YtoeilmegjjmnkaaDoorTie.lean); close each card by the builder's one call (the guide's Derived/Test/ToyasCard.lean, 'card_holds'). Laid BY PROGRAM, IN A SANDBOX (cutbox-door.mjs). By AI agents, Wed Nov 11 2026. No macro, syntax, notation, axiom, sorry.
-/
import Derived.Test.YtoeilmegjjmnkaaDoorRows
import GoSem.ClaimSeven
namespace Go.Proofs.YtoeilmegjjmnkaaDoor
namespace Rows

/-- THE TIED CARD OF 'laws.FnEncodeOrder'. -/
def fnEncodeOrderCard : Claim7 := { stood := { row := fnEncodeOrderRow, standIns := [], harness := (true, "4503aec3db3e3232603e72a814170a4f915139c151f1c5e2666fa873f3f7c6e3"), looks := false }, kinds := [], alts := [], laidByText := true, laidKinds := [.data], laidTests := true, laidLooks := .later }
def FnEncodeOrderCardSaid : Prop := Claim7.holds Tryd.pinned (.plain (OpenSpec.ofChange fnEncodeOrderSpec)) fnEncodeOrderCard

/-- THE TIED CARD OF 'laws.FnEncodeSafe'. -/
def fnEncodeSafeCard : Claim7 := { stood := { row := fnEncodeSafeRow, standIns := [], harness := (true, "4503aec3db3e3232603e72a814170a4f915139c151f1c5e2666fa873f3f7c6e3"), looks := false }, kinds := [], alts := [], laidByText := true, laidKinds := [.data], laidTests := true, laidLooks := .later }
def FnEncodeSafeCardSaid : Prop := Claim7.holds Tryd.pinned (.plain (OpenSpec.ofChange fnEncodeSafeSpec)) fnEncodeSafeCard

/-- THE TIED CARD OF 'laws.FnExactEncode'. -/
def fnExactEncodeCard : Claim7 := { stood := { row := fnExactEncodeRow, standIns := [], harness := (true, "4503aec3db3e3232603e72a814170a4f915139c151f1c5e2666fa873f3f7c6e3"), looks := false }, kinds := [], alts := [], laidByText := true, laidKinds := [.data], laidTests := true, laidLooks := .later }
def FnExactEncodeCardSaid : Prop := Claim7.holds Tryd.pinned (.plain (OpenSpec.ofChange fnExactEncodeSpec)) fnExactEncodeCard

/-- THE TIED CARD OF 'laws.FnEncodeOne'. -/
def fnEncodeOneCard : Claim7 := { stood := { row := fnEncodeOneRow, standIns := [], harness := (true, "4503aec3db3e3232603e72a814170a4f915139c151f1c5e2666fa873f3f7c6e3"), looks := false }, kinds := [], alts := [], laidByText := true, laidKinds := [.data], laidTests := true, laidLooks := .later }
def FnEncodeOneCardSaid : Prop := Claim7.holds Tryd.pinned (.plain (OpenSpec.ofChange fnEncodeOneSpec)) fnEncodeOneCard

/-- THE TIED CARD OF 'laws.FnEncodeTwo'. -/
def fnEncodeTwoCard : Claim7 := { stood := { row := fnEncodeTwoRow, standIns := [], harness := (true, "4503aec3db3e3232603e72a814170a4f915139c151f1c5e2666fa873f3f7c6e3"), looks := false }, kinds := [], alts := [], laidByText := true, laidKinds := [.data], laidTests := true, laidLooks := .later }
def FnEncodeTwoCardSaid : Prop := Claim7.holds Tryd.pinned (.plain (OpenSpec.ofChange fnEncodeTwoSpec)) fnEncodeTwoCard

/-- THE TIED CARD OF 'laws.FnEncodeEmpty'. -/
def fnEncodeEmptyCard : Claim7 := { stood := { row := fnEncodeEmptyRow, standIns := [], harness := (true, "4503aec3db3e3232603e72a814170a4f915139c151f1c5e2666fa873f3f7c6e3"), looks := false }, kinds := [], alts := [], laidByText := true, laidKinds := [.data], laidTests := true, laidLooks := .later }
def FnEncodeEmptyCardSaid : Prop := Claim7.holds Tryd.pinned (.plain (OpenSpec.ofChange fnEncodeEmptySpec)) fnEncodeEmptyCard

/-- THE SECOND FORM's CARD OF 'laws.FnEncodeOrder'. -/
def fnEncodeOrderUptoCard : Claim7 := { stood := { row := fnEncodeOrderUptoRow, standIns := [], harness := (true, "4503aec3db3e3232603e72a814170a4f915139c151f1c5e2666fa873f3f7c6e3"), looks := false }, kinds := [], alts := [], laidByText := true, laidKinds := [.data], laidTests := true, laidLooks := .later }
def FnEncodeOrderUptoCardSaid : Prop := Claim7.holds Tryd.pinned (.plain (OpenSpec.upto fnEncodeOrderSpec)) fnEncodeOrderUptoCard

/-- THE SECOND FORM's CARD OF 'laws.FnEncodeSafe'. -/
def fnEncodeSafeUptoCard : Claim7 := { stood := { row := fnEncodeSafeUptoRow, standIns := [], harness := (true, "4503aec3db3e3232603e72a814170a4f915139c151f1c5e2666fa873f3f7c6e3"), looks := false }, kinds := [], alts := [], laidByText := true, laidKinds := [.data], laidTests := true, laidLooks := .later }
def FnEncodeSafeUptoCardSaid : Prop := Claim7.holds Tryd.pinned (.plain (OpenSpec.upto fnEncodeSafeSpec)) fnEncodeSafeUptoCard

/-- THE SECOND FORM's CARD OF 'laws.FnExactEncode'. -/
def fnExactEncodeUptoCard : Claim7 := { stood := { row := fnExactEncodeUptoRow, standIns := [], harness := (true, "4503aec3db3e3232603e72a814170a4f915139c151f1c5e2666fa873f3f7c6e3"), looks := false }, kinds := [], alts := [], laidByText := true, laidKinds := [.data], laidTests := true, laidLooks := .later }
def FnExactEncodeUptoCardSaid : Prop := Claim7.holds Tryd.pinned (.plain (OpenSpec.upto fnExactEncodeSpec)) fnExactEncodeUptoCard

/-- THE SECOND FORM's CARD OF 'laws.FnEncodeOne'. -/
def fnEncodeOneUptoCard : Claim7 := { stood := { row := fnEncodeOneUptoRow, standIns := [], harness := (true, "4503aec3db3e3232603e72a814170a4f915139c151f1c5e2666fa873f3f7c6e3"), looks := false }, kinds := [], alts := [], laidByText := true, laidKinds := [.data], laidTests := true, laidLooks := .later }
def FnEncodeOneUptoCardSaid : Prop := Claim7.holds Tryd.pinned (.plain (OpenSpec.upto fnEncodeOneSpec)) fnEncodeOneUptoCard

/-- THE SECOND FORM's CARD OF 'laws.FnEncodeTwo'. -/
def fnEncodeTwoUptoCard : Claim7 := { stood := { row := fnEncodeTwoUptoRow, standIns := [], harness := (true, "4503aec3db3e3232603e72a814170a4f915139c151f1c5e2666fa873f3f7c6e3"), looks := false }, kinds := [], alts := [], laidByText := true, laidKinds := [.data], laidTests := true, laidLooks := .later }
def FnEncodeTwoUptoCardSaid : Prop := Claim7.holds Tryd.pinned (.plain (OpenSpec.upto fnEncodeTwoSpec)) fnEncodeTwoUptoCard

/-- THE SECOND FORM's CARD OF 'laws.FnEncodeEmpty'. -/
def fnEncodeEmptyUptoCard : Claim7 := { stood := { row := fnEncodeEmptyUptoRow, standIns := [], harness := (true, "4503aec3db3e3232603e72a814170a4f915139c151f1c5e2666fa873f3f7c6e3"), looks := false }, kinds := [], alts := [], laidByText := true, laidKinds := [.data], laidTests := true, laidLooks := .later }
def FnEncodeEmptyUptoCardSaid : Prop := Claim7.holds Tryd.pinned (.plain (OpenSpec.upto fnEncodeEmptySpec)) fnEncodeEmptyUptoCard
end Rows
end Go.Proofs.YtoeilmegjjmnkaaDoor
