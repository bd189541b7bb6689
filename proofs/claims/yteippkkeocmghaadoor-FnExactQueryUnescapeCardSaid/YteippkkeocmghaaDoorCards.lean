/-
  DERIVED. GIVEN WITH THE SEED: THE CARDS: each row of YteippkkeocmghaaDoorRows.lean that lists a variable, with what it lists TIED to the program's text (the seventh form; the later family's looks); each row that meets fmt, with fmt's text TOLD by the authors' own Lean function (tested against real Go, not proved from fmt's source: count such statements apart). THE CARD IS WHAT COUNTS. Prove the row's statement (the work); the ties are given (YteippkkeocmghaaDoorTie.lean); close each card by the builder's one call (the guide's Derived/Test/ToyasCard.lean, 'card_holds'). Laid BY PROGRAM, IN A SANDBOX (cutbox-door.mjs). By AI agents, Wed Nov 11 2026. No macro, syntax, notation, axiom, sorry.
-/
import Derived.Test.YteippkkeocmghaaDoorRows
import GoSem.ClaimSeven
namespace Go.Proofs.YteippkkeocmghaaDoor
namespace Rows

/-- THE TIED CARD OF 'laws.FnEscapeJoined'. -/
def fnEscapeJoinedCard : Claim7 := { stood := { row := fnEscapeJoinedRow, standIns := [], harness := (true, "de8134af451967a7275dd17c4548ede2936b5b9f92b9a774d191b5e17f62bd0e"), looks := false }, kinds := [], alts := [], laidByText := true, laidKinds := [.data], laidTests := true, laidLooks := .later }
def FnEscapeJoinedCardSaid : Prop := Claim7.holds Tryd.pinned (.plain (OpenSpec.ofChange fnEscapeJoinedSpec)) fnEscapeJoinedCard

/-- THE TIED CARD OF 'laws.FnExactQueryEscape'. -/
def fnExactQueryEscapeCard : Claim7 := { stood := { row := fnExactQueryEscapeRow, standIns := [], harness := (true, "de8134af451967a7275dd17c4548ede2936b5b9f92b9a774d191b5e17f62bd0e"), looks := false }, kinds := [], alts := [], laidByText := true, laidKinds := [.data], laidTests := true, laidLooks := .later }
def FnExactQueryEscapeCardSaid : Prop := Claim7.holds Tryd.pinned (.plain (OpenSpec.ofChange fnExactQueryEscapeSpec)) fnExactQueryEscapeCard

/-- THE TIED CARD OF 'laws.FnExactQueryUnescape'. -/
def fnExactQueryUnescapeCard : Claim7 := { stood := { row := fnExactQueryUnescapeRow, standIns := [], harness := (true, "de8134af451967a7275dd17c4548ede2936b5b9f92b9a774d191b5e17f62bd0e"), looks := false }, kinds := [], alts := [], laidByText := true, laidKinds := [.data], laidTests := true, laidLooks := .later }
def FnExactQueryUnescapeCardSaid : Prop := Claim7.holds Tryd.pinned (.plain (OpenSpec.ofChange fnExactQueryUnescapeSpec)) fnExactQueryUnescapeCard

/-- THE TIED CARD OF 'laws.FnEscapeBack'. -/
def fnEscapeBackCard : Claim7 := { stood := { row := fnEscapeBackRow, standIns := [], harness := (true, "de8134af451967a7275dd17c4548ede2936b5b9f92b9a774d191b5e17f62bd0e"), looks := false }, kinds := [], alts := [], laidByText := true, laidKinds := [.data], laidTests := true, laidLooks := .later }
def FnEscapeBackCardSaid : Prop := Claim7.holds Tryd.pinned (.plain (OpenSpec.ofChange fnEscapeBackSpec)) fnEscapeBackCard

/-- THE SECOND FORM's CARD OF 'laws.FnEscapeJoined'. -/
def fnEscapeJoinedUptoCard : Claim7 := { stood := { row := fnEscapeJoinedUptoRow, standIns := [], harness := (true, "de8134af451967a7275dd17c4548ede2936b5b9f92b9a774d191b5e17f62bd0e"), looks := false }, kinds := [], alts := [], laidByText := true, laidKinds := [.data], laidTests := true, laidLooks := .later }
def FnEscapeJoinedUptoCardSaid : Prop := Claim7.holds Tryd.pinned (.plain (OpenSpec.upto fnEscapeJoinedSpec)) fnEscapeJoinedUptoCard

/-- THE SECOND FORM's CARD OF 'laws.FnExactQueryEscape'. -/
def fnExactQueryEscapeUptoCard : Claim7 := { stood := { row := fnExactQueryEscapeUptoRow, standIns := [], harness := (true, "de8134af451967a7275dd17c4548ede2936b5b9f92b9a774d191b5e17f62bd0e"), looks := false }, kinds := [], alts := [], laidByText := true, laidKinds := [.data], laidTests := true, laidLooks := .later }
def FnExactQueryEscapeUptoCardSaid : Prop := Claim7.holds Tryd.pinned (.plain (OpenSpec.upto fnExactQueryEscapeSpec)) fnExactQueryEscapeUptoCard

/-- THE SECOND FORM's CARD OF 'laws.FnExactQueryUnescape'. -/
def fnExactQueryUnescapeUptoCard : Claim7 := { stood := { row := fnExactQueryUnescapeUptoRow, standIns := [], harness := (true, "de8134af451967a7275dd17c4548ede2936b5b9f92b9a774d191b5e17f62bd0e"), looks := false }, kinds := [], alts := [], laidByText := true, laidKinds := [.data], laidTests := true, laidLooks := .later }
def FnExactQueryUnescapeUptoCardSaid : Prop := Claim7.holds Tryd.pinned (.plain (OpenSpec.upto fnExactQueryUnescapeSpec)) fnExactQueryUnescapeUptoCard

/-- THE SECOND FORM's CARD OF 'laws.FnEscapeBack'. -/
def fnEscapeBackUptoCard : Claim7 := { stood := { row := fnEscapeBackUptoRow, standIns := [], harness := (true, "de8134af451967a7275dd17c4548ede2936b5b9f92b9a774d191b5e17f62bd0e"), looks := false }, kinds := [], alts := [], laidByText := true, laidKinds := [.data], laidTests := true, laidLooks := .later }
def FnEscapeBackUptoCardSaid : Prop := Claim7.holds Tryd.pinned (.plain (OpenSpec.upto fnEscapeBackSpec)) fnEscapeBackUptoCard
end Rows
end Go.Proofs.YteippkkeocmghaaDoor
