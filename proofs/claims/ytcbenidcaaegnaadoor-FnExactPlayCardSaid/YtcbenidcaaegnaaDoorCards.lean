/-
  DERIVED. GIVEN WITH THE SEED: THE CARDS: each row of YtcbenidcaaegnaaDoorRows.lean that lists a variable, with what it lists TIED to the program's text (the seventh form; the later family's looks); each row that meets fmt, with fmt's text TOLD by the authors' own Lean function (tested against real Go, not proved from fmt's source: count such statements apart). THE CARD IS WHAT COUNTS. Prove the row's statement (the work); the ties are given (YtcbenidcaaegnaaDoorTie.lean); close each card by the builder's one call (the guide's Derived/Test/ToyasCard.lean, 'card_holds'). Laid BY PROGRAM, IN A SANDBOX (cutbox-door.mjs). By AI agents, Wed Nov 11 2026. No macro, syntax, notation, axiom, sorry.
-/
import Derived.Test.YtcbenidcaaegnaaDoorRows
import GoSem.ClaimSeven
namespace Go.Proofs.YtcbenidcaaegnaaDoor
namespace Rows

/-- THE TIED CARD OF 'laws.FnEncodeParts'. -/
def fnEncodePartsCard : Claim7 := { stood := { row := fnEncodePartsRow, standIns := [], harness := (true, "2f9b81ffd4c1ebb24fa7e8715e4299157ccd73d5465ef1fc9a9598bc8a86b4d9"), looks := false }, kinds := [], alts := [], laidByText := true, laidKinds := [.data], laidTests := true, laidLooks := .later }
def FnEncodePartsCardSaid : Prop := Claim7.holds Tryd.pinned (.plain (OpenSpec.ofChange fnEncodePartsSpec)) fnEncodePartsCard

/-- THE TIED CARD OF 'laws.FnExactPlay'. -/
def fnExactPlayCard : Claim7 := { stood := { row := fnExactPlayRow, standIns := [], harness := (true, "2f9b81ffd4c1ebb24fa7e8715e4299157ccd73d5465ef1fc9a9598bc8a86b4d9"), looks := false }, kinds := [], alts := [], laidByText := true, laidKinds := [.data], laidTests := true, laidLooks := .later }
def FnExactPlayCardSaid : Prop := Claim7.holds Tryd.pinned (.plain (OpenSpec.ofChange fnExactPlaySpec)) fnExactPlayCard

/-- THE SECOND FORM's CARD OF 'laws.FnEncodeParts'. -/
def fnEncodePartsUptoCard : Claim7 := { stood := { row := fnEncodePartsUptoRow, standIns := [], harness := (true, "2f9b81ffd4c1ebb24fa7e8715e4299157ccd73d5465ef1fc9a9598bc8a86b4d9"), looks := false }, kinds := [], alts := [], laidByText := true, laidKinds := [.data], laidTests := true, laidLooks := .later }
def FnEncodePartsUptoCardSaid : Prop := Claim7.holds Tryd.pinned (.plain (OpenSpec.upto fnEncodePartsSpec)) fnEncodePartsUptoCard

/-- THE SECOND FORM's CARD OF 'laws.FnExactPlay'. -/
def fnExactPlayUptoCard : Claim7 := { stood := { row := fnExactPlayUptoRow, standIns := [], harness := (true, "2f9b81ffd4c1ebb24fa7e8715e4299157ccd73d5465ef1fc9a9598bc8a86b4d9"), looks := false }, kinds := [], alts := [], laidByText := true, laidKinds := [.data], laidTests := true, laidLooks := .later }
def FnExactPlayUptoCardSaid : Prop := Claim7.holds Tryd.pinned (.plain (OpenSpec.upto fnExactPlaySpec)) fnExactPlayUptoCard
end Rows
end Go.Proofs.YtcbenidcaaegnaaDoor
