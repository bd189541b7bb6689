/-
  DERIVED. GIVEN WITH THE SEED: THE CARDS: each row of YtbnefebheecccaaDoorRows.lean that lists a variable, with what it lists TIED to the program's text (the seventh form; the later family's looks); each row that meets fmt, with fmt's text TOLD by the authors' own Lean function (tested against real Go, not proved from fmt's source: count such statements apart). THE CARD IS WHAT COUNTS. Prove the row's statement (the work); the ties are given (YtbnefebheecccaaDoorTie.lean); close each card by the builder's one call (the guide's Derived/Test/ToyasCard.lean, 'card_holds'). Laid BY PROGRAM, IN A SANDBOX (cutbox-door.mjs). By AI agents, Wed Nov 11 2026. No macro, syntax, notation, axiom, sorry.
-/
import Derived.Test.YtbnefebheecccaaDoorRows
import GoSem.ClaimSeven
namespace Go.Proofs.YtbnefebheecccaaDoor
namespace Rows

/-- THE TIED CARD OF 'laws.FnEncodeApart'. -/
def fnEncodeApartCard : Claim7 := { stood := { row := fnEncodeApartRow, standIns := [], harness := (true, "f4f17cfc705a601de5bfc4acd375b2f1179713bc6d0bcc50ced318d98b7cc8f4"), looks := false }, kinds := [], alts := [], laidByText := true, laidKinds := [.data], laidTests := true, laidLooks := .later }
def FnEncodeApartCardSaid : Prop := Claim7.holds Tryd.pinned (.plain (OpenSpec.ofChange fnEncodeApartSpec)) fnEncodeApartCard

/-- THE TIED CARD OF 'laws.FnPlayRoads'. -/
def fnPlayRoadsCard : Claim7 := { stood := { row := fnPlayRoadsRow, standIns := [], harness := (true, "f4f17cfc705a601de5bfc4acd375b2f1179713bc6d0bcc50ced318d98b7cc8f4"), looks := false }, kinds := [], alts := [], laidByText := true, laidKinds := [.data], laidTests := true, laidLooks := .later }
def FnPlayRoadsCardSaid : Prop := Claim7.holds Tryd.pinned (.plain (OpenSpec.ofChange fnPlayRoadsSpec)) fnPlayRoadsCard

/-- THE TIED CARD OF 'laws.FnAddTwice'. -/
def fnAddTwiceCard : Claim7 := { stood := { row := fnAddTwiceRow, standIns := [], harness := (true, "f4f17cfc705a601de5bfc4acd375b2f1179713bc6d0bcc50ced318d98b7cc8f4"), looks := false }, kinds := [], alts := [], laidByText := true, laidKinds := [.data], laidTests := true, laidLooks := .later }
def FnAddTwiceCardSaid : Prop := Claim7.holds Tryd.pinned (.plain (OpenSpec.ofChange fnAddTwiceSpec)) fnAddTwiceCard

/-- THE TIED CARD OF 'laws.FnCase'. -/
def fnCaseCard : Claim7 := { stood := { row := fnCaseRow, standIns := [], harness := (true, "f4f17cfc705a601de5bfc4acd375b2f1179713bc6d0bcc50ced318d98b7cc8f4"), looks := false }, kinds := [], alts := [], laidByText := true, laidKinds := [.data], laidTests := true, laidLooks := .later }
def FnCaseCardSaid : Prop := Claim7.holds Tryd.pinned (.plain (OpenSpec.ofChange fnCaseSpec)) fnCaseCard

/-- THE TIED CARD OF 'laws.FnSetRoads'. -/
def fnSetRoadsCard : Claim7 := { stood := { row := fnSetRoadsRow, standIns := [], harness := (true, "f4f17cfc705a601de5bfc4acd375b2f1179713bc6d0bcc50ced318d98b7cc8f4"), looks := false }, kinds := [], alts := [], laidByText := true, laidKinds := [.data], laidTests := true, laidLooks := .later }
def FnSetRoadsCardSaid : Prop := Claim7.holds Tryd.pinned (.plain (OpenSpec.ofChange fnSetRoadsSpec)) fnSetRoadsCard

/-- THE TIED CARD OF 'laws.FnAddDel'. -/
def fnAddDelCard : Claim7 := { stood := { row := fnAddDelRow, standIns := [], harness := (true, "f4f17cfc705a601de5bfc4acd375b2f1179713bc6d0bcc50ced318d98b7cc8f4"), looks := false }, kinds := [], alts := [], laidByText := true, laidKinds := [.data], laidTests := true, laidLooks := .later }
def FnAddDelCardSaid : Prop := Claim7.holds Tryd.pinned (.plain (OpenSpec.ofChange fnAddDelSpec)) fnAddDelCard

/-- THE TIED CARD OF 'laws.FnEncodeSet'. -/
def fnEncodeSetCard : Claim7 := { stood := { row := fnEncodeSetRow, standIns := [], harness := (true, "f4f17cfc705a601de5bfc4acd375b2f1179713bc6d0bcc50ced318d98b7cc8f4"), looks := false }, kinds := [], alts := [], laidByText := true, laidKinds := [.data], laidTests := true, laidLooks := .later }
def FnEncodeSetCardSaid : Prop := Claim7.holds Tryd.pinned (.plain (OpenSpec.ofChange fnEncodeSetSpec)) fnEncodeSetCard

/-- THE TIED CARD OF 'laws.FnPlayReads'. -/
def fnPlayReadsCard : Claim7 := { stood := { row := fnPlayReadsRow, standIns := [], harness := (true, "f4f17cfc705a601de5bfc4acd375b2f1179713bc6d0bcc50ced318d98b7cc8f4"), looks := false }, kinds := [], alts := [], laidByText := true, laidKinds := [.data], laidTests := true, laidLooks := .later }
def FnPlayReadsCardSaid : Prop := Claim7.holds Tryd.pinned (.plain (OpenSpec.ofChange fnPlayReadsSpec)) fnPlayReadsCard

/-- THE TIED CARD OF 'laws.FnAddOther'. -/
def fnAddOtherCard : Claim7 := { stood := { row := fnAddOtherRow, standIns := [], harness := (true, "f4f17cfc705a601de5bfc4acd375b2f1179713bc6d0bcc50ced318d98b7cc8f4"), looks := false }, kinds := [], alts := [], laidByText := true, laidKinds := [.data], laidTests := true, laidLooks := .later }
def FnAddOtherCardSaid : Prop := Claim7.holds Tryd.pinned (.plain (OpenSpec.ofChange fnAddOtherSpec)) fnAddOtherCard

/-- THE TIED CARD OF 'laws.FnDelGone'. -/
def fnDelGoneCard : Claim7 := { stood := { row := fnDelGoneRow, standIns := [], harness := (true, "f4f17cfc705a601de5bfc4acd375b2f1179713bc6d0bcc50ced318d98b7cc8f4"), looks := false }, kinds := [], alts := [], laidByText := true, laidKinds := [.data], laidTests := true, laidLooks := .later }
def FnDelGoneCardSaid : Prop := Claim7.holds Tryd.pinned (.plain (OpenSpec.ofChange fnDelGoneSpec)) fnDelGoneCard

/-- THE TIED CARD OF 'laws.FnSetOther'. -/
def fnSetOtherCard : Claim7 := { stood := { row := fnSetOtherRow, standIns := [], harness := (true, "f4f17cfc705a601de5bfc4acd375b2f1179713bc6d0bcc50ced318d98b7cc8f4"), looks := false }, kinds := [], alts := [], laidByText := true, laidKinds := [.data], laidTests := true, laidLooks := .later }
def FnSetOtherCardSaid : Prop := Claim7.holds Tryd.pinned (.plain (OpenSpec.ofChange fnSetOtherSpec)) fnSetOtherCard

/-- THE TIED CARD OF 'laws.FnAddLast'. -/
def fnAddLastCard : Claim7 := { stood := { row := fnAddLastRow, standIns := [], harness := (true, "f4f17cfc705a601de5bfc4acd375b2f1179713bc6d0bcc50ced318d98b7cc8f4"), looks := false }, kinds := [], alts := [], laidByText := true, laidKinds := [.data], laidTests := true, laidLooks := .later }
def FnAddLastCardSaid : Prop := Claim7.holds Tryd.pinned (.plain (OpenSpec.ofChange fnAddLastSpec)) fnAddLastCard

/-- THE SECOND FORM's CARD OF 'laws.FnEncodeApart'. -/
def fnEncodeApartUptoCard : Claim7 := { stood := { row := fnEncodeApartUptoRow, standIns := [], harness := (true, "f4f17cfc705a601de5bfc4acd375b2f1179713bc6d0bcc50ced318d98b7cc8f4"), looks := false }, kinds := [], alts := [], laidByText := true, laidKinds := [.data], laidTests := true, laidLooks := .later }
def FnEncodeApartUptoCardSaid : Prop := Claim7.holds Tryd.pinned (.plain (OpenSpec.upto fnEncodeApartSpec)) fnEncodeApartUptoCard

/-- THE SECOND FORM's CARD OF 'laws.FnPlayRoads'. -/
def fnPlayRoadsUptoCard : Claim7 := { stood := { row := fnPlayRoadsUptoRow, standIns := [], harness := (true, "f4f17cfc705a601de5bfc4acd375b2f1179713bc6d0bcc50ced318d98b7cc8f4"), looks := false }, kinds := [], alts := [], laidByText := true, laidKinds := [.data], laidTests := true, laidLooks := .later }
def FnPlayRoadsUptoCardSaid : Prop := Claim7.holds Tryd.pinned (.plain (OpenSpec.upto fnPlayRoadsSpec)) fnPlayRoadsUptoCard

/-- THE SECOND FORM's CARD OF 'laws.FnAddTwice'. -/
def fnAddTwiceUptoCard : Claim7 := { stood := { row := fnAddTwiceUptoRow, standIns := [], harness := (true, "f4f17cfc705a601de5bfc4acd375b2f1179713bc6d0bcc50ced318d98b7cc8f4"), looks := false }, kinds := [], alts := [], laidByText := true, laidKinds := [.data], laidTests := true, laidLooks := .later }
def FnAddTwiceUptoCardSaid : Prop := Claim7.holds Tryd.pinned (.plain (OpenSpec.upto fnAddTwiceSpec)) fnAddTwiceUptoCard

/-- THE SECOND FORM's CARD OF 'laws.FnCase'. -/
def fnCaseUptoCard : Claim7 := { stood := { row := fnCaseUptoRow, standIns := [], harness := (true, "f4f17cfc705a601de5bfc4acd375b2f1179713bc6d0bcc50ced318d98b7cc8f4"), looks := false }, kinds := [], alts := [], laidByText := true, laidKinds := [.data], laidTests := true, laidLooks := .later }
def FnCaseUptoCardSaid : Prop := Claim7.holds Tryd.pinned (.plain (OpenSpec.upto fnCaseSpec)) fnCaseUptoCard

/-- THE SECOND FORM's CARD OF 'laws.FnSetRoads'. -/
def fnSetRoadsUptoCard : Claim7 := { stood := { row := fnSetRoadsUptoRow, standIns := [], harness := (true, "f4f17cfc705a601de5bfc4acd375b2f1179713bc6d0bcc50ced318d98b7cc8f4"), looks := false }, kinds := [], alts := [], laidByText := true, laidKinds := [.data], laidTests := true, laidLooks := .later }
def FnSetRoadsUptoCardSaid : Prop := Claim7.holds Tryd.pinned (.plain (OpenSpec.upto fnSetRoadsSpec)) fnSetRoadsUptoCard

/-- THE SECOND FORM's CARD OF 'laws.FnAddDel'. -/
def fnAddDelUptoCard : Claim7 := { stood := { row := fnAddDelUptoRow, standIns := [], harness := (true, "f4f17cfc705a601de5bfc4acd375b2f1179713bc6d0bcc50ced318d98b7cc8f4"), looks := false }, kinds := [], alts := [], laidByText := true, laidKinds := [.data], laidTests := true, laidLooks := .later }
def FnAddDelUptoCardSaid : Prop := Claim7.holds Tryd.pinned (.plain (OpenSpec.upto fnAddDelSpec)) fnAddDelUptoCard

/-- THE SECOND FORM's CARD OF 'laws.FnEncodeSet'. -/
def fnEncodeSetUptoCard : Claim7 := { stood := { row := fnEncodeSetUptoRow, standIns := [], harness := (true, "f4f17cfc705a601de5bfc4acd375b2f1179713bc6d0bcc50ced318d98b7cc8f4"), looks := false }, kinds := [], alts := [], laidByText := true, laidKinds := [.data], laidTests := true, laidLooks := .later }
def FnEncodeSetUptoCardSaid : Prop := Claim7.holds Tryd.pinned (.plain (OpenSpec.upto fnEncodeSetSpec)) fnEncodeSetUptoCard

/-- THE SECOND FORM's CARD OF 'laws.FnPlayReads'. -/
def fnPlayReadsUptoCard : Claim7 := { stood := { row := fnPlayReadsUptoRow, standIns := [], harness := (true, "f4f17cfc705a601de5bfc4acd375b2f1179713bc6d0bcc50ced318d98b7cc8f4"), looks := false }, kinds := [], alts := [], laidByText := true, laidKinds := [.data], laidTests := true, laidLooks := .later }
def FnPlayReadsUptoCardSaid : Prop := Claim7.holds Tryd.pinned (.plain (OpenSpec.upto fnPlayReadsSpec)) fnPlayReadsUptoCard

/-- THE SECOND FORM's CARD OF 'laws.FnAddOther'. -/
def fnAddOtherUptoCard : Claim7 := { stood := { row := fnAddOtherUptoRow, standIns := [], harness := (true, "f4f17cfc705a601de5bfc4acd375b2f1179713bc6d0bcc50ced318d98b7cc8f4"), looks := false }, kinds := [], alts := [], laidByText := true, laidKinds := [.data], laidTests := true, laidLooks := .later }
def FnAddOtherUptoCardSaid : Prop := Claim7.holds Tryd.pinned (.plain (OpenSpec.upto fnAddOtherSpec)) fnAddOtherUptoCard

/-- THE SECOND FORM's CARD OF 'laws.FnDelGone'. -/
def fnDelGoneUptoCard : Claim7 := { stood := { row := fnDelGoneUptoRow, standIns := [], harness := (true, "f4f17cfc705a601de5bfc4acd375b2f1179713bc6d0bcc50ced318d98b7cc8f4"), looks := false }, kinds := [], alts := [], laidByText := true, laidKinds := [.data], laidTests := true, laidLooks := .later }
def FnDelGoneUptoCardSaid : Prop := Claim7.holds Tryd.pinned (.plain (OpenSpec.upto fnDelGoneSpec)) fnDelGoneUptoCard

/-- THE SECOND FORM's CARD OF 'laws.FnSetOther'. -/
def fnSetOtherUptoCard : Claim7 := { stood := { row := fnSetOtherUptoRow, standIns := [], harness := (true, "f4f17cfc705a601de5bfc4acd375b2f1179713bc6d0bcc50ced318d98b7cc8f4"), looks := false }, kinds := [], alts := [], laidByText := true, laidKinds := [.data], laidTests := true, laidLooks := .later }
def FnSetOtherUptoCardSaid : Prop := Claim7.holds Tryd.pinned (.plain (OpenSpec.upto fnSetOtherSpec)) fnSetOtherUptoCard

/-- THE SECOND FORM's CARD OF 'laws.FnAddLast'. -/
def fnAddLastUptoCard : Claim7 := { stood := { row := fnAddLastUptoRow, standIns := [], harness := (true, "f4f17cfc705a601de5bfc4acd375b2f1179713bc6d0bcc50ced318d98b7cc8f4"), looks := false }, kinds := [], alts := [], laidByText := true, laidKinds := [.data], laidTests := true, laidLooks := .later }
def FnAddLastUptoCardSaid : Prop := Claim7.holds Tryd.pinned (.plain (OpenSpec.upto fnAddLastSpec)) fnAddLastUptoCard
end Rows
end Go.Proofs.YtbnefebheecccaaDoor
