/-
  NARROWER THAN 'FOR EVERY INPUT', by the rows' own cells (each row's printed sentence says how): FnEncodeApart: laid · FnPlayRoads: laid · FnAddTwice: laid · FnCase: laid · FnSetRoads: laid · FnAddDel: laid · FnEncodeSet: laid · FnPlayReads: laid · FnAddOther: laid · FnDelGone: laid · FnSetOther: laid · FnAddLast: laid.
  DERIVED. THE GIVEN ROWS OF THIS SEAT. 12 by the template 'for every input the law returns true; each argument reads behind the call as it read before'; 0 by the template 'total and deterministic' (their statements: YtbnefebheecccaaDoorTotals.lean).
  GIVEN WITH THE SEED: the statements are not yours to turn. If you find one false, say at which input.
  Laid BY PROGRAM, IN A SANDBOX (cutbox-rows.mjs): the forced cells as the released guide's own fill.sh prints them over the translation 0bafc692af413caf… (all of the seat's roots in one cut). By AI agents, Wed Nov 11 2026. No macro, syntax, notation, axiom, sorry.
-/
import Derived.Test.YtbnefebheecccaaDoorChecked
import GoSem.Claim
import GoSem.ClaimJoined
import GoSem.ClaimMapViews
import Derived.JoinedTies
import Derived.KernelRfl
namespace Go.Proofs.YtbnefebheecccaaDoor
/- THE CELL 'sum', in the pinned program and in every row, IS THE sha256 OF THE DUMP (.gsa) THAT YtbnefebheecccaaDoorProg.lean LOADS. Nothing in Lean hashes anything: it is a label: what it is worth is what the hold of that sum in a sandbox is worth. -/
noncomputable def Tryd.pinned : Pinned := { name := "ytbnefebheecccaadoor", sum := "0bafc692af413caf302000f479ced6bfdf3091661512bda89dbaa8f3b269c6de", checked := Tryd.checked }
namespace Rows
def none {H : Type} : Left H := { results := [], args := [] }

/- WHAT THE LISTED PACKAGE-LEVEL VARIABLES READ AS WHEN THE CALL BEGINS. Each datum BY PROGRAM (the guide's laid-datum.mjs) off the statement by which the dump's own 'gosem.cut.vars' lays the variable. In a bare row this is a premise. The card (YtbnefebheecccaaDoorCards.lean) ties it to the program's text. -/
def laid_net_url_table {H : Type} : DataW H := .agg [.lit (.int .u8 0), .lit (.int .u8 0), .lit (.int .u8 0), .lit (.int .u8 0), .lit (.int .u8 0), .lit (.int .u8 0), .lit (.int .u8 0), .lit (.int .u8 0), .lit (.int .u8 0), .lit (.int .u8 0), .lit (.int .u8 0), .lit (.int .u8 0), .lit (.int .u8 0), .lit (.int .u8 0), .lit (.int .u8 0), .lit (.int .u8 0), .lit (.int .u8 0), .lit (.int .u8 0), .lit (.int .u8 0), .lit (.int .u8 0), .lit (.int .u8 0), .lit (.int .u8 0), .lit (.int .u8 0), .lit (.int .u8 0), .lit (.int .u8 0), .lit (.int .u8 0), .lit (.int .u8 0), .lit (.int .u8 0), .lit (.int .u8 0), .lit (.int .u8 0), .lit (.int .u8 0), .lit (.int .u8 0), .lit (.int .u8 0), .lit (.int .u8 76), .lit (.int .u8 12), .lit (.int .u8 0), .lit (.int .u8 95), .lit (.int .u8 0), .lit (.int .u8 95), .lit (.int .u8 12), .lit (.int .u8 76), .lit (.int .u8 76), .lit (.int .u8 76), .lit (.int .u8 95), .lit (.int .u8 93), .lit (.int .u8 127), .lit (.int .u8 127), .lit (.int .u8 65), .lit (.int .u8 255), .lit (.int .u8 255), .lit (.int .u8 255), .lit (.int .u8 255), .lit (.int .u8 255), .lit (.int .u8 255), .lit (.int .u8 255), .lit (.int .u8 255), .lit (.int .u8 255), .lit (.int .u8 255), .lit (.int .u8 79), .lit (.int .u8 93), .lit (.int .u8 12), .lit (.int .u8 95), .lit (.int .u8 12), .lit (.int .u8 64), .lit (.int .u8 67), .lit (.int .u8 255), .lit (.int .u8 255), .lit (.int .u8 255), .lit (.int .u8 255), .lit (.int .u8 255), .lit (.int .u8 255), .lit (.int .u8 127), .lit (.int .u8 127), .lit (.int .u8 127), .lit (.int .u8 127), .lit (.int .u8 127), .lit (.int .u8 127), .lit (.int .u8 127), .lit (.int .u8 127), .lit (.int .u8 127), .lit (.int .u8 127), .lit (.int .u8 127), .lit (.int .u8 127), .lit (.int .u8 127), .lit (.int .u8 127), .lit (.int .u8 127), .lit (.int .u8 127), .lit (.int .u8 127), .lit (.int .u8 127), .lit (.int .u8 127), .lit (.int .u8 127), .lit (.int .u8 12), .lit (.int .u8 0), .lit (.int .u8 12), .lit (.int .u8 0), .lit (.int .u8 127), .lit (.int .u8 0), .lit (.int .u8 255), .lit (.int .u8 255), .lit (.int .u8 255), .lit (.int .u8 255), .lit (.int .u8 255), .lit (.int .u8 255), .lit (.int .u8 127), .lit (.int .u8 127), .lit (.int .u8 127), .lit (.int .u8 127), .lit (.int .u8 127), .lit (.int .u8 127), .lit (.int .u8 127), .lit (.int .u8 127), .lit (.int .u8 127), .lit (.int .u8 127), .lit (.int .u8 127), .lit (.int .u8 127), .lit (.int .u8 127), .lit (.int .u8 127), .lit (.int .u8 127), .lit (.int .u8 127), .lit (.int .u8 127), .lit (.int .u8 127), .lit (.int .u8 127), .lit (.int .u8 127), .lit (.int .u8 0), .lit (.int .u8 0), .lit (.int .u8 0), .lit (.int .u8 127), .lit (.int .u8 0), .lit (.int .u8 0), .lit (.int .u8 0), .lit (.int .u8 0), .lit (.int .u8 0), .lit (.int .u8 0), .lit (.int .u8 0), .lit (.int .u8 0), .lit (.int .u8 0), .lit (.int .u8 0), .lit (.int .u8 0), .lit (.int .u8 0), .lit (.int .u8 0), .lit (.int .u8 0), .lit (.int .u8 0), .lit (.int .u8 0), .lit (.int .u8 0), .lit (.int .u8 0), .lit (.int .u8 0), .lit (.int .u8 0), .lit (.int .u8 0), .lit (.int .u8 0), .lit (.int .u8 0), .lit (.int .u8 0), .lit (.int .u8 0), .lit (.int .u8 0), .lit (.int .u8 0), .lit (.int .u8 0), .lit (.int .u8 0), .lit (.int .u8 0), .lit (.int .u8 0), .lit (.int .u8 0), .lit (.int .u8 0), .lit (.int .u8 0), .lit (.int .u8 0), .lit (.int .u8 0), .lit (.int .u8 0), .lit (.int .u8 0), .lit (.int .u8 0), .lit (.int .u8 0), .lit (.int .u8 0), .lit (.int .u8 0), .lit (.int .u8 0), .lit (.int .u8 0), .lit (.int .u8 0), .lit (.int .u8 0), .lit (.int .u8 0), .lit (.int .u8 0), .lit (.int .u8 0), .lit (.int .u8 0), .lit (.int .u8 0), .lit (.int .u8 0), .lit (.int .u8 0), .lit (.int .u8 0), .lit (.int .u8 0), .lit (.int .u8 0), .lit (.int .u8 0), .lit (.int .u8 0), .lit (.int .u8 0), .lit (.int .u8 0), .lit (.int .u8 0), .lit (.int .u8 0), .lit (.int .u8 0), .lit (.int .u8 0), .lit (.int .u8 0), .lit (.int .u8 0), .lit (.int .u8 0), .lit (.int .u8 0), .lit (.int .u8 0), .lit (.int .u8 0), .lit (.int .u8 0), .lit (.int .u8 0), .lit (.int .u8 0), .lit (.int .u8 0), .lit (.int .u8 0), .lit (.int .u8 0), .lit (.int .u8 0), .lit (.int .u8 0), .lit (.int .u8 0), .lit (.int .u8 0), .lit (.int .u8 0), .lit (.int .u8 0), .lit (.int .u8 0), .lit (.int .u8 0), .lit (.int .u8 0), .lit (.int .u8 0), .lit (.int .u8 0), .lit (.int .u8 0), .lit (.int .u8 0), .lit (.int .u8 0), .lit (.int .u8 0), .lit (.int .u8 0), .lit (.int .u8 0), .lit (.int .u8 0), .lit (.int .u8 0), .lit (.int .u8 0), .lit (.int .u8 0), .lit (.int .u8 0), .lit (.int .u8 0), .lit (.int .u8 0), .lit (.int .u8 0), .lit (.int .u8 0), .lit (.int .u8 0), .lit (.int .u8 0), .lit (.int .u8 0), .lit (.int .u8 0), .lit (.int .u8 0), .lit (.int .u8 0), .lit (.int .u8 0), .lit (.int .u8 0), .lit (.int .u8 0), .lit (.int .u8 0), .lit (.int .u8 0), .lit (.int .u8 0), .lit (.int .u8 0), .lit (.int .u8 0), .lit (.int .u8 0), .lit (.int .u8 0), .lit (.int .u8 0), .lit (.int .u8 0), .lit (.int .u8 0), .lit (.int .u8 0), .lit (.int .u8 0), .lit (.int .u8 0), .lit (.int .u8 0), .lit (.int .u8 0), .lit (.int .u8 0), .lit (.int .u8 0), .lit (.int .u8 0)]

/-- 'laws.FnEncodeApart': WHATEVER THE INPUT: true; the input reads as it did. -/
def fnEncodeApartSpec : ChangeSpec := { name := "fnEncodeApart", fn := fun _ => fun
  | [d1, d2, d3, d4] => { results := [.lit (.bool true)], args := [d1, d2, d3, d4] }
  | _ => none }
def fnEncodeApartRow : OpenClaim := { program := "ytbnefebheecccaadoor", sum := "0bafc692af413caf302000f479ced6bfdf3091661512bda89dbaa8f3b269c6de", func := "loop.example/lib-g03421/laws.FnEncodeApart", spec := "fnEncodeApart", inPlace := ["internal/abi.NoEscape"], recurses := true, named := ["net/url.table"], apart := false, laid := [("net/url.table", laid_net_url_table)] }
def FnEncodeApartSaid : Prop := fnEncodeApartRow.holds Tryd.pinned (OpenSpec.ofChange fnEncodeApartSpec)

/-- ITS FALSE NEIGHBOUR: 'it returns false'. Refute it at one input. -/
def fnEncodeApartWrong : ChangeSpec := { name := "fnEncodeApart", fn := fun _ => fun
  | [d1, d2, d3, d4] => { results := [.lit (.bool false)], args := [d1, d2, d3, d4] }
  | _ => none }
def FnEncodeApartWrongFalsely : Prop := fnEncodeApartRow.holds Tryd.pinned (OpenSpec.ofChange fnEncodeApartWrong)

/-- 'laws.FnPlayRoads': WHATEVER THE INPUT: true; the input reads as it did. -/
def fnPlayRoadsSpec : ChangeSpec := { name := "fnPlayRoads", fn := fun _ => fun
  | [d1, d2, d3, d4, d5] => { results := [.lit (.bool true)], args := [d1, d2, d3, d4, d5] }
  | _ => none }
def fnPlayRoadsRow : OpenClaim := { program := "ytbnefebheecccaadoor", sum := "0bafc692af413caf302000f479ced6bfdf3091661512bda89dbaa8f3b269c6de", func := "loop.example/lib-g03421/laws.FnPlayRoads", spec := "fnPlayRoads", inPlace := ["internal/abi.NoEscape"], recurses := true, named := ["net/url.table"], apart := false, laid := [("net/url.table", laid_net_url_table)] }
def FnPlayRoadsSaid : Prop := fnPlayRoadsRow.holds Tryd.pinned (OpenSpec.ofChange fnPlayRoadsSpec)

/-- ITS FALSE NEIGHBOUR: 'it returns false'. Refute it at one input. -/
def fnPlayRoadsWrong : ChangeSpec := { name := "fnPlayRoads", fn := fun _ => fun
  | [d1, d2, d3, d4, d5] => { results := [.lit (.bool false)], args := [d1, d2, d3, d4, d5] }
  | _ => none }
def FnPlayRoadsWrongFalsely : Prop := fnPlayRoadsRow.holds Tryd.pinned (OpenSpec.ofChange fnPlayRoadsWrong)

/-- 'laws.FnAddTwice': WHATEVER THE INPUT: true; the input reads as it did. -/
def fnAddTwiceSpec : ChangeSpec := { name := "fnAddTwice", fn := fun _ => fun
  | [d1, d2, d3, d4, d5, d6] => { results := [.lit (.bool true)], args := [d1, d2, d3, d4, d5, d6] }
  | _ => none }
def fnAddTwiceRow : OpenClaim := { program := "ytbnefebheecccaadoor", sum := "0bafc692af413caf302000f479ced6bfdf3091661512bda89dbaa8f3b269c6de", func := "loop.example/lib-g03421/laws.FnAddTwice", spec := "fnAddTwice", inPlace := ["internal/abi.NoEscape"], recurses := true, named := ["net/url.table"], apart := false, laid := [("net/url.table", laid_net_url_table)] }
def FnAddTwiceSaid : Prop := fnAddTwiceRow.holds Tryd.pinned (OpenSpec.ofChange fnAddTwiceSpec)

/-- ITS FALSE NEIGHBOUR: 'it returns false'. Refute it at one input. -/
def fnAddTwiceWrong : ChangeSpec := { name := "fnAddTwice", fn := fun _ => fun
  | [d1, d2, d3, d4, d5, d6] => { results := [.lit (.bool false)], args := [d1, d2, d3, d4, d5, d6] }
  | _ => none }
def FnAddTwiceWrongFalsely : Prop := fnAddTwiceRow.holds Tryd.pinned (OpenSpec.ofChange fnAddTwiceWrong)

/-- 'laws.FnCase': WHATEVER THE INPUT: true; the input reads as it did. -/
def fnCaseSpec : ChangeSpec := { name := "fnCase", fn := fun _ => fun
  | [d1, d2, d3, d4] => { results := [.lit (.bool true)], args := [d1, d2, d3, d4] }
  | _ => none }
def fnCaseRow : OpenClaim := { program := "ytbnefebheecccaadoor", sum := "0bafc692af413caf302000f479ced6bfdf3091661512bda89dbaa8f3b269c6de", func := "loop.example/lib-g03421/laws.FnCase", spec := "fnCase", inPlace := ["internal/abi.NoEscape"], recurses := true, named := ["net/url.table"], apart := false, laid := [("net/url.table", laid_net_url_table)] }
def FnCaseSaid : Prop := fnCaseRow.holds Tryd.pinned (OpenSpec.ofChange fnCaseSpec)

/-- ITS FALSE NEIGHBOUR: 'it returns false'. Refute it at one input. -/
def fnCaseWrong : ChangeSpec := { name := "fnCase", fn := fun _ => fun
  | [d1, d2, d3, d4] => { results := [.lit (.bool false)], args := [d1, d2, d3, d4] }
  | _ => none }
def FnCaseWrongFalsely : Prop := fnCaseRow.holds Tryd.pinned (OpenSpec.ofChange fnCaseWrong)

/-- 'laws.FnSetRoads': WHATEVER THE INPUT: true; the input reads as it did. -/
def fnSetRoadsSpec : ChangeSpec := { name := "fnSetRoads", fn := fun _ => fun
  | [d1, d2, d3, d4, d5] => { results := [.lit (.bool true)], args := [d1, d2, d3, d4, d5] }
  | _ => none }
def fnSetRoadsRow : OpenClaim := { program := "ytbnefebheecccaadoor", sum := "0bafc692af413caf302000f479ced6bfdf3091661512bda89dbaa8f3b269c6de", func := "loop.example/lib-g03421/laws.FnSetRoads", spec := "fnSetRoads", inPlace := ["internal/abi.NoEscape"], recurses := true, named := ["net/url.table"], apart := false, laid := [("net/url.table", laid_net_url_table)] }
def FnSetRoadsSaid : Prop := fnSetRoadsRow.holds Tryd.pinned (OpenSpec.ofChange fnSetRoadsSpec)

/-- ITS FALSE NEIGHBOUR: 'it returns false'. Refute it at one input. -/
def fnSetRoadsWrong : ChangeSpec := { name := "fnSetRoads", fn := fun _ => fun
  | [d1, d2, d3, d4, d5] => { results := [.lit (.bool false)], args := [d1, d2, d3, d4, d5] }
  | _ => none }
def FnSetRoadsWrongFalsely : Prop := fnSetRoadsRow.holds Tryd.pinned (OpenSpec.ofChange fnSetRoadsWrong)

/-- 'laws.FnAddDel': WHATEVER THE INPUT: true; the input reads as it did. -/
def fnAddDelSpec : ChangeSpec := { name := "fnAddDel", fn := fun _ => fun
  | [d1, d2, d3, d4] => { results := [.lit (.bool true)], args := [d1, d2, d3, d4] }
  | _ => none }
def fnAddDelRow : OpenClaim := { program := "ytbnefebheecccaadoor", sum := "0bafc692af413caf302000f479ced6bfdf3091661512bda89dbaa8f3b269c6de", func := "loop.example/lib-g03421/laws.FnAddDel", spec := "fnAddDel", inPlace := ["internal/abi.NoEscape"], recurses := true, named := ["net/url.table"], apart := false, laid := [("net/url.table", laid_net_url_table)] }
def FnAddDelSaid : Prop := fnAddDelRow.holds Tryd.pinned (OpenSpec.ofChange fnAddDelSpec)

/-- ITS FALSE NEIGHBOUR: 'it returns false'. Refute it at one input. -/
def fnAddDelWrong : ChangeSpec := { name := "fnAddDel", fn := fun _ => fun
  | [d1, d2, d3, d4] => { results := [.lit (.bool false)], args := [d1, d2, d3, d4] }
  | _ => none }
def FnAddDelWrongFalsely : Prop := fnAddDelRow.holds Tryd.pinned (OpenSpec.ofChange fnAddDelWrong)

/-- 'laws.FnEncodeSet': WHATEVER THE INPUT: true; the input reads as it did. -/
def fnEncodeSetSpec : ChangeSpec := { name := "fnEncodeSet", fn := fun _ => fun
  | [d1, d2, d3, d4] => { results := [.lit (.bool true)], args := [d1, d2, d3, d4] }
  | _ => none }
def fnEncodeSetRow : OpenClaim := { program := "ytbnefebheecccaadoor", sum := "0bafc692af413caf302000f479ced6bfdf3091661512bda89dbaa8f3b269c6de", func := "loop.example/lib-g03421/laws.FnEncodeSet", spec := "fnEncodeSet", inPlace := ["internal/abi.NoEscape"], recurses := true, named := ["net/url.table"], apart := false, laid := [("net/url.table", laid_net_url_table)] }
def FnEncodeSetSaid : Prop := fnEncodeSetRow.holds Tryd.pinned (OpenSpec.ofChange fnEncodeSetSpec)

/-- ITS FALSE NEIGHBOUR: 'it returns false'. Refute it at one input. -/
def fnEncodeSetWrong : ChangeSpec := { name := "fnEncodeSet", fn := fun _ => fun
  | [d1, d2, d3, d4] => { results := [.lit (.bool false)], args := [d1, d2, d3, d4] }
  | _ => none }
def FnEncodeSetWrongFalsely : Prop := fnEncodeSetRow.holds Tryd.pinned (OpenSpec.ofChange fnEncodeSetWrong)

/-- 'laws.FnPlayReads': WHATEVER THE INPUT: true; the input reads as it did. -/
def fnPlayReadsSpec : ChangeSpec := { name := "fnPlayReads", fn := fun _ => fun
  | [d1, d2, d3, d4] => { results := [.lit (.bool true)], args := [d1, d2, d3, d4] }
  | _ => none }
def fnPlayReadsRow : OpenClaim := { program := "ytbnefebheecccaadoor", sum := "0bafc692af413caf302000f479ced6bfdf3091661512bda89dbaa8f3b269c6de", func := "loop.example/lib-g03421/laws.FnPlayReads", spec := "fnPlayReads", inPlace := ["internal/abi.NoEscape"], recurses := true, named := ["net/url.table"], apart := false, laid := [("net/url.table", laid_net_url_table)] }
def FnPlayReadsSaid : Prop := fnPlayReadsRow.holds Tryd.pinned (OpenSpec.ofChange fnPlayReadsSpec)

/-- ITS FALSE NEIGHBOUR: 'it returns false'. Refute it at one input. -/
def fnPlayReadsWrong : ChangeSpec := { name := "fnPlayReads", fn := fun _ => fun
  | [d1, d2, d3, d4] => { results := [.lit (.bool false)], args := [d1, d2, d3, d4] }
  | _ => none }
def FnPlayReadsWrongFalsely : Prop := fnPlayReadsRow.holds Tryd.pinned (OpenSpec.ofChange fnPlayReadsWrong)

/-- 'laws.FnAddOther': WHATEVER THE INPUT: true; the input reads as it did. -/
def fnAddOtherSpec : ChangeSpec := { name := "fnAddOther", fn := fun _ => fun
  | [d1, d2, d3, d4, d5] => { results := [.lit (.bool true)], args := [d1, d2, d3, d4, d5] }
  | _ => none }
def fnAddOtherRow : OpenClaim := { program := "ytbnefebheecccaadoor", sum := "0bafc692af413caf302000f479ced6bfdf3091661512bda89dbaa8f3b269c6de", func := "loop.example/lib-g03421/laws.FnAddOther", spec := "fnAddOther", inPlace := ["internal/abi.NoEscape"], recurses := true, named := ["net/url.table"], apart := false, laid := [("net/url.table", laid_net_url_table)] }
def FnAddOtherSaid : Prop := fnAddOtherRow.holds Tryd.pinned (OpenSpec.ofChange fnAddOtherSpec)

/-- ITS FALSE NEIGHBOUR: 'it returns false'. Refute it at one input. -/
def fnAddOtherWrong : ChangeSpec := { name := "fnAddOther", fn := fun _ => fun
  | [d1, d2, d3, d4, d5] => { results := [.lit (.bool false)], args := [d1, d2, d3, d4, d5] }
  | _ => none }
def FnAddOtherWrongFalsely : Prop := fnAddOtherRow.holds Tryd.pinned (OpenSpec.ofChange fnAddOtherWrong)

/-- 'laws.FnDelGone': WHATEVER THE INPUT: true; the input reads as it did. -/
def fnDelGoneSpec : ChangeSpec := { name := "fnDelGone", fn := fun _ => fun
  | [d1, d2, d3, d4] => { results := [.lit (.bool true)], args := [d1, d2, d3, d4] }
  | _ => none }
def fnDelGoneRow : OpenClaim := { program := "ytbnefebheecccaadoor", sum := "0bafc692af413caf302000f479ced6bfdf3091661512bda89dbaa8f3b269c6de", func := "loop.example/lib-g03421/laws.FnDelGone", spec := "fnDelGone", inPlace := ["internal/abi.NoEscape"], recurses := true, named := ["net/url.table"], apart := false, laid := [("net/url.table", laid_net_url_table)] }
def FnDelGoneSaid : Prop := fnDelGoneRow.holds Tryd.pinned (OpenSpec.ofChange fnDelGoneSpec)

/-- ITS FALSE NEIGHBOUR: 'it returns false'. Refute it at one input. -/
def fnDelGoneWrong : ChangeSpec := { name := "fnDelGone", fn := fun _ => fun
  | [d1, d2, d3, d4] => { results := [.lit (.bool false)], args := [d1, d2, d3, d4] }
  | _ => none }
def FnDelGoneWrongFalsely : Prop := fnDelGoneRow.holds Tryd.pinned (OpenSpec.ofChange fnDelGoneWrong)

/-- 'laws.FnSetOther': WHATEVER THE INPUT: true; the input reads as it did. -/
def fnSetOtherSpec : ChangeSpec := { name := "fnSetOther", fn := fun _ => fun
  | [d1, d2, d3, d4, d5, d6] => { results := [.lit (.bool true)], args := [d1, d2, d3, d4, d5, d6] }
  | _ => none }
def fnSetOtherRow : OpenClaim := { program := "ytbnefebheecccaadoor", sum := "0bafc692af413caf302000f479ced6bfdf3091661512bda89dbaa8f3b269c6de", func := "loop.example/lib-g03421/laws.FnSetOther", spec := "fnSetOther", inPlace := ["internal/abi.NoEscape"], recurses := true, named := ["net/url.table"], apart := false, laid := [("net/url.table", laid_net_url_table)] }
def FnSetOtherSaid : Prop := fnSetOtherRow.holds Tryd.pinned (OpenSpec.ofChange fnSetOtherSpec)

/-- ITS FALSE NEIGHBOUR: 'it returns false'. Refute it at one input. -/
def fnSetOtherWrong : ChangeSpec := { name := "fnSetOther", fn := fun _ => fun
  | [d1, d2, d3, d4, d5, d6] => { results := [.lit (.bool false)], args := [d1, d2, d3, d4, d5, d6] }
  | _ => none }
def FnSetOtherWrongFalsely : Prop := fnSetOtherRow.holds Tryd.pinned (OpenSpec.ofChange fnSetOtherWrong)

/-- 'laws.FnAddLast': WHATEVER THE INPUT: true; the input reads as it did. -/
def fnAddLastSpec : ChangeSpec := { name := "fnAddLast", fn := fun _ => fun
  | [d1, d2, d3, d4] => { results := [.lit (.bool true)], args := [d1, d2, d3, d4] }
  | _ => none }
def fnAddLastRow : OpenClaim := { program := "ytbnefebheecccaadoor", sum := "0bafc692af413caf302000f479ced6bfdf3091661512bda89dbaa8f3b269c6de", func := "loop.example/lib-g03421/laws.FnAddLast", spec := "fnAddLast", inPlace := ["internal/abi.NoEscape"], recurses := true, named := ["net/url.table"], apart := false, laid := [("net/url.table", laid_net_url_table)] }
def FnAddLastSaid : Prop := fnAddLastRow.holds Tryd.pinned (OpenSpec.ofChange fnAddLastSpec)

/-- ITS FALSE NEIGHBOUR: 'it returns false'. Refute it at one input. -/
def fnAddLastWrong : ChangeSpec := { name := "fnAddLast", fn := fun _ => fun
  | [d1, d2, d3, d4] => { results := [.lit (.bool false)], args := [d1, d2, d3, d4] }
  | _ => none }
def FnAddLastWrongFalsely : Prop := fnAddLastRow.holds Tryd.pinned (OpenSpec.ofChange fnAddLastWrong)

/- THE SECOND FORM. 'bulk': how many values and letters a reading holds, each counted each time it is reached (what is shared counts as often as it is met; a slice's spare places count too). A statement '..UptoSaid' is the law's where the arguments, and the package variables that the reading takes, are together of bulk at most 1048576: NARROWER than '..Said'. Prove '..Said' where nothing that the law and all that it calls make is longer than what came in: it says more and counts as full. Else prove '..UptoSaid'. A law counts once. -/
mutual
def uptoBulk {H : Type} : DataW H → Nat
  | .lit (.string bytes) => bytes.length + 1
  | .lit _ => 1
  | .nil => 1
  | .ptr d => uptoBulk d + 1
  | .slice elems spare => uptoBulkAll elems + uptoBulkAll spare + 1
  | .agg parts => uptoBulkAll parts + 1
  | .iface _ d => uptoBulk d + 1
  | .map entries => uptoBulkEntries entries + 1
  | .held _ => 1
def uptoBulkAll {H : Type} : List (DataW H) → Nat
  | [] => 0
  | d :: r => uptoBulk d + uptoBulkAll r
def uptoBulkEntries {H : Type} : List (Lit × DataW H) → Nat
  | [] => 0
  | x :: r => uptoBulkEntry x + uptoBulkEntries r
def uptoBulkEntry {H : Type} : Lit × DataW H → Nat
  | (.string bytes, d) => bytes.length + uptoBulk d + 1
  | (_, d) => uptoBulk d + 1
 end
def uptoSmall : (H : Type) → List (DataW H) → Bool := fun _ ds => decide (uptoBulkAll ds ≤ 1048576)
def OpenSpec.upto (s : _root_.Go.ChangeSpec) : _root_.Go.OpenSpec := { _root_.Go.OpenSpec.ofChange s with cond := some uptoSmall }

/-- 'laws.FnEncodeApart', WHERE WHAT IT READS IS OF BULK AT MOST 1048576: true; the input reads as it did. -/
def fnEncodeApartUptoRow : OpenClaim := { program := "ytbnefebheecccaadoor", sum := "0bafc692af413caf302000f479ced6bfdf3091661512bda89dbaa8f3b269c6de", func := "loop.example/lib-g03421/laws.FnEncodeApart", spec := "fnEncodeApart", inPlace := ["internal/abi.NoEscape"], recurses := true, named := ["net/url.table"], apart := false, laid := [("net/url.table", laid_net_url_table)], narrowed := true }
def FnEncodeApartUptoSaid : Prop := fnEncodeApartUptoRow.holds Tryd.pinned (OpenSpec.upto fnEncodeApartSpec)

/-- 'laws.FnPlayRoads', WHERE WHAT IT READS IS OF BULK AT MOST 1048576: true; the input reads as it did. -/
def fnPlayRoadsUptoRow : OpenClaim := { program := "ytbnefebheecccaadoor", sum := "0bafc692af413caf302000f479ced6bfdf3091661512bda89dbaa8f3b269c6de", func := "loop.example/lib-g03421/laws.FnPlayRoads", spec := "fnPlayRoads", inPlace := ["internal/abi.NoEscape"], recurses := true, named := ["net/url.table"], apart := false, laid := [("net/url.table", laid_net_url_table)], narrowed := true }
def FnPlayRoadsUptoSaid : Prop := fnPlayRoadsUptoRow.holds Tryd.pinned (OpenSpec.upto fnPlayRoadsSpec)

/-- 'laws.FnAddTwice', WHERE WHAT IT READS IS OF BULK AT MOST 1048576: true; the input reads as it did. -/
def fnAddTwiceUptoRow : OpenClaim := { program := "ytbnefebheecccaadoor", sum := "0bafc692af413caf302000f479ced6bfdf3091661512bda89dbaa8f3b269c6de", func := "loop.example/lib-g03421/laws.FnAddTwice", spec := "fnAddTwice", inPlace := ["internal/abi.NoEscape"], recurses := true, named := ["net/url.table"], apart := false, laid := [("net/url.table", laid_net_url_table)], narrowed := true }
def FnAddTwiceUptoSaid : Prop := fnAddTwiceUptoRow.holds Tryd.pinned (OpenSpec.upto fnAddTwiceSpec)

/-- 'laws.FnCase', WHERE WHAT IT READS IS OF BULK AT MOST 1048576: true; the input reads as it did. -/
def fnCaseUptoRow : OpenClaim := { program := "ytbnefebheecccaadoor", sum := "0bafc692af413caf302000f479ced6bfdf3091661512bda89dbaa8f3b269c6de", func := "loop.example/lib-g03421/laws.FnCase", spec := "fnCase", inPlace := ["internal/abi.NoEscape"], recurses := true, named := ["net/url.table"], apart := false, laid := [("net/url.table", laid_net_url_table)], narrowed := true }
def FnCaseUptoSaid : Prop := fnCaseUptoRow.holds Tryd.pinned (OpenSpec.upto fnCaseSpec)

/-- 'laws.FnSetRoads', WHERE WHAT IT READS IS OF BULK AT MOST 1048576: true; the input reads as it did. -/
def fnSetRoadsUptoRow : OpenClaim := { program := "ytbnefebheecccaadoor", sum := "0bafc692af413caf302000f479ced6bfdf3091661512bda89dbaa8f3b269c6de", func := "loop.example/lib-g03421/laws.FnSetRoads", spec := "fnSetRoads", inPlace := ["internal/abi.NoEscape"], recurses := true, named := ["net/url.table"], apart := false, laid := [("net/url.table", laid_net_url_table)], narrowed := true }
def FnSetRoadsUptoSaid : Prop := fnSetRoadsUptoRow.holds Tryd.pinned (OpenSpec.upto fnSetRoadsSpec)

/-- 'laws.FnAddDel', WHERE WHAT IT READS IS OF BULK AT MOST 1048576: true; the input reads as it did. -/
def fnAddDelUptoRow : OpenClaim := { program := "ytbnefebheecccaadoor", sum := "0bafc692af413caf302000f479ced6bfdf3091661512bda89dbaa8f3b269c6de", func := "loop.example/lib-g03421/laws.FnAddDel", spec := "fnAddDel", inPlace := ["internal/abi.NoEscape"], recurses := true, named := ["net/url.table"], apart := false, laid := [("net/url.table", laid_net_url_table)], narrowed := true }
def FnAddDelUptoSaid : Prop := fnAddDelUptoRow.holds Tryd.pinned (OpenSpec.upto fnAddDelSpec)

/-- 'laws.FnEncodeSet', WHERE WHAT IT READS IS OF BULK AT MOST 1048576: true; the input reads as it did. -/
def fnEncodeSetUptoRow : OpenClaim := { program := "ytbnefebheecccaadoor", sum := "0bafc692af413caf302000f479ced6bfdf3091661512bda89dbaa8f3b269c6de", func := "loop.example/lib-g03421/laws.FnEncodeSet", spec := "fnEncodeSet", inPlace := ["internal/abi.NoEscape"], recurses := true, named := ["net/url.table"], apart := false, laid := [("net/url.table", laid_net_url_table)], narrowed := true }
def FnEncodeSetUptoSaid : Prop := fnEncodeSetUptoRow.holds Tryd.pinned (OpenSpec.upto fnEncodeSetSpec)

/-- 'laws.FnPlayReads', WHERE WHAT IT READS IS OF BULK AT MOST 1048576: true; the input reads as it did. -/
def fnPlayReadsUptoRow : OpenClaim := { program := "ytbnefebheecccaadoor", sum := "0bafc692af413caf302000f479ced6bfdf3091661512bda89dbaa8f3b269c6de", func := "loop.example/lib-g03421/laws.FnPlayReads", spec := "fnPlayReads", inPlace := ["internal/abi.NoEscape"], recurses := true, named := ["net/url.table"], apart := false, laid := [("net/url.table", laid_net_url_table)], narrowed := true }
def FnPlayReadsUptoSaid : Prop := fnPlayReadsUptoRow.holds Tryd.pinned (OpenSpec.upto fnPlayReadsSpec)

/-- 'laws.FnAddOther', WHERE WHAT IT READS IS OF BULK AT MOST 1048576: true; the input reads as it did. -/
def fnAddOtherUptoRow : OpenClaim := { program := "ytbnefebheecccaadoor", sum := "0bafc692af413caf302000f479ced6bfdf3091661512bda89dbaa8f3b269c6de", func := "loop.example/lib-g03421/laws.FnAddOther", spec := "fnAddOther", inPlace := ["internal/abi.NoEscape"], recurses := true, named := ["net/url.table"], apart := false, laid := [("net/url.table", laid_net_url_table)], narrowed := true }
def FnAddOtherUptoSaid : Prop := fnAddOtherUptoRow.holds Tryd.pinned (OpenSpec.upto fnAddOtherSpec)

/-- 'laws.FnDelGone', WHERE WHAT IT READS IS OF BULK AT MOST 1048576: true; the input reads as it did. -/
def fnDelGoneUptoRow : OpenClaim := { program := "ytbnefebheecccaadoor", sum := "0bafc692af413caf302000f479ced6bfdf3091661512bda89dbaa8f3b269c6de", func := "loop.example/lib-g03421/laws.FnDelGone", spec := "fnDelGone", inPlace := ["internal/abi.NoEscape"], recurses := true, named := ["net/url.table"], apart := false, laid := [("net/url.table", laid_net_url_table)], narrowed := true }
def FnDelGoneUptoSaid : Prop := fnDelGoneUptoRow.holds Tryd.pinned (OpenSpec.upto fnDelGoneSpec)

/-- 'laws.FnSetOther', WHERE WHAT IT READS IS OF BULK AT MOST 1048576: true; the input reads as it did. -/
def fnSetOtherUptoRow : OpenClaim := { program := "ytbnefebheecccaadoor", sum := "0bafc692af413caf302000f479ced6bfdf3091661512bda89dbaa8f3b269c6de", func := "loop.example/lib-g03421/laws.FnSetOther", spec := "fnSetOther", inPlace := ["internal/abi.NoEscape"], recurses := true, named := ["net/url.table"], apart := false, laid := [("net/url.table", laid_net_url_table)], narrowed := true }
def FnSetOtherUptoSaid : Prop := fnSetOtherUptoRow.holds Tryd.pinned (OpenSpec.upto fnSetOtherSpec)

/-- 'laws.FnAddLast', WHERE WHAT IT READS IS OF BULK AT MOST 1048576: true; the input reads as it did. -/
def fnAddLastUptoRow : OpenClaim := { program := "ytbnefebheecccaadoor", sum := "0bafc692af413caf302000f479ced6bfdf3091661512bda89dbaa8f3b269c6de", func := "loop.example/lib-g03421/laws.FnAddLast", spec := "fnAddLast", inPlace := ["internal/abi.NoEscape"], recurses := true, named := ["net/url.table"], apart := false, laid := [("net/url.table", laid_net_url_table)], narrowed := true }
def FnAddLastUptoSaid : Prop := fnAddLastUptoRow.holds Tryd.pinned (OpenSpec.upto fnAddLastSpec)

end Rows
end Go.Proofs.YtbnefebheecccaaDoor
