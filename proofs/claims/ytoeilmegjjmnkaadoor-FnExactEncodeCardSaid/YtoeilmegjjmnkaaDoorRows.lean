/-
  NARROWER THAN 'FOR EVERY INPUT', by the rows' own cells (each row's printed sentence says how): FnEncodeOrder: laid · FnEncodeSafe: laid · FnExactEncode: laid · FnEncodeOne: laid · FnEncodeTwo: laid · FnEncodeEmpty: laid.
  DERIVED. THE GIVEN ROWS OF THIS SEAT. 6 by the template 'for every input the law returns true; each argument reads behind the call as it read before'; 0 by the template 'total and deterministic' (their statements: YtoeilmegjjmnkaaDoorTotals.lean).
  GIVEN WITH THE SEED: the statements are not yours to turn. If you find one false, say at which input.
  Laid BY PROGRAM, IN A SANDBOX (cutbox-rows.mjs): the forced cells as the released guide's own fill.sh prints them over the translation 10b1fb0dcc249e67… (all of the seat's roots in one cut). By AI agents, Wed Nov 11 2026. No macro, syntax, notation, axiom, sorry.
-/
import Derived.Test.YtoeilmegjjmnkaaDoorChecked
import GoSem.Claim
import GoSem.ClaimJoined
import GoSem.ClaimMapViews
import Derived.JoinedTies
import Derived.KernelRfl
namespace Go.Proofs.YtoeilmegjjmnkaaDoor
/- THE CELL 'sum', in the pinned program and in every row, IS THE sha256 OF THE DUMP (.gsa) THAT YtoeilmegjjmnkaaDoorProg.lean LOADS. Nothing in Lean hashes anything: it is a label: what it is worth is what the hold of that sum in a sandbox is worth. -/
noncomputable def Tryd.pinned : Pinned := { name := "ytoeilmegjjmnkaadoor", sum := "10b1fb0dcc249e6703e7229e14320057d6fb2dce28784b43e924b7c8704faadc", checked := Tryd.checked }
namespace Rows
def none {H : Type} : Left H := { results := [], args := [] }

/- WHAT THE LISTED PACKAGE-LEVEL VARIABLES READ AS WHEN THE CALL BEGINS. Each datum BY PROGRAM (the guide's laid-datum.mjs) off the statement by which the dump's own 'gosem.cut.vars' lays the variable. In a bare row this is a premise. The card (YtoeilmegjjmnkaaDoorCards.lean) ties it to the program's text. -/
def laid_net_url_table {H : Type} : DataW H := .agg [.lit (.int .u8 0), .lit (.int .u8 0), .lit (.int .u8 0), .lit (.int .u8 0), .lit (.int .u8 0), .lit (.int .u8 0), .lit (.int .u8 0), .lit (.int .u8 0), .lit (.int .u8 0), .lit (.int .u8 0), .lit (.int .u8 0), .lit (.int .u8 0), .lit (.int .u8 0), .lit (.int .u8 0), .lit (.int .u8 0), .lit (.int .u8 0), .lit (.int .u8 0), .lit (.int .u8 0), .lit (.int .u8 0), .lit (.int .u8 0), .lit (.int .u8 0), .lit (.int .u8 0), .lit (.int .u8 0), .lit (.int .u8 0), .lit (.int .u8 0), .lit (.int .u8 0), .lit (.int .u8 0), .lit (.int .u8 0), .lit (.int .u8 0), .lit (.int .u8 0), .lit (.int .u8 0), .lit (.int .u8 0), .lit (.int .u8 0), .lit (.int .u8 76), .lit (.int .u8 12), .lit (.int .u8 0), .lit (.int .u8 95), .lit (.int .u8 0), .lit (.int .u8 95), .lit (.int .u8 12), .lit (.int .u8 76), .lit (.int .u8 76), .lit (.int .u8 76), .lit (.int .u8 95), .lit (.int .u8 93), .lit (.int .u8 127), .lit (.int .u8 127), .lit (.int .u8 65), .lit (.int .u8 255), .lit (.int .u8 255), .lit (.int .u8 255), .lit (.int .u8 255), .lit (.int .u8 255), .lit (.int .u8 255), .lit (.int .u8 255), .lit (.int .u8 255), .lit (.int .u8 255), .lit (.int .u8 255), .lit (.int .u8 79), .lit (.int .u8 93), .lit (.int .u8 12), .lit (.int .u8 95), .lit (.int .u8 12), .lit (.int .u8 64), .lit (.int .u8 67), .lit (.int .u8 255), .lit (.int .u8 255), .lit (.int .u8 255), .lit (.int .u8 255), .lit (.int .u8 255), .lit (.int .u8 255), .lit (.int .u8 127), .lit (.int .u8 127), .lit (.int .u8 127), .lit (.int .u8 127), .lit (.int .u8 127), .lit (.int .u8 127), .lit (.int .u8 127), .lit (.int .u8 127), .lit (.int .u8 127), .lit (.int .u8 127), .lit (.int .u8 127), .lit (.int .u8 127), .lit (.int .u8 127), .lit (.int .u8 127), .lit (.int .u8 127), .lit (.int .u8 127), .lit (.int .u8 127), .lit (.int .u8 127), .lit (.int .u8 127), .lit (.int .u8 127), .lit (.int .u8 12), .lit (.int .u8 0), .lit (.int .u8 12), .lit (.int .u8 0), .lit (.int .u8 127), .lit (.int .u8 0), .lit (.int .u8 255), .lit (.int .u8 255), .lit (.int .u8 255), .lit (.int .u8 255), .lit (.int .u8 255), .lit (.int .u8 255), .lit (.int .u8 127), .lit (.int .u8 127), .lit (.int .u8 127), .lit (.int .u8 127), .lit (.int .u8 127), .lit (.int .u8 127), .lit (.int .u8 127), .lit (.int .u8 127), .lit (.int .u8 127), .lit (.int .u8 127), .lit (.int .u8 127), .lit (.int .u8 127), .lit (.int .u8 127), .lit (.int .u8 127), .lit (.int .u8 127), .lit (.int .u8 127), .lit (.int .u8 127), .lit (.int .u8 127), .lit (.int .u8 127), .lit (.int .u8 127), .lit (.int .u8 0), .lit (.int .u8 0), .lit (.int .u8 0), .lit (.int .u8 127), .lit (.int .u8 0), .lit (.int .u8 0), .lit (.int .u8 0), .lit (.int .u8 0), .lit (.int .u8 0), .lit (.int .u8 0), .lit (.int .u8 0), .lit (.int .u8 0), .lit (.int .u8 0), .lit (.int .u8 0), .lit (.int .u8 0), .lit (.int .u8 0), .lit (.int .u8 0), .lit (.int .u8 0), .lit (.int .u8 0), .lit (.int .u8 0), .lit (.int .u8 0), .lit (.int .u8 0), .lit (.int .u8 0), .lit (.int .u8 0), .lit (.int .u8 0), .lit (.int .u8 0), .lit (.int .u8 0), .lit (.int .u8 0), .lit (.int .u8 0), .lit (.int .u8 0), .lit (.int .u8 0), .lit (.int .u8 0), .lit (.int .u8 0), .lit (.int .u8 0), .lit (.int .u8 0), .lit (.int .u8 0), .lit (.int .u8 0), .lit (.int .u8 0), .lit (.int .u8 0), .lit (.int .u8 0), .lit (.int .u8 0), .lit (.int .u8 0), .lit (.int .u8 0), .lit (.int .u8 0), .lit (.int .u8 0), .lit (.int .u8 0), .lit (.int .u8 0), .lit (.int .u8 0), .lit (.int .u8 0), .lit (.int .u8 0), .lit (.int .u8 0), .lit (.int .u8 0), .lit (.int .u8 0), .lit (.int .u8 0), .lit (.int .u8 0), .lit (.int .u8 0), .lit (.int .u8 0), .lit (.int .u8 0), .lit (.int .u8 0), .lit (.int .u8 0), .lit (.int .u8 0), .lit (.int .u8 0), .lit (.int .u8 0), .lit (.int .u8 0), .lit (.int .u8 0), .lit (.int .u8 0), .lit (.int .u8 0), .lit (.int .u8 0), .lit (.int .u8 0), .lit (.int .u8 0), .lit (.int .u8 0), .lit (.int .u8 0), .lit (.int .u8 0), .lit (.int .u8 0), .lit (.int .u8 0), .lit (.int .u8 0), .lit (.int .u8 0), .lit (.int .u8 0), .lit (.int .u8 0), .lit (.int .u8 0), .lit (.int .u8 0), .lit (.int .u8 0), .lit (.int .u8 0), .lit (.int .u8 0), .lit (.int .u8 0), .lit (.int .u8 0), .lit (.int .u8 0), .lit (.int .u8 0), .lit (.int .u8 0), .lit (.int .u8 0), .lit (.int .u8 0), .lit (.int .u8 0), .lit (.int .u8 0), .lit (.int .u8 0), .lit (.int .u8 0), .lit (.int .u8 0), .lit (.int .u8 0), .lit (.int .u8 0), .lit (.int .u8 0), .lit (.int .u8 0), .lit (.int .u8 0), .lit (.int .u8 0), .lit (.int .u8 0), .lit (.int .u8 0), .lit (.int .u8 0), .lit (.int .u8 0), .lit (.int .u8 0), .lit (.int .u8 0), .lit (.int .u8 0), .lit (.int .u8 0), .lit (.int .u8 0), .lit (.int .u8 0), .lit (.int .u8 0), .lit (.int .u8 0), .lit (.int .u8 0), .lit (.int .u8 0), .lit (.int .u8 0), .lit (.int .u8 0), .lit (.int .u8 0), .lit (.int .u8 0), .lit (.int .u8 0), .lit (.int .u8 0), .lit (.int .u8 0), .lit (.int .u8 0), .lit (.int .u8 0), .lit (.int .u8 0), .lit (.int .u8 0), .lit (.int .u8 0), .lit (.int .u8 0), .lit (.int .u8 0), .lit (.int .u8 0), .lit (.int .u8 0), .lit (.int .u8 0)]

/-- 'laws.FnEncodeOrder': WHATEVER THE INPUT: true; the input reads as it did. -/
def fnEncodeOrderSpec : ChangeSpec := { name := "fnEncodeOrder", fn := fun _ => fun
  | [d1, d2] => { results := [.lit (.bool true)], args := [d1, d2] }
  | _ => none }
def fnEncodeOrderRow : OpenClaim := { program := "ytoeilmegjjmnkaadoor", sum := "10b1fb0dcc249e6703e7229e14320057d6fb2dce28784b43e924b7c8704faadc", func := "loop.example/lib-g03421/laws.FnEncodeOrder", spec := "fnEncodeOrder", inPlace := ["internal/abi.NoEscape"], recurses := true, named := ["net/url.table"], apart := false, laid := [("net/url.table", laid_net_url_table)] }
def FnEncodeOrderSaid : Prop := fnEncodeOrderRow.holds Tryd.pinned (OpenSpec.ofChange fnEncodeOrderSpec)

/-- ITS FALSE NEIGHBOUR: 'it returns false'. Refute it at one input. -/
def fnEncodeOrderWrong : ChangeSpec := { name := "fnEncodeOrder", fn := fun _ => fun
  | [d1, d2] => { results := [.lit (.bool false)], args := [d1, d2] }
  | _ => none }
def FnEncodeOrderWrongFalsely : Prop := fnEncodeOrderRow.holds Tryd.pinned (OpenSpec.ofChange fnEncodeOrderWrong)

/-- 'laws.FnEncodeSafe': WHATEVER THE INPUT: true; the input reads as it did. -/
def fnEncodeSafeSpec : ChangeSpec := { name := "fnEncodeSafe", fn := fun _ => fun
  | [d1, d2] => { results := [.lit (.bool true)], args := [d1, d2] }
  | _ => none }
def fnEncodeSafeRow : OpenClaim := { program := "ytoeilmegjjmnkaadoor", sum := "10b1fb0dcc249e6703e7229e14320057d6fb2dce28784b43e924b7c8704faadc", func := "loop.example/lib-g03421/laws.FnEncodeSafe", spec := "fnEncodeSafe", inPlace := ["internal/abi.NoEscape"], recurses := true, named := ["net/url.table"], apart := false, laid := [("net/url.table", laid_net_url_table)] }
def FnEncodeSafeSaid : Prop := fnEncodeSafeRow.holds Tryd.pinned (OpenSpec.ofChange fnEncodeSafeSpec)

/-- ITS FALSE NEIGHBOUR: 'it returns false'. Refute it at one input. -/
def fnEncodeSafeWrong : ChangeSpec := { name := "fnEncodeSafe", fn := fun _ => fun
  | [d1, d2] => { results := [.lit (.bool false)], args := [d1, d2] }
  | _ => none }
def FnEncodeSafeWrongFalsely : Prop := fnEncodeSafeRow.holds Tryd.pinned (OpenSpec.ofChange fnEncodeSafeWrong)

/-- 'laws.FnExactEncode': WHATEVER THE INPUT: true; the input reads as it did. -/
def fnExactEncodeSpec : ChangeSpec := { name := "fnExactEncode", fn := fun _ => fun
  | [d] => { results := [.lit (.bool true)], args := [d] }
  | _ => none }
def fnExactEncodeRow : OpenClaim := { program := "ytoeilmegjjmnkaadoor", sum := "10b1fb0dcc249e6703e7229e14320057d6fb2dce28784b43e924b7c8704faadc", func := "loop.example/lib-g03421/laws.FnExactEncode", spec := "fnExactEncode", inPlace := ["internal/abi.NoEscape"], recurses := true, named := ["net/url.table"], apart := false, laid := [("net/url.table", laid_net_url_table)] }
def FnExactEncodeSaid : Prop := fnExactEncodeRow.holds Tryd.pinned (OpenSpec.ofChange fnExactEncodeSpec)

/-- ITS FALSE NEIGHBOUR: 'it returns false'. Refute it at one input. -/
def fnExactEncodeWrong : ChangeSpec := { name := "fnExactEncode", fn := fun _ => fun
  | [d] => { results := [.lit (.bool false)], args := [d] }
  | _ => none }
def FnExactEncodeWrongFalsely : Prop := fnExactEncodeRow.holds Tryd.pinned (OpenSpec.ofChange fnExactEncodeWrong)

/-- 'laws.FnEncodeOne': WHATEVER THE INPUT: true; the input reads as it did. -/
def fnEncodeOneSpec : ChangeSpec := { name := "fnEncodeOne", fn := fun _ => fun
  | [d1, d2] => { results := [.lit (.bool true)], args := [d1, d2] }
  | _ => none }
def fnEncodeOneRow : OpenClaim := { program := "ytoeilmegjjmnkaadoor", sum := "10b1fb0dcc249e6703e7229e14320057d6fb2dce28784b43e924b7c8704faadc", func := "loop.example/lib-g03421/laws.FnEncodeOne", spec := "fnEncodeOne", inPlace := ["internal/abi.NoEscape"], recurses := true, named := ["net/url.table"], apart := false, laid := [("net/url.table", laid_net_url_table)] }
def FnEncodeOneSaid : Prop := fnEncodeOneRow.holds Tryd.pinned (OpenSpec.ofChange fnEncodeOneSpec)

/-- ITS FALSE NEIGHBOUR: 'it returns false'. Refute it at one input. -/
def fnEncodeOneWrong : ChangeSpec := { name := "fnEncodeOne", fn := fun _ => fun
  | [d1, d2] => { results := [.lit (.bool false)], args := [d1, d2] }
  | _ => none }
def FnEncodeOneWrongFalsely : Prop := fnEncodeOneRow.holds Tryd.pinned (OpenSpec.ofChange fnEncodeOneWrong)

/-- 'laws.FnEncodeTwo': WHATEVER THE INPUT: true; the input reads as it did. -/
def fnEncodeTwoSpec : ChangeSpec := { name := "fnEncodeTwo", fn := fun _ => fun
  | [d1, d2, d3] => { results := [.lit (.bool true)], args := [d1, d2, d3] }
  | _ => none }
def fnEncodeTwoRow : OpenClaim := { program := "ytoeilmegjjmnkaadoor", sum := "10b1fb0dcc249e6703e7229e14320057d6fb2dce28784b43e924b7c8704faadc", func := "loop.example/lib-g03421/laws.FnEncodeTwo", spec := "fnEncodeTwo", inPlace := ["internal/abi.NoEscape"], recurses := true, named := ["net/url.table"], apart := false, laid := [("net/url.table", laid_net_url_table)] }
def FnEncodeTwoSaid : Prop := fnEncodeTwoRow.holds Tryd.pinned (OpenSpec.ofChange fnEncodeTwoSpec)

/-- ITS FALSE NEIGHBOUR: 'it returns false'. Refute it at one input. -/
def fnEncodeTwoWrong : ChangeSpec := { name := "fnEncodeTwo", fn := fun _ => fun
  | [d1, d2, d3] => { results := [.lit (.bool false)], args := [d1, d2, d3] }
  | _ => none }
def FnEncodeTwoWrongFalsely : Prop := fnEncodeTwoRow.holds Tryd.pinned (OpenSpec.ofChange fnEncodeTwoWrong)

/-- 'laws.FnEncodeEmpty': WHATEVER THE INPUT: true; the input reads as it did. -/
def fnEncodeEmptySpec : ChangeSpec := { name := "fnEncodeEmpty", fn := fun _ => fun
  | [d1, d2, d3, d4] => { results := [.lit (.bool true)], args := [d1, d2, d3, d4] }
  | _ => none }
def fnEncodeEmptyRow : OpenClaim := { program := "ytoeilmegjjmnkaadoor", sum := "10b1fb0dcc249e6703e7229e14320057d6fb2dce28784b43e924b7c8704faadc", func := "loop.example/lib-g03421/laws.FnEncodeEmpty", spec := "fnEncodeEmpty", inPlace := ["internal/abi.NoEscape"], recurses := true, named := ["net/url.table"], apart := false, laid := [("net/url.table", laid_net_url_table)] }
def FnEncodeEmptySaid : Prop := fnEncodeEmptyRow.holds Tryd.pinned (OpenSpec.ofChange fnEncodeEmptySpec)

/-- ITS FALSE NEIGHBOUR: 'it returns false'. Refute it at one input. -/
def fnEncodeEmptyWrong : ChangeSpec := { name := "fnEncodeEmpty", fn := fun _ => fun
  | [d1, d2, d3, d4] => { results := [.lit (.bool false)], args := [d1, d2, d3, d4] }
  | _ => none }
def FnEncodeEmptyWrongFalsely : Prop := fnEncodeEmptyRow.holds Tryd.pinned (OpenSpec.ofChange fnEncodeEmptyWrong)

/- THE SECOND FORM. 'bulk': how many values and letters a reading holds, each counted each time it is reached (what is shared counts as often as it is met; a slice's spare places count too). A statement '..UptoSaid' is the law's where the arguments, and the package variables that the reading takes, are together of bulk at most 1048576: NARROWER than '..Said'. Prove '..Said' where nothing that the law and all that it calls make is longer than what came in: it says more and counts as full. Else prove '..UptoSaid'. A law counts once. -/
mutual
def uptoBulk {H : Type} : DataW H → Nat
  | .lit (.string bytes) => bytes.length + 1
  | .lit _ => 1
  | .nil => 1
  | .ptr d => uptoBulk d + 1
  | .slice elems spare => uptoBulkAll elems + uptoBulkAll spare + 1
  | .agg parts => uptoBulkAll parts + 1
  | .iface _ d => uptoBulk d + 1
  | .map entries => uptoBulkEntries entries + 1
  | .held _ => 1
def uptoBulkAll {H : Type} : List (DataW H) → Nat
  | [] => 0
  | d :: r => uptoBulk d + uptoBulkAll r
def uptoBulkEntries {H : Type} : List (Lit × DataW H) → Nat
  | [] => 0
  | x :: r => uptoBulkEntry x + uptoBulkEntries r
def uptoBulkEntry {H : Type} : Lit × DataW H → Nat
  | (.string bytes, d) => bytes.length + uptoBulk d + 1
  | (_, d) => uptoBulk d + 1
 end
def uptoSmall : (H : Type) → List (DataW H) → Bool := fun _ ds => decide (uptoBulkAll ds ≤ 1048576)
def OpenSpec.upto (s : _root_.Go.ChangeSpec) : _root_.Go.OpenSpec := { _root_.Go.OpenSpec.ofChange s with cond := some uptoSmall }

/-- 'laws.FnEncodeOrder', WHERE WHAT IT READS IS OF BULK AT MOST 1048576: true; the input reads as it did. -/
def fnEncodeOrderUptoRow : OpenClaim := { program := "ytoeilmegjjmnkaadoor", sum := "10b1fb0dcc249e6703e7229e14320057d6fb2dce28784b43e924b7c8704faadc", func := "loop.example/lib-g03421/laws.FnEncodeOrder", spec := "fnEncodeOrder", inPlace := ["internal/abi.NoEscape"], recurses := true, named := ["net/url.table"], apart := false, laid := [("net/url.table", laid_net_url_table)], narrowed := true }
def FnEncodeOrderUptoSaid : Prop := fnEncodeOrderUptoRow.holds Tryd.pinned (OpenSpec.upto fnEncodeOrderSpec)

/-- 'laws.FnEncodeSafe', WHERE WHAT IT READS IS OF BULK AT MOST 1048576: true; the input reads as it did. -/
def fnEncodeSafeUptoRow : OpenClaim := { program := "ytoeilmegjjmnkaadoor", sum := "10b1fb0dcc249e6703e7229e14320057d6fb2dce28784b43e924b7c8704faadc", func := "loop.example/lib-g03421/laws.FnEncodeSafe", spec := "fnEncodeSafe", inPlace := ["internal/abi.NoEscape"], recurses := true, named := ["net/url.table"], apart := false, laid := [("net/url.table", laid_net_url_table)], narrowed := true }
def FnEncodeSafeUptoSaid : Prop := fnEncodeSafeUptoRow.holds Tryd.pinned (OpenSpec.upto fnEncodeSafeSpec)

/-- 'laws.FnExactEncode', WHERE WHAT IT READS IS OF BULK AT MOST 1048576: true; the input reads as it did. -/
def fnExactEncodeUptoRow : OpenClaim := { program := "ytoeilmegjjmnkaadoor", sum := "10b1fb0dcc249e6703e7229e14320057d6fb2dce28784b43e924b7c8704faadc", func := "loop.example/lib-g03421/laws.FnExactEncode", spec := "fnExactEncode", inPlace := ["internal/abi.NoEscape"], recurses := true, named := ["net/url.table"], apart := false, laid := [("net/url.table", laid_net_url_table)], narrowed := true }
def FnExactEncodeUptoSaid : Prop := fnExactEncodeUptoRow.holds Tryd.pinned (OpenSpec.upto fnExactEncodeSpec)

/-- 'laws.FnEncodeOne', WHERE WHAT IT READS IS OF BULK AT MOST 1048576: true; the input reads as it did. -/
def fnEncodeOneUptoRow : OpenClaim := { program := "ytoeilmegjjmnkaadoor", sum := "10b1fb0dcc249e6703e7229e14320057d6fb2dce28784b43e924b7c8704faadc", func := "loop.example/lib-g03421/laws.FnEncodeOne", spec := "fnEncodeOne", inPlace := ["internal/abi.NoEscape"], recurses := true, named := ["net/url.table"], apart := false, laid := [("net/url.table", laid_net_url_table)], narrowed := true }
def FnEncodeOneUptoSaid : Prop := fnEncodeOneUptoRow.holds Tryd.pinned (OpenSpec.upto fnEncodeOneSpec)

/-- 'laws.FnEncodeTwo', WHERE WHAT IT READS IS OF BULK AT MOST 1048576: true; the input reads as it did. -/
def fnEncodeTwoUptoRow : OpenClaim := { program := "ytoeilmegjjmnkaadoor", sum := "10b1fb0dcc249e6703e7229e14320057d6fb2dce28784b43e924b7c8704faadc", func := "loop.example/lib-g03421/laws.FnEncodeTwo", spec := "fnEncodeTwo", inPlace := ["internal/abi.NoEscape"], recurses := true, named := ["net/url.table"], apart := false, laid := [("net/url.table", laid_net_url_table)], narrowed := true }
def FnEncodeTwoUptoSaid : Prop := fnEncodeTwoUptoRow.holds Tryd.pinned (OpenSpec.upto fnEncodeTwoSpec)

/-- 'laws.FnEncodeEmpty', WHERE WHAT IT READS IS OF BULK AT MOST 1048576: true; the input reads as it did. -/
def fnEncodeEmptyUptoRow : OpenClaim := { program := "ytoeilmegjjmnkaadoor", sum := "10b1fb0dcc249e6703e7229e14320057d6fb2dce28784b43e924b7c8704faadc", func := "loop.example/lib-g03421/laws.FnEncodeEmpty", spec := "fnEncodeEmpty", inPlace := ["internal/abi.NoEscape"], recurses := true, named := ["net/url.table"], apart := false, laid := [("net/url.table", laid_net_url_table)], narrowed := true }
def FnEncodeEmptyUptoSaid : Prop := fnEncodeEmptyUptoRow.holds Tryd.pinned (OpenSpec.upto fnEncodeEmptySpec)

end Rows
end Go.Proofs.YtoeilmegjjmnkaaDoor
