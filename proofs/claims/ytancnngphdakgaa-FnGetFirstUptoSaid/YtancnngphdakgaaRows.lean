/-
  No cell of these rows narrows 'for every input' (looked for: loops, veiled, ifaces, maps, wideKeys, modest, calm, conditions, laid).
  DERIVED. THE GIVEN ROWS OF THIS SEAT. 8 by the template 'for every input the law returns true; each argument reads behind the call as it read before'; 0 by the template 'total and deterministic' (their statements: YtancnngphdakgaaTotals.lean).
  GIVEN WITH THE SEED: the statements are not yours to turn. If you find one false, say at which input.
  Laid BY PROGRAM, IN A SANDBOX (cutbox-rows.mjs): the forced cells as the released guide's own fill.sh prints them over the translation 406f3d6424cfc698… (all of the seat's roots in one cut). By AI agents, Wed Nov 11 2026. No macro, syntax, notation, axiom, sorry.
-/
import Derived.Test.YtancnngphdakgaaChecked
import GoSem.Claim
import GoSem.ClaimJoined
import GoSem.ClaimMapViews
import Derived.JoinedTies
import Derived.KernelRfl
namespace Go.Proofs.Ytancnngphdakgaa
/- THE CELL 'sum', in the pinned program and in every row, IS THE sha256 OF THE DUMP (.gsa) THAT YtancnngphdakgaaProg.lean LOADS. Nothing in Lean hashes anything: it is a label: what it is worth is what the hold of that sum in a sandbox is worth. -/
noncomputable def Try.pinned : Pinned := { name := "ytancnngphdakgaa", sum := "406f3d6424cfc6982579bf97b297ede66b1a435de7d74b33e6b74d6c8ae931be", checked := Try.checked }
namespace Rows
def none {H : Type} : Left H := { results := [], args := [] }

/-- 'laws.FnExactHas': WHATEVER THE INPUT: true; the input reads as it did. -/
def fnExactHasSpec : ChangeSpec := { name := "fnExactHas", fn := fun _ => fun
  | [d1, d2] => { results := [.lit (.bool true)], args := [d1, d2] }
  | _ => none }
def fnExactHasRow : OpenClaim := { program := "ytancnngphdakgaa", sum := "406f3d6424cfc6982579bf97b297ede66b1a435de7d74b33e6b74d6c8ae931be", func := "loop.example/lib-g03421/laws.FnExactHas", spec := "fnExactHas", apart := false }
def FnExactHasSaid : Prop := fnExactHasRow.holds Try.pinned (OpenSpec.ofChange fnExactHasSpec)

/-- ITS FALSE NEIGHBOUR: 'it returns false'. Refute it at one input. -/
def fnExactHasWrong : ChangeSpec := { name := "fnExactHas", fn := fun _ => fun
  | [d1, d2] => { results := [.lit (.bool false)], args := [d1, d2] }
  | _ => none }
def FnExactHasWrongFalsely : Prop := fnExactHasRow.holds Try.pinned (OpenSpec.ofChange fnExactHasWrong)

/-- 'laws.FnExactGet': WHATEVER THE INPUT: true; the input reads as it did. -/
def fnExactGetSpec : ChangeSpec := { name := "fnExactGet", fn := fun _ => fun
  | [d1, d2] => { results := [.lit (.bool true)], args := [d1, d2] }
  | _ => none }
def fnExactGetRow : OpenClaim := { program := "ytancnngphdakgaa", sum := "406f3d6424cfc6982579bf97b297ede66b1a435de7d74b33e6b74d6c8ae931be", func := "loop.example/lib-g03421/laws.FnExactGet", spec := "fnExactGet", apart := false }
def FnExactGetSaid : Prop := fnExactGetRow.holds Try.pinned (OpenSpec.ofChange fnExactGetSpec)

/-- ITS FALSE NEIGHBOUR: 'it returns false'. Refute it at one input. -/
def fnExactGetWrong : ChangeSpec := { name := "fnExactGet", fn := fun _ => fun
  | [d1, d2] => { results := [.lit (.bool false)], args := [d1, d2] }
  | _ => none }
def FnExactGetWrongFalsely : Prop := fnExactGetRow.holds Try.pinned (OpenSpec.ofChange fnExactGetWrong)

/-- 'laws.FnExactAdd': WHATEVER THE INPUT: true; the input reads as it did. -/
def fnExactAddSpec : ChangeSpec := { name := "fnExactAdd", fn := fun _ => fun
  | [d1, d2, d3, d4] => { results := [.lit (.bool true)], args := [d1, d2, d3, d4] }
  | _ => none }
def fnExactAddRow : OpenClaim := { program := "ytancnngphdakgaa", sum := "406f3d6424cfc6982579bf97b297ede66b1a435de7d74b33e6b74d6c8ae931be", func := "loop.example/lib-g03421/laws.FnExactAdd", spec := "fnExactAdd", apart := false }
def FnExactAddSaid : Prop := fnExactAddRow.holds Try.pinned (OpenSpec.ofChange fnExactAddSpec)

/-- ITS FALSE NEIGHBOUR: 'it returns false'. Refute it at one input. -/
def fnExactAddWrong : ChangeSpec := { name := "fnExactAdd", fn := fun _ => fun
  | [d1, d2, d3, d4] => { results := [.lit (.bool false)], args := [d1, d2, d3, d4] }
  | _ => none }
def FnExactAddWrongFalsely : Prop := fnExactAddRow.holds Try.pinned (OpenSpec.ofChange fnExactAddWrong)

/-- 'laws.FnExactDel': WHATEVER THE INPUT: true; the input reads as it did. -/
def fnExactDelSpec : ChangeSpec := { name := "fnExactDel", fn := fun _ => fun
  | [d1, d2, d3] => { results := [.lit (.bool true)], args := [d1, d2, d3] }
  | _ => none }
def fnExactDelRow : OpenClaim := { program := "ytancnngphdakgaa", sum := "406f3d6424cfc6982579bf97b297ede66b1a435de7d74b33e6b74d6c8ae931be", func := "loop.example/lib-g03421/laws.FnExactDel", spec := "fnExactDel", apart := false }
def FnExactDelSaid : Prop := fnExactDelRow.holds Try.pinned (OpenSpec.ofChange fnExactDelSpec)

/-- ITS FALSE NEIGHBOUR: 'it returns false'. Refute it at one input. -/
def fnExactDelWrong : ChangeSpec := { name := "fnExactDel", fn := fun _ => fun
  | [d1, d2, d3] => { results := [.lit (.bool false)], args := [d1, d2, d3] }
  | _ => none }
def FnExactDelWrongFalsely : Prop := fnExactDelRow.holds Try.pinned (OpenSpec.ofChange fnExactDelWrong)

/-- 'laws.FnExactSet': WHATEVER THE INPUT: true; the input reads as it did. -/
def fnExactSetSpec : ChangeSpec := { name := "fnExactSet", fn := fun _ => fun
  | [d1, d2, d3, d4] => { results := [.lit (.bool true)], args := [d1, d2, d3, d4] }
  | _ => none }
def fnExactSetRow : OpenClaim := { program := "ytancnngphdakgaa", sum := "406f3d6424cfc6982579bf97b297ede66b1a435de7d74b33e6b74d6c8ae931be", func := "loop.example/lib-g03421/laws.FnExactSet", spec := "fnExactSet", apart := false }
def FnExactSetSaid : Prop := fnExactSetRow.holds Try.pinned (OpenSpec.ofChange fnExactSetSpec)

/-- ITS FALSE NEIGHBOUR: 'it returns false'. Refute it at one input. -/
def fnExactSetWrong : ChangeSpec := { name := "fnExactSet", fn := fun _ => fun
  | [d1, d2, d3, d4] => { results := [.lit (.bool false)], args := [d1, d2, d3, d4] }
  | _ => none }
def FnExactSetWrongFalsely : Prop := fnExactSetRow.holds Try.pinned (OpenSpec.ofChange fnExactSetWrong)

/-- 'laws.FnSetOne': WHATEVER THE INPUT: true; the input reads as it did. -/
def fnSetOneSpec : ChangeSpec := { name := "fnSetOne", fn := fun _ => fun
  | [d1, d2, d3, d4] => { results := [.lit (.bool true)], args := [d1, d2, d3, d4] }
  | _ => none }
def fnSetOneRow : OpenClaim := { program := "ytancnngphdakgaa", sum := "406f3d6424cfc6982579bf97b297ede66b1a435de7d74b33e6b74d6c8ae931be", func := "loop.example/lib-g03421/laws.FnSetOne", spec := "fnSetOne", apart := false }
def FnSetOneSaid : Prop := fnSetOneRow.holds Try.pinned (OpenSpec.ofChange fnSetOneSpec)

/-- ITS FALSE NEIGHBOUR: 'it returns false'. Refute it at one input. -/
def fnSetOneWrong : ChangeSpec := { name := "fnSetOne", fn := fun _ => fun
  | [d1, d2, d3, d4] => { results := [.lit (.bool false)], args := [d1, d2, d3, d4] }
  | _ => none }
def FnSetOneWrongFalsely : Prop := fnSetOneRow.holds Try.pinned (OpenSpec.ofChange fnSetOneWrong)

/-- 'laws.FnGetFirst': WHATEVER THE INPUT: true; the input reads as it did. -/
def fnGetFirstSpec : ChangeSpec := { name := "fnGetFirst", fn := fun _ => fun
  | [d1, d2, d3] => { results := [.lit (.bool true)], args := [d1, d2, d3] }
  | _ => none }
def fnGetFirstRow : OpenClaim := { program := "ytancnngphdakgaa", sum := "406f3d6424cfc6982579bf97b297ede66b1a435de7d74b33e6b74d6c8ae931be", func := "loop.example/lib-g03421/laws.FnGetFirst", spec := "fnGetFirst", apart := false }
def FnGetFirstSaid : Prop := fnGetFirstRow.holds Try.pinned (OpenSpec.ofChange fnGetFirstSpec)

/-- ITS FALSE NEIGHBOUR: 'it returns false'. Refute it at one input. -/
def fnGetFirstWrong : ChangeSpec := { name := "fnGetFirst", fn := fun _ => fun
  | [d1, d2, d3] => { results := [.lit (.bool false)], args := [d1, d2, d3] }
  | _ => none }
def FnGetFirstWrongFalsely : Prop := fnGetFirstRow.holds Try.pinned (OpenSpec.ofChange fnGetFirstWrong)

/-- 'laws.FnGetPair': WHATEVER THE INPUT: true; the input reads as it did. -/
def fnGetPairSpec : ChangeSpec := { name := "fnGetPair", fn := fun _ => fun
  | [d1, d2, d3] => { results := [.lit (.bool true)], args := [d1, d2, d3] }
  | _ => none }
def fnGetPairRow : OpenClaim := { program := "ytancnngphdakgaa", sum := "406f3d6424cfc6982579bf97b297ede66b1a435de7d74b33e6b74d6c8ae931be", func := "loop.example/lib-g03421/laws.FnGetPair", spec := "fnGetPair", apart := false }
def FnGetPairSaid : Prop := fnGetPairRow.holds Try.pinned (OpenSpec.ofChange fnGetPairSpec)

/-- ITS FALSE NEIGHBOUR: 'it returns false'. Refute it at one input. -/
def fnGetPairWrong : ChangeSpec := { name := "fnGetPair", fn := fun _ => fun
  | [d1, d2, d3] => { results := [.lit (.bool false)], args := [d1, d2, d3] }
  | _ => none }
def FnGetPairWrongFalsely : Prop := fnGetPairRow.holds Try.pinned (OpenSpec.ofChange fnGetPairWrong)

/- THE SECOND FORM. 'bulk': how many values and letters a reading holds, each counted each time it is reached (what is shared counts as often as it is met; a slice's spare places count too). A statement '..UptoSaid' is the law's where the arguments, and the package variables that the reading takes, are together of bulk at most 1048576: NARROWER than '..Said'. Prove '..Said' where nothing that the law and all that it calls make is longer than what came in: it says more and counts as full. Else prove '..UptoSaid'. A law counts once. -/
mutual
def uptoBulk {H : Type} : DataW H → Nat
  | .lit (.string bytes) => bytes.length + 1
  | .lit _ => 1
  | .nil => 1
  | .ptr d => uptoBulk d + 1
  | .slice elems spare => uptoBulkAll elems + uptoBulkAll spare + 1
  | .agg parts => uptoBulkAll parts + 1
  | .iface _ d => uptoBulk d + 1
  | .map entries => uptoBulkEntries entries + 1
  | .held _ => 1
def uptoBulkAll {H : Type} : List (DataW H) → Nat
  | [] => 0
  | d :: r => uptoBulk d + uptoBulkAll r
def uptoBulkEntries {H : Type} : List (Lit × DataW H) → Nat
  | [] => 0
  | x :: r => uptoBulkEntry x + uptoBulkEntries r
def uptoBulkEntry {H : Type} : Lit × DataW H → Nat
  | (.string bytes, d) => bytes.length + uptoBulk d + 1
  | (_, d) => uptoBulk d + 1
 end
def uptoSmall : (H : Type) → List (DataW H) → Bool := fun _ ds => decide (uptoBulkAll ds ≤ 1048576)
def OpenSpec.upto (s : _root_.Go.ChangeSpec) : _root_.Go.OpenSpec := { _root_.Go.OpenSpec.ofChange s with cond := some uptoSmall }

/-- 'laws.FnExactHas', WHERE WHAT IT READS IS OF BULK AT MOST 1048576: true; the input reads as it did. -/
def fnExactHasUptoRow : OpenClaim := { program := "ytancnngphdakgaa", sum := "406f3d6424cfc6982579bf97b297ede66b1a435de7d74b33e6b74d6c8ae931be", func := "loop.example/lib-g03421/laws.FnExactHas", spec := "fnExactHas", apart := false, narrowed := true }
def FnExactHasUptoSaid : Prop := fnExactHasUptoRow.holds Try.pinned (OpenSpec.upto fnExactHasSpec)

/-- 'laws.FnExactGet', WHERE WHAT IT READS IS OF BULK AT MOST 1048576: true; the input reads as it did. -/
def fnExactGetUptoRow : OpenClaim := { program := "ytancnngphdakgaa", sum := "406f3d6424cfc6982579bf97b297ede66b1a435de7d74b33e6b74d6c8ae931be", func := "loop.example/lib-g03421/laws.FnExactGet", spec := "fnExactGet", apart := false, narrowed := true }
def FnExactGetUptoSaid : Prop := fnExactGetUptoRow.holds Try.pinned (OpenSpec.upto fnExactGetSpec)

/-- 'laws.FnExactAdd', WHERE WHAT IT READS IS OF BULK AT MOST 1048576: true; the input reads as it did. -/
def fnExactAddUptoRow : OpenClaim := { program := "ytancnngphdakgaa", sum := "406f3d6424cfc6982579bf97b297ede66b1a435de7d74b33e6b74d6c8ae931be", func := "loop.example/lib-g03421/laws.FnExactAdd", spec := "fnExactAdd", apart := false, narrowed := true }
def FnExactAddUptoSaid : Prop := fnExactAddUptoRow.holds Try.pinned (OpenSpec.upto fnExactAddSpec)

/-- 'laws.FnExactDel', WHERE WHAT IT READS IS OF BULK AT MOST 1048576: true; the input reads as it did. -/
def fnExactDelUptoRow : OpenClaim := { program := "ytancnngphdakgaa", sum := "406f3d6424cfc6982579bf97b297ede66b1a435de7d74b33e6b74d6c8ae931be", func := "loop.example/lib-g03421/laws.FnExactDel", spec := "fnExactDel", apart := false, narrowed := true }
def FnExactDelUptoSaid : Prop := fnExactDelUptoRow.holds Try.pinned (OpenSpec.upto fnExactDelSpec)

/-- 'laws.FnExactSet', WHERE WHAT IT READS IS OF BULK AT MOST 1048576: true; the input reads as it did. -/
def fnExactSetUptoRow : OpenClaim := { program := "ytancnngphdakgaa", sum := "406f3d6424cfc6982579bf97b297ede66b1a435de7d74b33e6b74d6c8ae931be", func := "loop.example/lib-g03421/laws.FnExactSet", spec := "fnExactSet", apart := false, narrowed := true }
def FnExactSetUptoSaid : Prop := fnExactSetUptoRow.holds Try.pinned (OpenSpec.upto fnExactSetSpec)

/-- 'laws.FnSetOne', WHERE WHAT IT READS IS OF BULK AT MOST 1048576: true; the input reads as it did. -/
def fnSetOneUptoRow : OpenClaim := { program := "ytancnngphdakgaa", sum := "406f3d6424cfc6982579bf97b297ede66b1a435de7d74b33e6b74d6c8ae931be", func := "loop.example/lib-g03421/laws.FnSetOne", spec := "fnSetOne", apart := false, narrowed := true }
def FnSetOneUptoSaid : Prop := fnSetOneUptoRow.holds Try.pinned (OpenSpec.upto fnSetOneSpec)

/-- 'laws.FnGetFirst', WHERE WHAT IT READS IS OF BULK AT MOST 1048576: true; the input reads as it did. -/
def fnGetFirstUptoRow : OpenClaim := { program := "ytancnngphdakgaa", sum := "406f3d6424cfc6982579bf97b297ede66b1a435de7d74b33e6b74d6c8ae931be", func := "loop.example/lib-g03421/laws.FnGetFirst", spec := "fnGetFirst", apart := false, narrowed := true }
def FnGetFirstUptoSaid : Prop := fnGetFirstUptoRow.holds Try.pinned (OpenSpec.upto fnGetFirstSpec)

/-- 'laws.FnGetPair', WHERE WHAT IT READS IS OF BULK AT MOST 1048576: true; the input reads as it did. -/
def fnGetPairUptoRow : OpenClaim := { program := "ytancnngphdakgaa", sum := "406f3d6424cfc6982579bf97b297ede66b1a435de7d74b33e6b74d6c8ae931be", func := "loop.example/lib-g03421/laws.FnGetPair", spec := "fnGetPair", apart := false, narrowed := true }
def FnGetPairUptoSaid : Prop := fnGetPairUptoRow.holds Try.pinned (OpenSpec.upto fnGetPairSpec)

end Rows
end Go.Proofs.Ytancnngphdakgaa
