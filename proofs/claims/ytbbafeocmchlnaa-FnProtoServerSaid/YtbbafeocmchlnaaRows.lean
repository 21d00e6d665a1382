/-
  No cell of these rows narrows 'for every input' (looked for: loops, veiled, ifaces, maps, wideKeys, modest, calm, conditions, laid).
  DERIVED. THE GIVEN ROWS OF THIS SEAT. 10 by the template 'for every input the law returns true; each argument reads behind the call as it read before'; 0 by the template 'total and deterministic' (their statements: YtbbafeocmchlnaaTotals.lean).
  GIVEN WITH THE SEED: the statements are not yours to turn. If you find one false, say at which input.
  Laid BY PROGRAM, IN A SANDBOX (cutbox-rows.mjs): the forced cells as the released guide's own fill.sh prints them over the translation f0aab26748a0576d… (all of the seat's roots in one cut). By AI agents, Wed Nov 11 2026. No macro, syntax, notation, axiom, sorry.
-/
import Derived.Test.YtbbafeocmchlnaaChecked
import GoSem.Claim
import GoSem.ClaimJoined
import GoSem.ClaimMapViews
import Derived.JoinedTies
import Derived.KernelRfl
namespace Go.Proofs.Ytbbafeocmchlnaa
/- THE CELL 'sum', in the pinned program and in every row, IS THE sha256 OF THE DUMP (.gsa) THAT YtbbafeocmchlnaaProg.lean LOADS. Nothing in Lean hashes anything: it is a label: what it is worth is what the hold of that sum in a sandbox is worth. -/
noncomputable def Try.pinned : Pinned := { name := "ytbbafeocmchlnaa", sum := "f0aab26748a0576dff7175846448c6b5346e6bb3c2ba055db836e15efe12e408", checked := Try.checked }
namespace Rows
def none {H : Type} : Left H := { results := [], args := [] }

/-- 'laws.FnProtoHello': WHATEVER THE INPUT: true; the input reads as it did. -/
def fnProtoHelloSpec : ChangeSpec := { name := "fnProtoHello", fn := fun _ => fun
  | [d1, d2, d3] => { results := [.lit (.bool true)], args := [d1, d2, d3] }
  | _ => none }
def fnProtoHelloRow : OpenClaim := { program := "ytbbafeocmchlnaa", sum := "f0aab26748a0576dff7175846448c6b5346e6bb3c2ba055db836e15efe12e408", func := "given.example/pub-assaymark/laws.FnProtoHello", spec := "fnProtoHello", apart := false }
def FnProtoHelloSaid : Prop := fnProtoHelloRow.holds Try.pinned (OpenSpec.ofChange fnProtoHelloSpec)

/-- ITS FALSE NEIGHBOUR: 'it returns false'. Refute it at one input. -/
def fnProtoHelloWrong : ChangeSpec := { name := "fnProtoHello", fn := fun _ => fun
  | [d1, d2, d3] => { results := [.lit (.bool false)], args := [d1, d2, d3] }
  | _ => none }
def FnProtoHelloWrongFalsely : Prop := fnProtoHelloRow.holds Try.pinned (OpenSpec.ofChange fnProtoHelloWrong)

/-- 'laws.FnProtoParams': WHATEVER THE INPUT: true; the input reads as it did. -/
def fnProtoParamsSpec : ChangeSpec := { name := "fnProtoParams", fn := fun _ => fun
  | [d1, d2] => { results := [.lit (.bool true)], args := [d1, d2] }
  | _ => none }
def fnProtoParamsRow : OpenClaim := { program := "ytbbafeocmchlnaa", sum := "f0aab26748a0576dff7175846448c6b5346e6bb3c2ba055db836e15efe12e408", func := "given.example/pub-assaymark/laws.FnProtoParams", spec := "fnProtoParams", apart := false }
def FnProtoParamsSaid : Prop := fnProtoParamsRow.holds Try.pinned (OpenSpec.ofChange fnProtoParamsSpec)

/-- ITS FALSE NEIGHBOUR: 'it returns false'. Refute it at one input. -/
def fnProtoParamsWrong : ChangeSpec := { name := "fnProtoParams", fn := fun _ => fun
  | [d1, d2] => { results := [.lit (.bool false)], args := [d1, d2] }
  | _ => none }
def FnProtoParamsWrongFalsely : Prop := fnProtoParamsRow.holds Try.pinned (OpenSpec.ofChange fnProtoParamsWrong)

/-- 'laws.FnProtoProfile': WHATEVER THE INPUT: true; the input reads as it did. -/
def fnProtoProfileSpec : ChangeSpec := { name := "fnProtoProfile", fn := fun _ => fun
  | [d1, d2, d3, d4] => { results := [.lit (.bool true)], args := [d1, d2, d3, d4] }
  | _ => none }
def fnProtoProfileRow : OpenClaim := { program := "ytbbafeocmchlnaa", sum := "f0aab26748a0576dff7175846448c6b5346e6bb3c2ba055db836e15efe12e408", func := "given.example/pub-assaymark/laws.FnProtoProfile", spec := "fnProtoProfile", unfollowed := true, recurses := true, apart := false }
def FnProtoProfileSaid : Prop := fnProtoProfileRow.holds Try.pinned (OpenSpec.ofChange fnProtoProfileSpec)

/-- ITS FALSE NEIGHBOUR: 'it returns false'. Refute it at one input. -/
def fnProtoProfileWrong : ChangeSpec := { name := "fnProtoProfile", fn := fun _ => fun
  | [d1, d2, d3, d4] => { results := [.lit (.bool false)], args := [d1, d2, d3, d4] }
  | _ => none }
def FnProtoProfileWrongFalsely : Prop := fnProtoProfileRow.holds Try.pinned (OpenSpec.ofChange fnProtoProfileWrong)

/-- 'laws.FnProtoTable': WHATEVER THE INPUT: true; the input reads as it did. -/
def fnProtoTableSpec : ChangeSpec := { name := "fnProtoTable", fn := fun _ => fun
  | [d1, d2, d3, d4, d5] => { results := [.lit (.bool true)], args := [d1, d2, d3, d4, d5] }
  | _ => none }
def fnProtoTableRow : OpenClaim := { program := "ytbbafeocmchlnaa", sum := "f0aab26748a0576dff7175846448c6b5346e6bb3c2ba055db836e15efe12e408", func := "given.example/pub-assaymark/laws.FnProtoTable", spec := "fnProtoTable", apart := false }
def FnProtoTableSaid : Prop := fnProtoTableRow.holds Try.pinned (OpenSpec.ofChange fnProtoTableSpec)

/-- ITS FALSE NEIGHBOUR: 'it returns false'. Refute it at one input. -/
def fnProtoTableWrong : ChangeSpec := { name := "fnProtoTable", fn := fun _ => fun
  | [d1, d2, d3, d4, d5] => { results := [.lit (.bool false)], args := [d1, d2, d3, d4, d5] }
  | _ => none }
def FnProtoTableWrongFalsely : Prop := fnProtoTableRow.holds Try.pinned (OpenSpec.ofChange fnProtoTableWrong)

/-- 'laws.FnProtoSettings': WHATEVER THE INPUT: true; the input reads as it did. -/
def fnProtoSettingsSpec : ChangeSpec := { name := "fnProtoSettings", fn := fun _ => fun
  | [d1, d2] => { results := [.lit (.bool true)], args := [d1, d2] }
  | _ => none }
def fnProtoSettingsRow : OpenClaim := { program := "ytbbafeocmchlnaa", sum := "f0aab26748a0576dff7175846448c6b5346e6bb3c2ba055db836e15efe12e408", func := "given.example/pub-assaymark/laws.FnProtoSettings", spec := "fnProtoSettings", apart := false }
def FnProtoSettingsSaid : Prop := fnProtoSettingsRow.holds Try.pinned (OpenSpec.ofChange fnProtoSettingsSpec)

/-- ITS FALSE NEIGHBOUR: 'it returns false'. Refute it at one input. -/
def fnProtoSettingsWrong : ChangeSpec := { name := "fnProtoSettings", fn := fun _ => fun
  | [d1, d2] => { results := [.lit (.bool false)], args := [d1, d2] }
  | _ => none }
def FnProtoSettingsWrongFalsely : Prop := fnProtoSettingsRow.holds Try.pinned (OpenSpec.ofChange fnProtoSettingsWrong)

/-- 'laws.FnProtoVersion': WHATEVER THE INPUT: true; the input reads as it did. -/
def fnProtoVersionSpec : ChangeSpec := { name := "fnProtoVersion", fn := fun _ => fun
  | [d1, d2] => { results := [.lit (.bool true)], args := [d1, d2] }
  | _ => none }
def fnProtoVersionRow : OpenClaim := { program := "ytbbafeocmchlnaa", sum := "f0aab26748a0576dff7175846448c6b5346e6bb3c2ba055db836e15efe12e408", func := "given.example/pub-assaymark/laws.FnProtoVersion", spec := "fnProtoVersion", apart := false }
def FnProtoVersionSaid : Prop := fnProtoVersionRow.holds Try.pinned (OpenSpec.ofChange fnProtoVersionSpec)

/-- ITS FALSE NEIGHBOUR: 'it returns false'. Refute it at one input. -/
def fnProtoVersionWrong : ChangeSpec := { name := "fnProtoVersion", fn := fun _ => fun
  | [d1, d2] => { results := [.lit (.bool false)], args := [d1, d2] }
  | _ => none }
def FnProtoVersionWrongFalsely : Prop := fnProtoVersionRow.holds Try.pinned (OpenSpec.ofChange fnProtoVersionWrong)

/-- 'laws.FnProtoServer': WHATEVER THE INPUT: true; the input reads as it did. -/
def fnProtoServerSpec : ChangeSpec := { name := "fnProtoServer", fn := fun _ => fun
  | [d1, d2, d3] => { results := [.lit (.bool true)], args := [d1, d2, d3] }
  | _ => none }
def fnProtoServerRow : OpenClaim := { program := "ytbbafeocmchlnaa", sum := "f0aab26748a0576dff7175846448c6b5346e6bb3c2ba055db836e15efe12e408", func := "given.example/pub-assaymark/laws.FnProtoServer", spec := "fnProtoServer", apart := false }
def FnProtoServerSaid : Prop := fnProtoServerRow.holds Try.pinned (OpenSpec.ofChange fnProtoServerSpec)

/-- ITS FALSE NEIGHBOUR: 'it returns false'. Refute it at one input. -/
def fnProtoServerWrong : ChangeSpec := { name := "fnProtoServer", fn := fun _ => fun
  | [d1, d2, d3] => { results := [.lit (.bool false)], args := [d1, d2, d3] }
  | _ => none }
def FnProtoServerWrongFalsely : Prop := fnProtoServerRow.holds Try.pinned (OpenSpec.ofChange fnProtoServerWrong)

/-- 'laws.FnProtoProgress': WHATEVER THE INPUT: true; the input reads as it did. -/
def fnProtoProgressSpec : ChangeSpec := { name := "fnProtoProgress", fn := fun _ => fun
  | [d1, d2, d3, d4] => { results := [.lit (.bool true)], args := [d1, d2, d3, d4] }
  | _ => none }
def fnProtoProgressRow : OpenClaim := { program := "ytbbafeocmchlnaa", sum := "f0aab26748a0576dff7175846448c6b5346e6bb3c2ba055db836e15efe12e408", func := "given.example/pub-assaymark/laws.FnProtoProgress", spec := "fnProtoProgress", unfollowed := true, recurses := true, apart := false }
def FnProtoProgressSaid : Prop := fnProtoProgressRow.holds Try.pinned (OpenSpec.ofChange fnProtoProgressSpec)

/-- ITS FALSE NEIGHBOUR: 'it returns false'. Refute it at one input. -/
def fnProtoProgressWrong : ChangeSpec := { name := "fnProtoProgress", fn := fun _ => fun
  | [d1, d2, d3, d4] => { results := [.lit (.bool false)], args := [d1, d2, d3, d4] }
  | _ => none }
def FnProtoProgressWrongFalsely : Prop := fnProtoProgressRow.holds Try.pinned (OpenSpec.ofChange fnProtoProgressWrong)

/-- 'laws.FnSumKind': WHATEVER THE INPUT: true; the input reads as it did. -/
def fnSumKindSpec : ChangeSpec := { name := "fnSumKind", fn := fun _ => fun
  | [d1, d2] => { results := [.lit (.bool true)], args := [d1, d2] }
  | _ => none }
def fnSumKindRow : OpenClaim := { program := "ytbbafeocmchlnaa", sum := "f0aab26748a0576dff7175846448c6b5346e6bb3c2ba055db836e15efe12e408", func := "given.example/pub-assaymark/laws.FnSumKind", spec := "fnSumKind", apart := false }
def FnSumKindSaid : Prop := fnSumKindRow.holds Try.pinned (OpenSpec.ofChange fnSumKindSpec)

/-- ITS FALSE NEIGHBOUR: 'it returns false'. Refute it at one input. -/
def fnSumKindWrong : ChangeSpec := { name := "fnSumKind", fn := fun _ => fun
  | [d1, d2] => { results := [.lit (.bool false)], args := [d1, d2] }
  | _ => none }
def FnSumKindWrongFalsely : Prop := fnSumKindRow.holds Try.pinned (OpenSpec.ofChange fnSumKindWrong)

/-- 'laws.FnNotify': WHATEVER THE INPUT: true; the input reads as it did. -/
def fnNotifySpec : ChangeSpec := { name := "fnNotify", fn := fun _ => fun
  | [d] => { results := [.lit (.bool true)], args := [d] }
  | _ => none }
def fnNotifyRow : OpenClaim := { program := "ytbbafeocmchlnaa", sum := "f0aab26748a0576dff7175846448c6b5346e6bb3c2ba055db836e15efe12e408", func := "given.example/pub-assaymark/laws.FnNotify", spec := "fnNotify", apart := false }
def FnNotifySaid : Prop := fnNotifyRow.holds Try.pinned (OpenSpec.ofChange fnNotifySpec)

/-- ITS FALSE NEIGHBOUR: 'it returns false'. Refute it at one input. -/
def fnNotifyWrong : ChangeSpec := { name := "fnNotify", fn := fun _ => fun
  | [d] => { results := [.lit (.bool false)], args := [d] }
  | _ => none }
def FnNotifyWrongFalsely : Prop := fnNotifyRow.holds Try.pinned (OpenSpec.ofChange fnNotifyWrong)

/- THE SECOND FORM. 'bulk': how many values and letters a reading holds, each counted each time it is reached (what is shared counts as often as it is met; a slice's spare places count too). A statement '..UptoSaid' is the law's where the arguments, and the package variables that the reading takes, are together of bulk at most 1048576: NARROWER than '..Said'. Prove '..Said' where nothing that the law and all that it calls make is longer than what came in: it says more and counts as full. Else prove '..UptoSaid'. A law counts once. -/
mutual
def uptoBulk {H : Type} : DataW H → Nat
  | .lit (.string bytes) => bytes.length + 1
  | .lit _ => 1
  | .nil => 1
  | .ptr d => uptoBulk d + 1
  | .slice elems spare => uptoBulkAll elems + uptoBulkAll spare + 1
  | .agg parts => uptoBulkAll parts + 1
  | .iface _ d => uptoBulk d + 1
  | .map entries => uptoBulkEntries entries + 1
  | .held _ => 1
def uptoBulkAll {H : Type} : List (DataW H) → Nat
  | [] => 0
  | d :: r => uptoBulk d + uptoBulkAll r
def uptoBulkEntries {H : Type} : List (Lit × DataW H) → Nat
  | [] => 0
  | x :: r => uptoBulkEntry x + uptoBulkEntries r
def uptoBulkEntry {H : Type} : Lit × DataW H → Nat
  | (.string bytes, d) => bytes.length + uptoBulk d + 1
  | (_, d) => uptoBulk d + 1
 end
def uptoSmall : (H : Type) → List (DataW H) → Bool := fun _ ds => decide (uptoBulkAll ds ≤ 1048576)
def OpenSpec.upto (s : _root_.Go.ChangeSpec) : _root_.Go.OpenSpec := { _root_.Go.OpenSpec.ofChange s with cond := some uptoSmall }

/-- 'laws.FnProtoHello', WHERE WHAT IT READS IS OF BULK AT MOST 1048576: true; the input reads as it did. -/
def fnProtoHelloUptoRow : OpenClaim := { program := "ytbbafeocmchlnaa", sum := "f0aab26748a0576dff7175846448c6b5346e6bb3c2ba055db836e15efe12e408", func := "given.example/pub-assaymark/laws.FnProtoHello", spec := "fnProtoHello", apart := false, narrowed := true }
def FnProtoHelloUptoSaid : Prop := fnProtoHelloUptoRow.holds Try.pinned (OpenSpec.upto fnProtoHelloSpec)

/-- 'laws.FnProtoParams', WHERE WHAT IT READS IS OF BULK AT MOST 1048576: true; the input reads as it did. -/
def fnProtoParamsUptoRow : OpenClaim := { program := "ytbbafeocmchlnaa", sum := "f0aab26748a0576dff7175846448c6b5346e6bb3c2ba055db836e15efe12e408", func := "given.example/pub-assaymark/laws.FnProtoParams", spec := "fnProtoParams", apart := false, narrowed := true }
def FnProtoParamsUptoSaid : Prop := fnProtoParamsUptoRow.holds Try.pinned (OpenSpec.upto fnProtoParamsSpec)

/-- 'laws.FnProtoProfile', WHERE WHAT IT READS IS OF BULK AT MOST 1048576: true; the input reads as it did. -/
def fnProtoProfileUptoRow : OpenClaim := { program := "ytbbafeocmchlnaa", sum := "f0aab26748a0576dff7175846448c6b5346e6bb3c2ba055db836e15efe12e408", func := "given.example/pub-assaymark/laws.FnProtoProfile", spec := "fnProtoProfile", unfollowed := true, recurses := true, apart := false, narrowed := true }
def FnProtoProfileUptoSaid : Prop := fnProtoProfileUptoRow.holds Try.pinned (OpenSpec.upto fnProtoProfileSpec)

/-- 'laws.FnProtoTable', WHERE WHAT IT READS IS OF BULK AT MOST 1048576: true; the input reads as it did. -/
def fnProtoTableUptoRow : OpenClaim := { program := "ytbbafeocmchlnaa", sum := "f0aab26748a0576dff7175846448c6b5346e6bb3c2ba055db836e15efe12e408", func := "given.example/pub-assaymark/laws.FnProtoTable", spec := "fnProtoTable", apart := false, narrowed := true }
def FnProtoTableUptoSaid : Prop := fnProtoTableUptoRow.holds Try.pinned (OpenSpec.upto fnProtoTableSpec)

/-- 'laws.FnProtoSettings', WHERE WHAT IT READS IS OF BULK AT MOST 1048576: true; the input reads as it did. -/
def fnProtoSettingsUptoRow : OpenClaim := { program := "ytbbafeocmchlnaa", sum := "f0aab26748a0576dff7175846448c6b5346e6bb3c2ba055db836e15efe12e408", func := "given.example/pub-assaymark/laws.FnProtoSettings", spec := "fnProtoSettings", apart := false, narrowed := true }
def FnProtoSettingsUptoSaid : Prop := fnProtoSettingsUptoRow.holds Try.pinned (OpenSpec.upto fnProtoSettingsSpec)

/-- 'laws.FnProtoVersion', WHERE WHAT IT READS IS OF BULK AT MOST 1048576: true; the input reads as it did. -/
def fnProtoVersionUptoRow : OpenClaim := { program := "ytbbafeocmchlnaa", sum := "f0aab26748a0576dff7175846448c6b5346e6bb3c2ba055db836e15efe12e408", func := "given.example/pub-assaymark/laws.FnProtoVersion", spec := "fnProtoVersion", apart := false, narrowed := true }
def FnProtoVersionUptoSaid : Prop := fnProtoVersionUptoRow.holds Try.pinned (OpenSpec.upto fnProtoVersionSpec)

/-- 'laws.FnProtoServer', WHERE WHAT IT READS IS OF BULK AT MOST 1048576: true; the input reads as it did. -/
def fnProtoServerUptoRow : OpenClaim := { program := "ytbbafeocmchlnaa", sum := "f0aab26748a0576dff7175846448c6b5346e6bb3c2ba055db836e15efe12e408", func := "given.example/pub-assaymark/laws.FnProtoServer", spec := "fnProtoServer", apart := false, narrowed := true }
def FnProtoServerUptoSaid : Prop := fnProtoServerUptoRow.holds Try.pinned (OpenSpec.upto fnProtoServerSpec)

/-- 'laws.FnProtoProgress', WHERE WHAT IT READS IS OF BULK AT MOST 1048576: true; the input reads as it did. -/
def fnProtoProgressUptoRow : OpenClaim := { program := "ytbbafeocmchlnaa", sum := "f0aab26748a0576dff7175846448c6b5346e6bb3c2ba055db836e15efe12e408", func := "given.example/pub-assaymark/laws.FnProtoProgress", spec := "fnProtoProgress", unfollowed := true, recurses := true, apart := false, narrowed := true }
def FnProtoProgressUptoSaid : Prop := fnProtoProgressUptoRow.holds Try.pinned (OpenSpec.upto fnProtoProgressSpec)

/-- 'laws.FnSumKind', WHERE WHAT IT READS IS OF BULK AT MOST 1048576: true; the input reads as it did. -/
def fnSumKindUptoRow : OpenClaim := { program := "ytbbafeocmchlnaa", sum := "f0aab26748a0576dff7175846448c6b5346e6bb3c2ba055db836e15efe12e408", func := "given.example/pub-assaymark/laws.FnSumKind", spec := "fnSumKind", apart := false, narrowed := true }
def FnSumKindUptoSaid : Prop := fnSumKindUptoRow.holds Try.pinned (OpenSpec.upto fnSumKindSpec)

/-- 'laws.FnNotify', WHERE WHAT IT READS IS OF BULK AT MOST 1048576: true; the input reads as it did. -/
def fnNotifyUptoRow : OpenClaim := { program := "ytbbafeocmchlnaa", sum := "f0aab26748a0576dff7175846448c6b5346e6bb3c2ba055db836e15efe12e408", func := "given.example/pub-assaymark/laws.FnNotify", spec := "fnNotify", apart := false, narrowed := true }
def FnNotifyUptoSaid : Prop := fnNotifyUptoRow.holds Try.pinned (OpenSpec.upto fnNotifySpec)

end Rows
end Go.Proofs.Ytbbafeocmchlnaa
