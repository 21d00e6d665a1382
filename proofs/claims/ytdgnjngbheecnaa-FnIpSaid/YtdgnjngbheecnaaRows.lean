/-
  No cell of these rows narrows 'for every input' (looked for: loops, veiled, ifaces, maps, wideKeys, modest, calm, conditions, laid).
  DERIVED. THE GIVEN ROWS OF THIS SEAT. 5 by the template 'for every input the law returns true; each argument reads behind the call as it read before'; 0 by the template 'total and deterministic' (their statements: YtdgnjngbheecnaaTotals.lean).
  GIVEN WITH THE SEED: the statements are not yours to turn. If you find one false, say at which input.
  Laid BY PROGRAM, IN A SANDBOX (cutbox-rows.mjs): the forced cells as the released guide's own fill.sh prints them over the translation 494ae488dfab6dfd… (all of the seat's roots in one cut). By AI agents, Wed Nov 11 2026. No macro, syntax, notation, axiom, sorry.
-/
import Derived.Test.YtdgnjngbheecnaaChecked
import GoSem.Claim
import GoSem.ClaimJoined
import GoSem.ClaimMapViews
import Derived.JoinedTies
import Derived.KernelRfl
namespace Go.Proofs.Ytdgnjngbheecnaa
/- THE CELL 'sum', in the pinned program and in every row, IS THE sha256 OF THE DUMP (.gsa) THAT YtdgnjngbheecnaaProg.lean LOADS. Nothing in Lean hashes anything: it is a label: what it is worth is what the hold of that sum in a sandbox is worth. -/
noncomputable def Try.pinned : Pinned := { name := "ytdgnjngbheecnaa", sum := "494ae488dfab6dfdc83999909e24b477dab0f4e927a4fa4ebdf3d303c584f5cb", checked := Try.checked }
namespace Rows
def none {H : Type} : Left H := { results := [], args := [] }

/-- 'laws.FnNoticeEqual': WHATEVER THE INPUT: true; the input reads as it did. -/
def fnNoticeEqualSpec : ChangeSpec := { name := "fnNoticeEqual", fn := fun _ => fun
  | [d1, d2, d3, d4, d5] => { results := [.lit (.bool true)], args := [d1, d2, d3, d4, d5] }
  | _ => none }
def fnNoticeEqualRow : OpenClaim := { program := "ytdgnjngbheecnaa", sum := "494ae488dfab6dfdc83999909e24b477dab0f4e927a4fa4ebdf3d303c584f5cb", func := "given.example/pub-assaymark/laws.FnNoticeEqual", spec := "fnNoticeEqual", unfollowed := true, recurses := true, apart := false }
def FnNoticeEqualSaid : Prop := fnNoticeEqualRow.holds Try.pinned (OpenSpec.ofChange fnNoticeEqualSpec)

/-- ITS FALSE NEIGHBOUR: 'it returns false'. Refute it at one input. -/
def fnNoticeEqualWrong : ChangeSpec := { name := "fnNoticeEqual", fn := fun _ => fun
  | [d1, d2, d3, d4, d5] => { results := [.lit (.bool false)], args := [d1, d2, d3, d4, d5] }
  | _ => none }
def FnNoticeEqualWrongFalsely : Prop := fnNoticeEqualRow.holds Try.pinned (OpenSpec.ofChange fnNoticeEqualWrong)

/-- 'laws.FnIp': WHATEVER THE INPUT: true; the input reads as it did. -/
def fnIpSpec : ChangeSpec := { name := "fnIp", fn := fun _ => fun
  | [d] => { results := [.lit (.bool true)], args := [d] }
  | _ => none }
def fnIpRow : OpenClaim := { program := "ytdgnjngbheecnaa", sum := "494ae488dfab6dfdc83999909e24b477dab0f4e927a4fa4ebdf3d303c584f5cb", func := "given.example/pub-assaymark/laws.FnIp", spec := "fnIp", inPlace := ["internal/bytealg.IndexByteString"], apart := false }
def FnIpSaid : Prop := fnIpRow.holds Try.pinned (OpenSpec.ofChange fnIpSpec)

/-- ITS FALSE NEIGHBOUR: 'it returns false'. Refute it at one input. -/
def fnIpWrong : ChangeSpec := { name := "fnIp", fn := fun _ => fun
  | [d] => { results := [.lit (.bool false)], args := [d] }
  | _ => none }
def FnIpWrongFalsely : Prop := fnIpRow.holds Try.pinned (OpenSpec.ofChange fnIpWrong)

/-- 'laws.FnSumNew': WHATEVER THE INPUT: true; the input reads as it did. -/
def fnSumNewSpec : ChangeSpec := { name := "fnSumNew", fn := fun _ => fun
  | [d1, d2, d3] => { results := [.lit (.bool true)], args := [d1, d2, d3] }
  | _ => none }
def fnSumNewRow : OpenClaim := { program := "ytdgnjngbheecnaa", sum := "494ae488dfab6dfdc83999909e24b477dab0f4e927a4fa4ebdf3d303c584f5cb", func := "given.example/pub-assaymark/laws.FnSumNew", spec := "fnSumNew", named := ["encoding/binary.BigEndian"], apart := false }
def FnSumNewSaid : Prop := fnSumNewRow.holds Try.pinned (OpenSpec.ofChange fnSumNewSpec)

/-- ITS FALSE NEIGHBOUR: 'it returns false'. Refute it at one input. -/
def fnSumNewWrong : ChangeSpec := { name := "fnSumNew", fn := fun _ => fun
  | [d1, d2, d3] => { results := [.lit (.bool false)], args := [d1, d2, d3] }
  | _ => none }
def FnSumNewWrongFalsely : Prop := fnSumNewRow.holds Try.pinned (OpenSpec.ofChange fnSumNewWrong)

/-- 'laws.FnIntSets': WHATEVER THE INPUT: true; the input reads as it did. -/
def fnIntSetsSpec : ChangeSpec := { name := "fnIntSets", fn := fun _ => fun
  | [d1, d2, d3] => { results := [.lit (.bool true)], args := [d1, d2, d3] }
  | _ => none }
def fnIntSetsRow : OpenClaim := { program := "ytdgnjngbheecnaa", sum := "494ae488dfab6dfdc83999909e24b477dab0f4e927a4fa4ebdf3d303c584f5cb", func := "given.example/pub-assaymark/laws.FnIntSets", spec := "fnIntSets", unfollowed := true, recurses := true, apart := false }
def FnIntSetsSaid : Prop := fnIntSetsRow.holds Try.pinned (OpenSpec.ofChange fnIntSetsSpec)

/-- ITS FALSE NEIGHBOUR: 'it returns false'. Refute it at one input. -/
def fnIntSetsWrong : ChangeSpec := { name := "fnIntSets", fn := fun _ => fun
  | [d1, d2, d3] => { results := [.lit (.bool false)], args := [d1, d2, d3] }
  | _ => none }
def FnIntSetsWrongFalsely : Prop := fnIntSetsRow.holds Try.pinned (OpenSpec.ofChange fnIntSetsWrong)

/-- 'laws.FnSets': WHATEVER THE INPUT: true; the input reads as it did. -/
def fnSetsSpec : ChangeSpec := { name := "fnSets", fn := fun _ => fun
  | [d1, d2, d3, d4] => { results := [.lit (.bool true)], args := [d1, d2, d3, d4] }
  | _ => none }
def fnSetsRow : OpenClaim := { program := "ytdgnjngbheecnaa", sum := "494ae488dfab6dfdc83999909e24b477dab0f4e927a4fa4ebdf3d303c584f5cb", func := "given.example/pub-assaymark/laws.FnSets", spec := "fnSets", unfollowed := true, recurses := true, apart := false }
def FnSetsSaid : Prop := fnSetsRow.holds Try.pinned (OpenSpec.ofChange fnSetsSpec)

/-- ITS FALSE NEIGHBOUR: 'it returns false'. Refute it at one input. -/
def fnSetsWrong : ChangeSpec := { name := "fnSets", fn := fun _ => fun
  | [d1, d2, d3, d4] => { results := [.lit (.bool false)], args := [d1, d2, d3, d4] }
  | _ => none }
def FnSetsWrongFalsely : Prop := fnSetsRow.holds Try.pinned (OpenSpec.ofChange fnSetsWrong)

/- THE SECOND FORM. 'bulk': how many values and letters a reading holds, each counted each time it is reached (what is shared counts as often as it is met; a slice's spare places count too). A statement '..UptoSaid' is the law's where the arguments, and the package variables that the reading takes, are together of bulk at most 1048576: NARROWER than '..Said'. Prove '..Said' where nothing that the law and all that it calls make is longer than what came in: it says more and counts as full. Else prove '..UptoSaid'. A law counts once. -/
mutual
def uptoBulk {H : Type} : DataW H → Nat
  | .lit (.string bytes) => bytes.length + 1
  | .lit _ => 1
  | .nil => 1
  | .ptr d => uptoBulk d + 1
  | .slice elems spare => uptoBulkAll elems + uptoBulkAll spare + 1
  | .agg parts => uptoBulkAll parts + 1
  | .iface _ d => uptoBulk d + 1
  | .map entries => uptoBulkEntries entries + 1
  | .held _ => 1
def uptoBulkAll {H : Type} : List (DataW H) → Nat
  | [] => 0
  | d :: r => uptoBulk d + uptoBulkAll r
def uptoBulkEntries {H : Type} : List (Lit × DataW H) → Nat
  | [] => 0
  | x :: r => uptoBulkEntry x + uptoBulkEntries r
def uptoBulkEntry {H : Type} : Lit × DataW H → Nat
  | (.string bytes, d) => bytes.length + uptoBulk d + 1
  | (_, d) => uptoBulk d + 1
 end
def uptoSmall : (H : Type) → List (DataW H) → Bool := fun _ ds => decide (uptoBulkAll ds ≤ 1048576)
def OpenSpec.upto (s : _root_.Go.ChangeSpec) : _root_.Go.OpenSpec := { _root_.Go.OpenSpec.ofChange s with cond := some uptoSmall }

/-- 'laws.FnNoticeEqual', WHERE WHAT IT READS IS OF BULK AT MOST 1048576: true; the input reads as it did. -/
def fnNoticeEqualUptoRow : OpenClaim := { program := "ytdgnjngbheecnaa", sum := "494ae488dfab6dfdc83999909e24b477dab0f4e927a4fa4ebdf3d303c584f5cb", func := "given.example/pub-assaymark/laws.FnNoticeEqual", spec := "fnNoticeEqual", unfollowed := true, recurses := true, apart := false, narrowed := true }
def FnNoticeEqualUptoSaid : Prop := fnNoticeEqualUptoRow.holds Try.pinned (OpenSpec.upto fnNoticeEqualSpec)

/-- 'laws.FnIp', WHERE WHAT IT READS IS OF BULK AT MOST 1048576: true; the input reads as it did. -/
def fnIpUptoRow : OpenClaim := { program := "ytdgnjngbheecnaa", sum := "494ae488dfab6dfdc83999909e24b477dab0f4e927a4fa4ebdf3d303c584f5cb", func := "given.example/pub-assaymark/laws.FnIp", spec := "fnIp", inPlace := ["internal/bytealg.IndexByteString"], apart := false, narrowed := true }
def FnIpUptoSaid : Prop := fnIpUptoRow.holds Try.pinned (OpenSpec.upto fnIpSpec)

/-- 'laws.FnSumNew', WHERE WHAT IT READS IS OF BULK AT MOST 1048576: true; the input reads as it did. -/
def fnSumNewUptoRow : OpenClaim := { program := "ytdgnjngbheecnaa", sum := "494ae488dfab6dfdc83999909e24b477dab0f4e927a4fa4ebdf3d303c584f5cb", func := "given.example/pub-assaymark/laws.FnSumNew", spec := "fnSumNew", named := ["encoding/binary.BigEndian"], apart := false, narrowed := true }
def FnSumNewUptoSaid : Prop := fnSumNewUptoRow.holds Try.pinned (OpenSpec.upto fnSumNewSpec)

/-- 'laws.FnIntSets', WHERE WHAT IT READS IS OF BULK AT MOST 1048576: true; the input reads as it did. -/
def fnIntSetsUptoRow : OpenClaim := { program := "ytdgnjngbheecnaa", sum := "494ae488dfab6dfdc83999909e24b477dab0f4e927a4fa4ebdf3d303c584f5cb", func := "given.example/pub-assaymark/laws.FnIntSets", spec := "fnIntSets", unfollowed := true, recurses := true, apart := false, narrowed := true }
def FnIntSetsUptoSaid : Prop := fnIntSetsUptoRow.holds Try.pinned (OpenSpec.upto fnIntSetsSpec)

/-- 'laws.FnSets', WHERE WHAT IT READS IS OF BULK AT MOST 1048576: true; the input reads as it did. -/
def fnSetsUptoRow : OpenClaim := { program := "ytdgnjngbheecnaa", sum := "494ae488dfab6dfdc83999909e24b477dab0f4e927a4fa4ebdf3d303c584f5cb", func := "given.example/pub-assaymark/laws.FnSets", spec := "fnSets", unfollowed := true, recurses := true, apart := false, narrowed := true }
def FnSetsUptoSaid : Prop := fnSetsUptoRow.holds Try.pinned (OpenSpec.upto fnSetsSpec)

end Rows
end Go.Proofs.Ytdgnjngbheecnaa
