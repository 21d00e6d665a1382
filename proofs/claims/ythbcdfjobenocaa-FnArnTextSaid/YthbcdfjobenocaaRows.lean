/-
  No cell of these rows narrows 'for every input' (looked for: loops, veiled, ifaces, maps, wideKeys, modest, calm, conditions, laid).
  DERIVED. THE GIVEN ROWS OF THIS SEAT. 6 by the template 'for every input the law returns true; each argument reads behind the call as it read before'; 0 by the template 'total and deterministic' (their statements: YthbcdfjobenocaaTotals.lean).
  GIVEN WITH THE SEED: the statements are not yours to turn. If you find one false, say at which input.
  Laid BY PROGRAM, IN A SANDBOX (cutbox-rows.mjs): the forced cells as the released guide's own fill.sh prints them over the translation 043b379fc87d1017… (all of the seat's roots in one cut). By AI agents, Wed Nov 11 2026. No macro, syntax, notation, axiom, sorry.
-/
import Derived.Test.YthbcdfjobenocaaChecked
import GoSem.Claim
import GoSem.ClaimJoined
import GoSem.ClaimMapViews
import Derived.JoinedTies
import Derived.KernelRfl
namespace Go.Proofs.Ythbcdfjobenocaa
/- THE CELL 'sum', in the pinned program and in every row, IS THE sha256 OF THE DUMP (.gsa) THAT YthbcdfjobenocaaProg.lean LOADS. Nothing in Lean hashes anything: it is a label: what it is worth is what the hold of that sum in a sandbox is worth. -/
noncomputable def Try.pinned : Pinned := { name := "ythbcdfjobenocaa", sum := "043b379fc87d1017f740a76bbda163e9f4ee22f8bf883de5affeb7d0198c17cf", checked := Try.checked }
namespace Rows
def none {H : Type} : Left H := { results := [], args := [] }

/-- 'laws.FnPolValid': WHATEVER THE INPUT: true; the input reads as it did. -/
def fnPolValidSpec : ChangeSpec := { name := "fnPolValid", fn := fun _ => fun
  | [d1, d2] => { results := [.lit (.bool true)], args := [d1, d2] }
  | _ => none }
def fnPolValidRow : OpenClaim := { program := "ythbcdfjobenocaa", sum := "043b379fc87d1017f740a76bbda163e9f4ee22f8bf883de5affeb7d0198c17cf", func := "given.example/pub-assaymark/laws.FnPolValid", spec := "fnPolValid", apart := false }
def FnPolValidSaid : Prop := fnPolValidRow.holds Try.pinned (OpenSpec.ofChange fnPolValidSpec)

/-- ITS FALSE NEIGHBOUR: 'it returns false'. Refute it at one input. -/
def fnPolValidWrong : ChangeSpec := { name := "fnPolValid", fn := fun _ => fun
  | [d1, d2] => { results := [.lit (.bool false)], args := [d1, d2] }
  | _ => none }
def FnPolValidWrongFalsely : Prop := fnPolValidRow.holds Try.pinned (OpenSpec.ofChange fnPolValidWrong)

/-- 'laws.FnEventsEqual': WHATEVER THE INPUT: true; the input reads as it did. -/
def fnEventsEqualSpec : ChangeSpec := { name := "fnEventsEqual", fn := fun _ => fun
  | [d1, d2] => { results := [.lit (.bool true)], args := [d1, d2] }
  | _ => none }
def fnEventsEqualRow : OpenClaim := { program := "ythbcdfjobenocaa", sum := "043b379fc87d1017f740a76bbda163e9f4ee22f8bf883de5affeb7d0198c17cf", func := "given.example/pub-assaymark/laws.FnEventsEqual", spec := "fnEventsEqual", apart := false }
def FnEventsEqualSaid : Prop := fnEventsEqualRow.holds Try.pinned (OpenSpec.ofChange fnEventsEqualSpec)

/-- ITS FALSE NEIGHBOUR: 'it returns false'. Refute it at one input. -/
def fnEventsEqualWrong : ChangeSpec := { name := "fnEventsEqual", fn := fun _ => fun
  | [d1, d2] => { results := [.lit (.bool false)], args := [d1, d2] }
  | _ => none }
def FnEventsEqualWrongFalsely : Prop := fnEventsEqualRow.holds Try.pinned (OpenSpec.ofChange fnEventsEqualWrong)

/-- 'laws.FnRulesEqual': WHATEVER THE INPUT: true; the input reads as it did. -/
def fnRulesEqualSpec : ChangeSpec := { name := "fnRulesEqual", fn := fun _ => fun
  | [d1, d2] => { results := [.lit (.bool true)], args := [d1, d2] }
  | _ => none }
def fnRulesEqualRow : OpenClaim := { program := "ythbcdfjobenocaa", sum := "043b379fc87d1017f740a76bbda163e9f4ee22f8bf883de5affeb7d0198c17cf", func := "given.example/pub-assaymark/laws.FnRulesEqual", spec := "fnRulesEqual", apart := false }
def FnRulesEqualSaid : Prop := fnRulesEqualRow.holds Try.pinned (OpenSpec.ofChange fnRulesEqualSpec)

/-- ITS FALSE NEIGHBOUR: 'it returns false'. Refute it at one input. -/
def fnRulesEqualWrong : ChangeSpec := { name := "fnRulesEqual", fn := fun _ => fun
  | [d1, d2] => { results := [.lit (.bool false)], args := [d1, d2] }
  | _ => none }
def FnRulesEqualWrongFalsely : Prop := fnRulesEqualRow.holds Try.pinned (OpenSpec.ofChange fnRulesEqualWrong)

/-- 'laws.FnArnRead': WHATEVER THE INPUT: true; the input reads as it did. -/
def fnArnReadSpec : ChangeSpec := { name := "fnArnRead", fn := fun _ => fun
  | [d] => { results := [.lit (.bool true)], args := [d] }
  | _ => none }
def fnArnReadRow : OpenClaim := { program := "ythbcdfjobenocaa", sum := "043b379fc87d1017f740a76bbda163e9f4ee22f8bf883de5affeb7d0198c17cf", func := "given.example/pub-assaymark/laws.FnArnRead", spec := "fnArnRead", apart := false }
def FnArnReadSaid : Prop := fnArnReadRow.holds Try.pinned (OpenSpec.ofChange fnArnReadSpec)

/-- ITS FALSE NEIGHBOUR: 'it returns false'. Refute it at one input. -/
def fnArnReadWrong : ChangeSpec := { name := "fnArnRead", fn := fun _ => fun
  | [d] => { results := [.lit (.bool false)], args := [d] }
  | _ => none }
def FnArnReadWrongFalsely : Prop := fnArnReadRow.holds Try.pinned (OpenSpec.ofChange fnArnReadWrong)

/-- 'laws.FnArnText': WHATEVER THE INPUT: true; the input reads as it did. -/
def fnArnTextSpec : ChangeSpec := { name := "fnArnText", fn := fun _ => fun
  | [d] => { results := [.lit (.bool true)], args := [d] }
  | _ => none }
def fnArnTextRow : OpenClaim := { program := "ythbcdfjobenocaa", sum := "043b379fc87d1017f740a76bbda163e9f4ee22f8bf883de5affeb7d0198c17cf", func := "given.example/pub-assaymark/laws.FnArnText", spec := "fnArnText", apart := false }
def FnArnTextSaid : Prop := fnArnTextRow.holds Try.pinned (OpenSpec.ofChange fnArnTextSpec)

/-- ITS FALSE NEIGHBOUR: 'it returns false'. Refute it at one input. -/
def fnArnTextWrong : ChangeSpec := { name := "fnArnText", fn := fun _ => fun
  | [d] => { results := [.lit (.bool false)], args := [d] }
  | _ => none }
def FnArnTextWrongFalsely : Prop := fnArnTextRow.holds Try.pinned (OpenSpec.ofChange fnArnTextWrong)

/-- 'laws.FnNoticeEqual': WHATEVER THE INPUT: true; the input reads as it did. -/
def fnNoticeEqualSpec : ChangeSpec := { name := "fnNoticeEqual", fn := fun _ => fun
  | [d1, d2, d3, d4, d5] => { results := [.lit (.bool true)], args := [d1, d2, d3, d4, d5] }
  | _ => none }
def fnNoticeEqualRow : OpenClaim := { program := "ythbcdfjobenocaa", sum := "043b379fc87d1017f740a76bbda163e9f4ee22f8bf883de5affeb7d0198c17cf", func := "given.example/pub-assaymark/laws.FnNoticeEqual", spec := "fnNoticeEqual", unfollowed := true, recurses := true, apart := false }
def FnNoticeEqualSaid : Prop := fnNoticeEqualRow.holds Try.pinned (OpenSpec.ofChange fnNoticeEqualSpec)

/-- ITS FALSE NEIGHBOUR: 'it returns false'. Refute it at one input. -/
def fnNoticeEqualWrong : ChangeSpec := { name := "fnNoticeEqual", fn := fun _ => fun
  | [d1, d2, d3, d4, d5] => { results := [.lit (.bool false)], args := [d1, d2, d3, d4, d5] }
  | _ => none }
def FnNoticeEqualWrongFalsely : Prop := fnNoticeEqualRow.holds Try.pinned (OpenSpec.ofChange fnNoticeEqualWrong)

/- THE SECOND FORM. 'bulk': how many values and letters a reading holds, each counted each time it is reached (what is shared counts as often as it is met; a slice's spare places count too). A statement '..UptoSaid' is the law's where the arguments, and the package variables that the reading takes, are together of bulk at most 1048576: NARROWER than '..Said'. Prove '..Said' where nothing that the law and all that it calls make is longer than what came in: it says more and counts as full. Else prove '..UptoSaid'. A law counts once. -/
mutual
def uptoBulk {H : Type} : DataW H → Nat
  | .lit (.string bytes) => bytes.length + 1
  | .lit _ => 1
  | .nil => 1
  | .ptr d => uptoBulk d + 1
  | .slice elems spare => uptoBulkAll elems + uptoBulkAll spare + 1
  | .agg parts => uptoBulkAll parts + 1
  | .iface _ d => uptoBulk d + 1
  | .map entries => uptoBulkEntries entries + 1
  | .held _ => 1
def uptoBulkAll {H : Type} : List (DataW H) → Nat
  | [] => 0
  | d :: r => uptoBulk d + uptoBulkAll r
def uptoBulkEntries {H : Type} : List (Lit × DataW H) → Nat
  | [] => 0
  | x :: r => uptoBulkEntry x + uptoBulkEntries r
def uptoBulkEntry {H : Type} : Lit × DataW H → Nat
  | (.string bytes, d) => bytes.length + uptoBulk d + 1
  | (_, d) => uptoBulk d + 1
 end
def uptoSmall : (H : Type) → List (DataW H) → Bool := fun _ ds => decide (uptoBulkAll ds ≤ 1048576)
def OpenSpec.upto (s : _root_.Go.ChangeSpec) : _root_.Go.OpenSpec := { _root_.Go.OpenSpec.ofChange s with cond := some uptoSmall }

/-- 'laws.FnPolValid', WHERE WHAT IT READS IS OF BULK AT MOST 1048576: true; the input reads as it did. -/
def fnPolValidUptoRow : OpenClaim := { program := "ythbcdfjobenocaa", sum := "043b379fc87d1017f740a76bbda163e9f4ee22f8bf883de5affeb7d0198c17cf", func := "given.example/pub-assaymark/laws.FnPolValid", spec := "fnPolValid", apart := false, narrowed := true }
def FnPolValidUptoSaid : Prop := fnPolValidUptoRow.holds Try.pinned (OpenSpec.upto fnPolValidSpec)

/-- 'laws.FnEventsEqual', WHERE WHAT IT READS IS OF BULK AT MOST 1048576: true; the input reads as it did. -/
def fnEventsEqualUptoRow : OpenClaim := { program := "ythbcdfjobenocaa", sum := "043b379fc87d1017f740a76bbda163e9f4ee22f8bf883de5affeb7d0198c17cf", func := "given.example/pub-assaymark/laws.FnEventsEqual", spec := "fnEventsEqual", apart := false, narrowed := true }
def FnEventsEqualUptoSaid : Prop := fnEventsEqualUptoRow.holds Try.pinned (OpenSpec.upto fnEventsEqualSpec)

/-- 'laws.FnRulesEqual', WHERE WHAT IT READS IS OF BULK AT MOST 1048576: true; the input reads as it did. -/
def fnRulesEqualUptoRow : OpenClaim := { program := "ythbcdfjobenocaa", sum := "043b379fc87d1017f740a76bbda163e9f4ee22f8bf883de5affeb7d0198c17cf", func := "given.example/pub-assaymark/laws.FnRulesEqual", spec := "fnRulesEqual", apart := false, narrowed := true }
def FnRulesEqualUptoSaid : Prop := fnRulesEqualUptoRow.holds Try.pinned (OpenSpec.upto fnRulesEqualSpec)

/-- 'laws.FnArnRead', WHERE WHAT IT READS IS OF BULK AT MOST 1048576: true; the input reads as it did. -/
def fnArnReadUptoRow : OpenClaim := { program := "ythbcdfjobenocaa", sum := "043b379fc87d1017f740a76bbda163e9f4ee22f8bf883de5affeb7d0198c17cf", func := "given.example/pub-assaymark/laws.FnArnRead", spec := "fnArnRead", apart := false, narrowed := true }
def FnArnReadUptoSaid : Prop := fnArnReadUptoRow.holds Try.pinned (OpenSpec.upto fnArnReadSpec)

/-- 'laws.FnArnText', WHERE WHAT IT READS IS OF BULK AT MOST 1048576: true; the input reads as it did. -/
def fnArnTextUptoRow : OpenClaim := { program := "ythbcdfjobenocaa", sum := "043b379fc87d1017f740a76bbda163e9f4ee22f8bf883de5affeb7d0198c17cf", func := "given.example/pub-assaymark/laws.FnArnText", spec := "fnArnText", apart := false, narrowed := true }
def FnArnTextUptoSaid : Prop := fnArnTextUptoRow.holds Try.pinned (OpenSpec.upto fnArnTextSpec)

/-- 'laws.FnNoticeEqual', WHERE WHAT IT READS IS OF BULK AT MOST 1048576: true; the input reads as it did. -/
def fnNoticeEqualUptoRow : OpenClaim := { program := "ythbcdfjobenocaa", sum := "043b379fc87d1017f740a76bbda163e9f4ee22f8bf883de5affeb7d0198c17cf", func := "given.example/pub-assaymark/laws.FnNoticeEqual", spec := "fnNoticeEqual", unfollowed := true, recurses := true, apart := false, narrowed := true }
def FnNoticeEqualUptoSaid : Prop := fnNoticeEqualUptoRow.holds Try.pinned (OpenSpec.upto fnNoticeEqualSpec)

end Rows
end Go.Proofs.Ythbcdfjobenocaa
