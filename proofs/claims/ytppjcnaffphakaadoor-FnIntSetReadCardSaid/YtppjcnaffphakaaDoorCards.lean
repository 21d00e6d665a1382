/-
  DERIVED. GIVEN WITH THE SEED: THE CARDS: each row of YtppjcnaffphakaaDoorRows.lean that lists a variable, with what it lists TIED to the program's text (the seventh form; the later family's looks); each row that meets fmt, with fmt's text TOLD by the authors' own Lean function (tested against real Go, not proved from fmt's source: count such statements apart). THE CARD IS WHAT COUNTS. Prove the row's statement (the work); the ties are given (YtppjcnaffphakaaDoorTie.lean); close each card by the builder's one call (the guide's Derived/Test/ToyasCard.lean, 'card_holds'). Laid BY PROGRAM, IN A SANDBOX (cutbox-door.mjs). By AI agents, Wed Nov 11 2026. No macro, syntax, notation, axiom, sorry.
-/
import Derived.Test.YtppjcnaffphakaaDoorRows
import GoSem.ClaimSeven
namespace Go.Proofs.YtppjcnaffphakaaDoor
namespace Rows

/-- THE TIED CARD OF 'laws.FnIntSetRead'. -/
def fnIntSetReadCard : Claim7 := { stood := { row := fnIntSetReadRow, standIns := [], harness := (true, "6c27210b4fb02bb7f18ec5096f4f90bdd38f6ddeb80e86035a0250510bd99da3"), looks := true }, kinds := [], alts := [], laidByText := true, laidKinds := [.data, .data, .data, .data, .pinned], laidTests := true, laidLooks := .later }
def FnIntSetReadCardSaid : Prop := Claim7.holds Tryd.pinned (.plain (OpenSpec.ofChange fnIntSetReadSpec)) fnIntSetReadCard

/-- THE SECOND FORM's CARD OF 'laws.FnIntSetRead'. -/
def fnIntSetReadUptoCard : Claim7 := { stood := { row := fnIntSetReadUptoRow, standIns := [], harness := (true, "6c27210b4fb02bb7f18ec5096f4f90bdd38f6ddeb80e86035a0250510bd99da3"), looks := true }, kinds := [], alts := [], laidByText := true, laidKinds := [.data, .data, .data, .data, .pinned], laidTests := true, laidLooks := .later }
def FnIntSetReadUptoCardSaid : Prop := Claim7.holds Tryd.pinned (.plain (OpenSpec.upto fnIntSetReadSpec)) fnIntSetReadUptoCard
end Rows
end Go.Proofs.YtppjcnaffphakaaDoor
