/-
  DERIVED. GIVEN WITH THE SEED: THE CARDS: each row of YtppjcnaffphakaaGreatDoorRows.lean that lists a variable, with what it lists TIED to the program's text (the seventh form; the later family's looks); each row that meets fmt, with fmt's text TOLD by the authors' own Lean function (tested against real Go, not proved from fmt's source: count such statements apart). THE CARD IS WHAT COUNTS. Prove the row's statement (the work); the ties are given (YtppjcnaffphakaaGreatDoorTie.lean); close each card by the builder's one call (the guide's Derived/Test/ToyasCard.lean, 'card_holds'). Laid BY PROGRAM, IN A SANDBOX (cutbox-door.mjs). By AI agents, Wed Nov 11 2026. No macro, syntax, notation, axiom, sorry.
-/
import Derived.Test.YtppjcnaffphakaaGreatDoorRows
import GoSem.ClaimSeven
namespace Go.Proofs.YtppjcnaffphakaaGreatDoor
namespace Rows

/-- THE TIED CARD OF 'laws.FnStrSetRead'. -/
def fnStrSetReadCard : Claim7 := { stood := { row := fnStrSetReadRow, standIns := [], harness := (true, "05c14ccd225b6d8948a675b007a0ba9d71e37bcedd89e721a579478d3a3db379"), looks := true }, kinds := [], alts := [], laidByText := true, laidKinds := [.data, .pinned], laidTests := true, laidLooks := .later }
def FnStrSetReadCardSaid : Prop := Claim7.holds Tryz.pinned (.plain (OpenSpec.ofChange fnStrSetReadSpec)) fnStrSetReadCard

/-- THE TIED CARD OF 'laws.FnIntSetCode'. -/
def fnIntSetCodeCard : Claim7 := { stood := { row := fnIntSetCodeRow, standIns := [], harness := (true, "05c14ccd225b6d8948a675b007a0ba9d71e37bcedd89e721a579478d3a3db379"), looks := true }, kinds := [], alts := [], laidByText := true, laidKinds := [.data, .data, .data, .data, .pinned], laidTests := true, laidLooks := .later }
def FnIntSetCodeCardSaid : Prop := Claim7.holds Tryz.pinned (.plain (OpenSpec.ofChange fnIntSetCodeSpec)) fnIntSetCodeCard

/-- THE TIED CARD OF 'laws.FnStrSetCode'. -/
def fnStrSetCodeCard : Claim7 := { stood := { row := fnStrSetCodeRow, standIns := [], harness := (true, "05c14ccd225b6d8948a675b007a0ba9d71e37bcedd89e721a579478d3a3db379"), looks := true }, kinds := [], alts := [], laidByText := true, laidKinds := [.data, .pinned], laidTests := true, laidLooks := .later }
def FnStrSetCodeCardSaid : Prop := Claim7.holds Tryz.pinned (.plain (OpenSpec.ofChange fnStrSetCodeSpec)) fnStrSetCodeCard

/-- THE SECOND FORM's CARD OF 'laws.FnStrSetRead'. -/
def fnStrSetReadUptoCard : Claim7 := { stood := { row := fnStrSetReadUptoRow, standIns := [], harness := (true, "05c14ccd225b6d8948a675b007a0ba9d71e37bcedd89e721a579478d3a3db379"), looks := true }, kinds := [], alts := [], laidByText := true, laidKinds := [.data, .pinned], laidTests := true, laidLooks := .later }
def FnStrSetReadUptoCardSaid : Prop := Claim7.holds Tryz.pinned (.plain (OpenSpec.upto fnStrSetReadSpec)) fnStrSetReadUptoCard

/-- THE SECOND FORM's CARD OF 'laws.FnIntSetCode'. -/
def fnIntSetCodeUptoCard : Claim7 := { stood := { row := fnIntSetCodeUptoRow, standIns := [], harness := (true, "05c14ccd225b6d8948a675b007a0ba9d71e37bcedd89e721a579478d3a3db379"), looks := true }, kinds := [], alts := [], laidByText := true, laidKinds := [.data, .data, .data, .data, .pinned], laidTests := true, laidLooks := .later }
def FnIntSetCodeUptoCardSaid : Prop := Claim7.holds Tryz.pinned (.plain (OpenSpec.upto fnIntSetCodeSpec)) fnIntSetCodeUptoCard

/-- THE SECOND FORM's CARD OF 'laws.FnStrSetCode'. -/
def fnStrSetCodeUptoCard : Claim7 := { stood := { row := fnStrSetCodeUptoRow, standIns := [], harness := (true, "05c14ccd225b6d8948a675b007a0ba9d71e37bcedd89e721a579478d3a3db379"), looks := true }, kinds := [], alts := [], laidByText := true, laidKinds := [.data, .pinned], laidTests := true, laidLooks := .later }
def FnStrSetCodeUptoCardSaid : Prop := Claim7.holds Tryz.pinned (.plain (OpenSpec.upto fnStrSetCodeSpec)) fnStrSetCodeUptoCard
end Rows
end Go.Proofs.YtppjcnaffphakaaGreatDoor
