/-
  DERIVED. GIVEN WITH THE SEED: THE CARDS: each row of YtdgnjngbheecnaaDoorRows.lean that lists a variable, with what it lists TIED to the program's text (the seventh form; the later family's looks); each row that meets fmt, with fmt's text TOLD by the authors' own Lean function (tested against real Go, not proved from fmt's source: count such statements apart). THE CARD IS WHAT COUNTS. Prove the row's statement (the work); the ties are given (YtdgnjngbheecnaaDoorTie.lean); close each card by the builder's one call (the guide's Derived/Test/ToyasCard.lean, 'card_holds'). Laid BY PROGRAM, IN A SANDBOX (cutbox-door.mjs). By AI agents, Wed Nov 11 2026. No macro, syntax, notation, axiom, sorry.
-/
import Derived.Test.YtdgnjngbheecnaaDoorRows
import GoSem.ClaimSeven
namespace Go.Proofs.YtdgnjngbheecnaaDoor
namespace Rows

/-- THE TIED CARD OF 'laws.FnProtoFault'. -/
def fnProtoFaultCard : Claim7 := { stood := { row := fnProtoFaultRow, standIns := [], harness := (true, "8d321e0e739ee3883678724173cd538a3bde06c7488022316335304b0f12ca9b"), looks := true }, kinds := [], alts := [], laidByText := true, laidKinds := [.data, .pinned], laidTests := true, laidLooks := .later }
def FnProtoFaultCardSaid : Prop := Claim7.holds Tryd.pinned (.plain (OpenSpec.ofChange fnProtoFaultSpec)) fnProtoFaultCard

/-- THE TIED CARD OF 'laws.FnProtoQuery'. -/
def fnProtoQueryCard : Claim7 := { stood := { row := fnProtoQueryRow, standIns := [], harness := (true, "8d321e0e739ee3883678724173cd538a3bde06c7488022316335304b0f12ca9b"), looks := true }, kinds := [], alts := [], laidByText := true, laidKinds := [.data], laidTests := true, laidLooks := .later }
def FnProtoQueryCardSaid : Prop := Claim7.holds Tryd.pinned (.plain (OpenSpec.ofChange fnProtoQuerySpec)) fnProtoQueryCard

/-- THE SECOND FORM's CARD OF 'laws.FnProtoFault'. -/
def fnProtoFaultUptoCard : Claim7 := { stood := { row := fnProtoFaultUptoRow, standIns := [], harness := (true, "8d321e0e739ee3883678724173cd538a3bde06c7488022316335304b0f12ca9b"), looks := true }, kinds := [], alts := [], laidByText := true, laidKinds := [.data, .pinned], laidTests := true, laidLooks := .later }
def FnProtoFaultUptoCardSaid : Prop := Claim7.holds Tryd.pinned (.plain (OpenSpec.upto fnProtoFaultSpec)) fnProtoFaultUptoCard

/-- THE SECOND FORM's CARD OF 'laws.FnProtoQuery'. -/
def fnProtoQueryUptoCard : Claim7 := { stood := { row := fnProtoQueryUptoRow, standIns := [], harness := (true, "8d321e0e739ee3883678724173cd538a3bde06c7488022316335304b0f12ca9b"), looks := true }, kinds := [], alts := [], laidByText := true, laidKinds := [.data], laidTests := true, laidLooks := .later }
def FnProtoQueryUptoCardSaid : Prop := Claim7.holds Tryd.pinned (.plain (OpenSpec.upto fnProtoQuerySpec)) fnProtoQueryUptoCard
end Rows
end Go.Proofs.YtdgnjngbheecnaaDoor
