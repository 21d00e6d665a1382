/-
  DERIVED. GIVEN WITH THE SEED: THE CARDS: each row of YtbbafeocmchlnaaDoorRows.lean that lists a variable, with what it lists TIED to the program's text (the seventh form; the later family's looks); each row that meets fmt, with fmt's text TOLD by the authors' own Lean function (tested against real Go, not proved from fmt's source: count such statements apart). THE CARD IS WHAT COUNTS. Prove the row's statement (the work); the ties are given (YtbbafeocmchlnaaDoorTie.lean); close each card by the builder's one call (the guide's Derived/Test/ToyasCard.lean, 'card_holds'). Laid BY PROGRAM, IN A SANDBOX (cutbox-door.mjs). By AI agents, Wed Nov 11 2026. No macro, syntax, notation, axiom, sorry.
-/
import Derived.Test.YtbbafeocmchlnaaDoorRows
import GoSem.ClaimSeven
namespace Go.Proofs.YtbbafeocmchlnaaDoor
namespace Rows

/-- THE TIED CARD OF 'laws.FnDomain'. -/
def fnDomainCard : Claim7 := { stood := { row := fnDomainRow, standIns := [], harness := (true, "99e6e75621ee693ba38e5f51b20028d89355660228ee4cb365f689c70c876439"), looks := false }, kinds := [], alts := [], laidByText := true, laidKinds := [.data, .pinned], laidTests := true, laidLooks := .later }
def FnDomainCardSaid : Prop := Claim7.holds Tryd.pinned (.plain (OpenSpec.ofChange fnDomainSpec)) fnDomainCard

/-- THE TIED CARD OF 'laws.FnObject'. -/
def fnObjectCard : Claim7 := { stood := { row := fnObjectRow, standIns := [], harness := (true, "99e6e75621ee693ba38e5f51b20028d89355660228ee4cb365f689c70c876439"), looks := false }, kinds := [], alts := [], laidByText := true, laidKinds := [.data, .pinned], laidTests := true, laidLooks := .later }
def FnObjectCardSaid : Prop := Claim7.holds Tryd.pinned (.plain (OpenSpec.ofChange fnObjectSpec)) fnObjectCard

/-- THE SECOND FORM's CARD OF 'laws.FnDomain'. -/
def fnDomainUptoCard : Claim7 := { stood := { row := fnDomainUptoRow, standIns := [], harness := (true, "99e6e75621ee693ba38e5f51b20028d89355660228ee4cb365f689c70c876439"), looks := false }, kinds := [], alts := [], laidByText := true, laidKinds := [.data, .pinned], laidTests := true, laidLooks := .later }
def FnDomainUptoCardSaid : Prop := Claim7.holds Tryd.pinned (.plain (OpenSpec.upto fnDomainSpec)) fnDomainUptoCard

/-- THE SECOND FORM's CARD OF 'laws.FnObject'. -/
def fnObjectUptoCard : Claim7 := { stood := { row := fnObjectUptoRow, standIns := [], harness := (true, "99e6e75621ee693ba38e5f51b20028d89355660228ee4cb365f689c70c876439"), looks := false }, kinds := [], alts := [], laidByText := true, laidKinds := [.data, .pinned], laidTests := true, laidLooks := .later }
def FnObjectUptoCardSaid : Prop := Claim7.holds Tryd.pinned (.plain (OpenSpec.upto fnObjectSpec)) fnObjectUptoCard
end Rows
end Go.Proofs.YtbbafeocmchlnaaDoor
