/-
  DERIVED. GIVEN WITH THE SEED: THE CARDS: each row of YtjmiliijoodbcaaDoorRows.lean that lists a variable, with what it lists TIED to the program's text (the seventh form; the later family's looks); each row that meets fmt, with fmt's text TOLD by the authors' own Lean function (tested against real Go, not proved from fmt's source: count such statements apart). THE CARD IS WHAT COUNTS. Prove the row's statement (the work); the ties are given (YtjmiliijoodbcaaDoorTie.lean); close each card by the builder's one call (the guide's Derived/Test/ToyasCard.lean, 'card_holds'). Laid BY PROGRAM, IN A SANDBOX (cutbox-door.mjs). By AI agents, Wed Nov 11 2026. No macro, syntax, notation, axiom, sorry.
-/
import Derived.Test.YtjmiliijoodbcaaDoorRows
import GoSem.ClaimSeven
namespace Go.Proofs.YtjmiliijoodbcaaDoor
namespace Rows

/-- THE TIED CARD OF 'laws.FnPgAdd'. -/
def fnPgAddCard : Claim7 := { stood := { row := fnPgAddRow, standIns := [], harness := (true, "e8d66d96621079235872b179ba824a437c5d4914906ea10284268f9494a97566"), looks := false }, kinds := [], alts := [], laidByText := true, laidKinds := [.data], laidTests := true, laidLooks := .later }
def FnPgAddCardSaid : Prop := Claim7.holds Tryd.pinned (.plain (OpenSpec.ofChange fnPgAddSpec)) fnPgAddCard

/-- THE TIED CARD OF 'laws.FnPgWalk'. -/
def fnPgWalkCard : Claim7 := { stood := { row := fnPgWalkRow, standIns := [], harness := (true, "e8d66d96621079235872b179ba824a437c5d4914906ea10284268f9494a97566"), looks := false }, kinds := [], alts := [], laidByText := true, laidKinds := [.data, .data, .data, .data, .pinned, .pinned], laidTests := true, laidLooks := .later }
def FnPgWalkCardSaid : Prop := Claim7.holds Tryd.pinned (.plain (OpenSpec.ofChange fnPgWalkSpec)) fnPgWalkCard

/-- THE SECOND FORM's CARD OF 'laws.FnPgAdd'. -/
def fnPgAddUptoCard : Claim7 := { stood := { row := fnPgAddUptoRow, standIns := [], harness := (true, "e8d66d96621079235872b179ba824a437c5d4914906ea10284268f9494a97566"), looks := false }, kinds := [], alts := [], laidByText := true, laidKinds := [.data], laidTests := true, laidLooks := .later }
def FnPgAddUptoCardSaid : Prop := Claim7.holds Tryd.pinned (.plain (OpenSpec.upto fnPgAddSpec)) fnPgAddUptoCard

/-- THE SECOND FORM's CARD OF 'laws.FnPgWalk'. -/
def fnPgWalkUptoCard : Claim7 := { stood := { row := fnPgWalkUptoRow, standIns := [], harness := (true, "e8d66d96621079235872b179ba824a437c5d4914906ea10284268f9494a97566"), looks := false }, kinds := [], alts := [], laidByText := true, laidKinds := [.data, .data, .data, .data, .pinned, .pinned], laidTests := true, laidLooks := .later }
def FnPgWalkUptoCardSaid : Prop := Claim7.holds Tryd.pinned (.plain (OpenSpec.upto fnPgWalkSpec)) fnPgWalkUptoCard
end Rows
end Go.Proofs.YtjmiliijoodbcaaDoor
