/-
  DERIVED. GIVEN WITH THE SEED: THE CARDS: each row of YtiiehglfpiocmaaDoorRows.lean that lists a variable, with what it lists TIED to the program's text (the seventh form; the later family's looks); each row that meets fmt, with fmt's text TOLD by the authors' own Lean function (tested against real Go, not proved from fmt's source: count such statements apart). THE CARD IS WHAT COUNTS. Prove the row's statement (the work); the ties are given (YtiiehglfpiocmaaDoorTie.lean); close each card by the builder's one call (the guide's Derived/Test/ToyasCard.lean, 'card_holds'). Laid BY PROGRAM, IN A SANDBOX (cutbox-door.mjs). By AI agents, Wed Nov 11 2026. No macro, syntax, notation, axiom, sorry.
-/
import Derived.Test.YtiiehglfpiocmaaDoorRows
import GoSem.ClaimSeven
namespace Go.Proofs.YtiiehglfpiocmaaDoor
namespace Rows

/-- THE TIED CARD OF 'laws.FnSyStartCond'. -/
def fnSyStartCondCard : Claim7 := { stood := { row := fnSyStartCondRow, standIns := [], harness := (true, "04b269218659a87b4b763dd5f911b6e9ba57d796c95d306e7b95a66e83bf67cc"), looks := false }, kinds := [], alts := [], laidByText := true, laidKinds := [.data, .data, .data, .pinned, .pinned], laidTests := true, laidLooks := .later }
def FnSyStartCondCardSaid : Prop := Claim7.holds Tryd.pinned (.plain (OpenSpec.ofChange fnSyStartCondSpec)) fnSyStartCondCard

/-- THE SECOND FORM's CARD OF 'laws.FnSyStartCond'. -/
def fnSyStartCondUptoCard : Claim7 := { stood := { row := fnSyStartCondUptoRow, standIns := [], harness := (true, "04b269218659a87b4b763dd5f911b6e9ba57d796c95d306e7b95a66e83bf67cc"), looks := false }, kinds := [], alts := [], laidByText := true, laidKinds := [.data, .data, .data, .pinned, .pinned], laidTests := true, laidLooks := .later }
def FnSyStartCondUptoCardSaid : Prop := Claim7.holds Tryd.pinned (.plain (OpenSpec.upto fnSyStartCondSpec)) fnSyStartCondUptoCard
end Rows
end Go.Proofs.YtiiehglfpiocmaaDoor
