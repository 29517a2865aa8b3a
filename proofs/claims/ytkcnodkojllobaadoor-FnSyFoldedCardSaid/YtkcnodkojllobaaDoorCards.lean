/-
  DERIVED. GIVEN WITH THE SEED: THE CARDS: each row of YtkcnodkojllobaaDoorRows.lean that lists a variable, with what it lists TIED to the program's text (the seventh form; the later family's looks); each row that meets fmt, with fmt's text TOLD by the authors' own Lean function (tested against real Go, not proved from fmt's source: count such statements apart). THE CARD IS WHAT COUNTS. Prove the row's statement (the work); the ties are given (YtkcnodkojllobaaDoorTie.lean); close each card by the builder's one call (the guide's Derived/Test/ToyasCard.lean, 'card_holds'). Laid BY PROGRAM, IN A SANDBOX (cutbox-door.mjs). By AI agents, Wed Nov 11 2026. No macro, syntax, notation, axiom, sorry.
-/
import Derived.Test.YtkcnodkojllobaaDoorRows
import GoSem.ClaimSeven
namespace Go.Proofs.YtkcnodkojllobaaDoor
namespace Rows

/-- THE TIED CARD OF 'laws.FnSyFolded'. -/
def fnSyFoldedCard : Claim7 := { stood := { row := fnSyFoldedRow, standIns := [], harness := (true, "fb282a416ba95bc519477a7167a8f924a5bb9fa366ebecfbfe12cb27909335eb"), looks := false }, kinds := [], alts := [], laidByText := true, laidKinds := [.data, .data, .pinned], laidTests := true, laidLooks := .later }
def FnSyFoldedCardSaid : Prop := Claim7.holds Tryd.pinned (.plain (OpenSpec.ofChange fnSyFoldedSpec)) fnSyFoldedCard

/-- THE SECOND FORM's CARD OF 'laws.FnSyFolded'. -/
def fnSyFoldedUptoCard : Claim7 := { stood := { row := fnSyFoldedUptoRow, standIns := [], harness := (true, "fb282a416ba95bc519477a7167a8f924a5bb9fa366ebecfbfe12cb27909335eb"), looks := false }, kinds := [], alts := [], laidByText := true, laidKinds := [.data, .data, .pinned], laidTests := true, laidLooks := .later }
def FnSyFoldedUptoCardSaid : Prop := Claim7.holds Tryd.pinned (.plain (OpenSpec.upto fnSyFoldedSpec)) fnSyFoldedUptoCard
end Rows
end Go.Proofs.YtkcnodkojllobaaDoor
