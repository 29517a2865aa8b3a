/-
  DERIVED. GIVEN WITH THE SEED: THE CARDS: each row of YtmccgfjhmbioeaaDoorRows.lean that lists a variable, with what it lists TIED to the program's text (the seventh form; the later family's looks); each row that meets fmt, with fmt's text TOLD by the authors' own Lean function (tested against real Go, not proved from fmt's source: count such statements apart). THE CARD IS WHAT COUNTS. Prove the row's statement (the work); the ties are given (YtmccgfjhmbioeaaDoorTie.lean); close each card by the builder's one call (the guide's Derived/Test/ToyasCard.lean, 'card_holds'). Laid BY PROGRAM, IN A SANDBOX (cutbox-door.mjs). By AI agents, Wed Nov 11 2026. No macro, syntax, notation, axiom, sorry.
-/
import Derived.Test.YtmccgfjhmbioeaaDoorRows
import GoSem.ClaimSeven
namespace Go.Proofs.YtmccgfjhmbioeaaDoor
namespace Rows

/-- THE TIED CARD OF 'laws.FnPgThreads'. -/
def fnPgThreadsCard : Claim7 := { stood := { row := fnPgThreadsRow, standIns := [], harness := (true, "b2a6744641d744200ed0845aeaefe9680122b6b865ddecbd0e7c12e8b3b961ce"), looks := false }, kinds := [], alts := [], laidByText := true, laidKinds := [.data, .data, .data, .data, .pinned, .pinned], laidTests := true, laidLooks := .later }
def FnPgThreadsCardSaid : Prop := Claim7.holds Tryd.pinned (.plain (OpenSpec.ofChange fnPgThreadsSpec)) fnPgThreadsCard

/-- THE SECOND FORM's CARD OF 'laws.FnPgThreads'. -/
def fnPgThreadsUptoCard : Claim7 := { stood := { row := fnPgThreadsUptoRow, standIns := [], harness := (true, "b2a6744641d744200ed0845aeaefe9680122b6b865ddecbd0e7c12e8b3b961ce"), looks := false }, kinds := [], alts := [], laidByText := true, laidKinds := [.data, .data, .data, .data, .pinned, .pinned], laidTests := true, laidLooks := .later }
def FnPgThreadsUptoCardSaid : Prop := Claim7.holds Tryd.pinned (.plain (OpenSpec.upto fnPgThreadsSpec)) fnPgThreadsUptoCard
end Rows
end Go.Proofs.YtmccgfjhmbioeaaDoor
