/-
  DERIVED. GIVEN WITH THE SEED: THE CARDS: each row of YtofkpinikkfmeaaDoorRows.lean that lists a variable, with what it lists TIED to the program's text (the seventh form; the later family's looks); each row that meets fmt, with fmt's text TOLD by the authors' own Lean function (tested against real Go, not proved from fmt's source: count such statements apart). THE CARD IS WHAT COUNTS. Prove the row's statement (the work); the ties are given (YtofkpinikkfmeaaDoorTie.lean); close each card by the builder's one call (the guide's Derived/Test/ToyasCard.lean, 'card_holds'). Laid BY PROGRAM, IN A SANDBOX (cutbox-door.mjs). By AI agents, Wed Nov 11 2026. No macro, syntax, notation, axiom, sorry.
-/
import Derived.Test.YtofkpinikkfmeaaDoorRows
import GoSem.ClaimSeven
namespace Go.Proofs.YtofkpinikkfmeaaDoor
namespace Rows

/-- THE TIED CARD OF 'laws.FnMtLeast'. -/
def fnMtLeastCard : Claim7 := { stood := { row := fnMtLeastRow, standIns := [], harness := (true, "a00ca54715ad159ecde0cb34bdd8b575ac83cdd23c333dd8fb7e39ca620a2192"), looks := false }, kinds := [], alts := [], laidByText := true, laidKinds := [.data, .data, .data, .pinned, .pinned], laidTests := true, laidLooks := .later }
def FnMtLeastCardSaid : Prop := Claim7.holds Tryd.pinned (.plain (OpenSpec.ofChange fnMtLeastSpec)) fnMtLeastCard

/-- THE SECOND FORM's CARD OF 'laws.FnMtLeast'. -/
def fnMtLeastUptoCard : Claim7 := { stood := { row := fnMtLeastUptoRow, standIns := [], harness := (true, "a00ca54715ad159ecde0cb34bdd8b575ac83cdd23c333dd8fb7e39ca620a2192"), looks := false }, kinds := [], alts := [], laidByText := true, laidKinds := [.data, .data, .data, .pinned, .pinned], laidTests := true, laidLooks := .later }
def FnMtLeastUptoCardSaid : Prop := Claim7.holds Tryd.pinned (.plain (OpenSpec.upto fnMtLeastSpec)) fnMtLeastUptoCard
end Rows
end Go.Proofs.YtofkpinikkfmeaaDoor
