/-
  DERIVED. GIVEN WITH THE SEED: THE CARDS: each row of YtpnojanoamheiaaDoorRows.lean that lists a variable, with what it lists TIED to the program's text (the seventh form; the later family's looks); each row that meets fmt, with fmt's text TOLD by the authors' own Lean function (tested against real Go, not proved from fmt's source: count such statements apart). THE CARD IS WHAT COUNTS. Prove the row's statement (the work); the ties are given (YtpnojanoamheiaaDoorTie.lean); close each card by the builder's one call (the guide's Derived/Test/ToyasCard.lean, 'card_holds'). Laid BY PROGRAM, IN A SANDBOX (cutbox-door.mjs). By AI agents, Wed Nov 11 2026. No macro, syntax, notation, axiom, sorry.
-/
import Derived.Test.YtpnojanoamheiaaDoorRows
import GoSem.ClaimSeven
namespace Go.Proofs.YtpnojanoamheiaaDoor
namespace Rows

/-- THE TIED CARD OF 'laws.FnTxExpand'. -/
def fnTxExpandCard : Claim7 := { stood := { row := fnTxExpandRow, standIns := [], harness := (true, "570b975499ae1d8f45b46188516c2d7149b1baafe08e15782283765f13272848"), looks := false }, kinds := [], alts := [], laidByText := true, laidKinds := [.data, .data, .pinned, .pinned, .pinned], laidTests := true, laidLooks := .later }
def FnTxExpandCardSaid : Prop := Claim7.holds Tryd.pinned (.plain (OpenSpec.ofChange fnTxExpandSpec)) fnTxExpandCard

/-- THE SECOND FORM's CARD OF 'laws.FnTxExpand'. -/
def fnTxExpandUptoCard : Claim7 := { stood := { row := fnTxExpandUptoRow, standIns := [], harness := (true, "570b975499ae1d8f45b46188516c2d7149b1baafe08e15782283765f13272848"), looks := false }, kinds := [], alts := [], laidByText := true, laidKinds := [.data, .data, .pinned, .pinned, .pinned], laidTests := true, laidLooks := .later }
def FnTxExpandUptoCardSaid : Prop := Claim7.holds Tryd.pinned (.plain (OpenSpec.upto fnTxExpandSpec)) fnTxExpandUptoCard
end Rows
end Go.Proofs.YtpnojanoamheiaaDoor
