/-
  DERIVED. GIVEN WITH THE SEED: THE CARDS: each row of YteoljppcafakpaaDoorRows.lean that lists a variable, with what it lists TIED to the program's text (the seventh form; the later family's looks); each row that meets fmt, with fmt's text TOLD by the authors' own Lean function (tested against real Go, not proved from fmt's source: count such statements apart). THE CARD IS WHAT COUNTS. Prove the row's statement (the work); the ties are given (YteoljppcafakpaaDoorTie.lean); close each card by the builder's one call (the guide's Derived/Test/ToyasCard.lean, 'card_holds'). Laid BY PROGRAM, IN A SANDBOX (cutbox-door.mjs). By AI agents, Wed Nov 11 2026. No macro, syntax, notation, axiom, sorry.
-/
import Derived.Test.YteoljppcafakpaaDoorRows
import GoSem.ClaimSeven
namespace Go.Proofs.YteoljppcafakpaaDoor
namespace Rows

/-- THE TIED CARD OF 'laws.FnPgOnePrefix'. -/
def fnPgOnePrefixCard : Claim7 := { stood := { row := fnPgOnePrefixRow, standIns := [], harness := (true, "8dfcac6fdb26901e0359ae2b5ce616577dea012875e254e14c1872422586cd18"), looks := false }, kinds := [], alts := [], laidByText := true, laidKinds := [.data, .data, .data, .pinned, .pinned], laidTests := true, laidLooks := .later }
def FnPgOnePrefixCardSaid : Prop := Claim7.holds Tryd.pinned (.plain (OpenSpec.ofChange fnPgOnePrefixSpec)) fnPgOnePrefixCard

/-- THE TIED CARD OF 'laws.FnPgWalk'. -/
def fnPgWalkCard : Claim7 := { stood := { row := fnPgWalkRow, standIns := [], harness := (true, "8dfcac6fdb26901e0359ae2b5ce616577dea012875e254e14c1872422586cd18"), looks := false }, kinds := [], alts := [], laidByText := true, laidKinds := [.data, .data, .data, .data, .pinned, .pinned], laidTests := true, laidLooks := .later }
def FnPgWalkCardSaid : Prop := Claim7.holds Tryd.pinned (.plain (OpenSpec.ofChange fnPgWalkSpec)) fnPgWalkCard

/-- THE TIED CARD OF 'laws.FnPgSpan'. -/
def fnPgSpanCard : Claim7 := { stood := { row := fnPgSpanRow, standIns := [], harness := (true, "8dfcac6fdb26901e0359ae2b5ce616577dea012875e254e14c1872422586cd18"), looks := false }, kinds := [], alts := [], laidByText := true, laidKinds := [.data, .data, .data, .data, .pinned, .pinned], laidTests := true, laidLooks := .later }
def FnPgSpanCardSaid : Prop := Claim7.holds Tryd.pinned (.plain (OpenSpec.ofChange fnPgSpanSpec)) fnPgSpanCard

/-- THE TIED CARD OF 'laws.FnPgThreads'. -/
def fnPgThreadsCard : Claim7 := { stood := { row := fnPgThreadsRow, standIns := [], harness := (true, "8dfcac6fdb26901e0359ae2b5ce616577dea012875e254e14c1872422586cd18"), looks := false }, kinds := [], alts := [], laidByText := true, laidKinds := [.data, .data, .data, .data, .pinned, .pinned], laidTests := true, laidLooks := .later }
def FnPgThreadsCardSaid : Prop := Claim7.holds Tryd.pinned (.plain (OpenSpec.ofChange fnPgThreadsSpec)) fnPgThreadsCard

/-- THE SECOND FORM's CARD OF 'laws.FnPgOnePrefix'. -/
def fnPgOnePrefixUptoCard : Claim7 := { stood := { row := fnPgOnePrefixUptoRow, standIns := [], harness := (true, "8dfcac6fdb26901e0359ae2b5ce616577dea012875e254e14c1872422586cd18"), looks := false }, kinds := [], alts := [], laidByText := true, laidKinds := [.data, .data, .data, .pinned, .pinned], laidTests := true, laidLooks := .later }
def FnPgOnePrefixUptoCardSaid : Prop := Claim7.holds Tryd.pinned (.plain (OpenSpec.upto fnPgOnePrefixSpec)) fnPgOnePrefixUptoCard

/-- THE SECOND FORM's CARD OF 'laws.FnPgWalk'. -/
def fnPgWalkUptoCard : Claim7 := { stood := { row := fnPgWalkUptoRow, standIns := [], harness := (true, "8dfcac6fdb26901e0359ae2b5ce616577dea012875e254e14c1872422586cd18"), looks := false }, kinds := [], alts := [], laidByText := true, laidKinds := [.data, .data, .data, .data, .pinned, .pinned], laidTests := true, laidLooks := .later }
def FnPgWalkUptoCardSaid : Prop := Claim7.holds Tryd.pinned (.plain (OpenSpec.upto fnPgWalkSpec)) fnPgWalkUptoCard

/-- THE SECOND FORM's CARD OF 'laws.FnPgSpan'. -/
def fnPgSpanUptoCard : Claim7 := { stood := { row := fnPgSpanUptoRow, standIns := [], harness := (true, "8dfcac6fdb26901e0359ae2b5ce616577dea012875e254e14c1872422586cd18"), looks := false }, kinds := [], alts := [], laidByText := true, laidKinds := [.data, .data, .data, .data, .pinned, .pinned], laidTests := true, laidLooks := .later }
def FnPgSpanUptoCardSaid : Prop := Claim7.holds Tryd.pinned (.plain (OpenSpec.upto fnPgSpanSpec)) fnPgSpanUptoCard

/-- THE SECOND FORM's CARD OF 'laws.FnPgThreads'. -/
def fnPgThreadsUptoCard : Claim7 := { stood := { row := fnPgThreadsUptoRow, standIns := [], harness := (true, "8dfcac6fdb26901e0359ae2b5ce616577dea012875e254e14c1872422586cd18"), looks := false }, kinds := [], alts := [], laidByText := true, laidKinds := [.data, .data, .data, .data, .pinned, .pinned], laidTests := true, laidLooks := .later }
def FnPgThreadsUptoCardSaid : Prop := Claim7.holds Tryd.pinned (.plain (OpenSpec.upto fnPgThreadsSpec)) fnPgThreadsUptoCard
end Rows
end Go.Proofs.YteoljppcafakpaaDoor
