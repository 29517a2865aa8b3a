/-
  NARROWER THAN 'FOR EVERY INPUT', by the rows' own cells (each row's printed sentence says how): FnSyCaps: loops · FnSyEqual: loops.
  DERIVED. THE GIVEN ROWS OF THIS SEAT. 7 by the template 'for every input the law returns true; each argument reads behind the call as it read before'; 0 by the template 'total and deterministic' (their statements: YtaogbmljadaplaaTotals.lean).
  GIVEN WITH THE SEED: the statements are not yours to turn. If you find one false, say at which input.
  Laid BY PROGRAM, IN A SANDBOX (cutbox-rows.mjs): the forced cells as the released guide's own fill.sh prints them over the translation 986ee25598985e71… (all of the seat's roots in one cut). By AI agents, Wed Nov 11 2026. No macro, syntax, notation, axiom, sorry.
-/
import Derived.Test.YtaogbmljadaplaaChecked
import GoSem.Claim
import GoSem.ClaimJoined
import GoSem.ClaimMapViews
import Derived.JoinedTies
import Derived.KernelRfl
namespace Go.Proofs.Ytaogbmljadaplaa
/- THE CELL 'sum', in the pinned program and in every row, IS THE sha256 OF THE DUMP (.gsa) THAT YtaogbmljadaplaaProg.lean LOADS. Nothing in Lean hashes anything: it is a label: what it is worth is what the hold of that sum in a sandbox is worth. -/
noncomputable def Try.pinned : Pinned := { name := "ytaogbmljadaplaa", sum := "986ee25598985e71967740108a1c805eddd4b82b74adb81166e1d9a62612869a", checked := Try.checked }
namespace Rows
def none {H : Type} : Left H := { results := [], args := [] }

/-- 'laws.FnSyContext': WHATEVER THE INPUT: true; the input reads as it did. -/
def fnSyContextSpec : ChangeSpec := { name := "fnSyContext", fn := fun _ => fun
  | [d1, d2] => { results := [.lit (.bool true)], args := [d1, d2] }
  | _ => none }
def fnSyContextRow : OpenClaim := { program := "ytaogbmljadaplaa", sum := "986ee25598985e71967740108a1c805eddd4b82b74adb81166e1d9a62612869a", func := "pub-searce/laws.FnSyContext", spec := "fnSyContext", apart := false }
def FnSyContextSaid : Prop := fnSyContextRow.holds Try.pinned (OpenSpec.ofChange fnSyContextSpec)

/-- ITS FALSE NEIGHBOUR: 'it returns false'. Refute it at one input. -/
def fnSyContextWrong : ChangeSpec := { name := "fnSyContext", fn := fun _ => fun
  | [d1, d2] => { results := [.lit (.bool false)], args := [d1, d2] }
  | _ => none }
def FnSyContextWrongFalsely : Prop := fnSyContextRow.holds Try.pinned (OpenSpec.ofChange fnSyContextWrong)

/-- 'laws.FnSyMatchEmpty': WHATEVER THE INPUT: true; the input reads as it did. -/
def fnSyMatchEmptySpec : ChangeSpec := { name := "fnSyMatchEmpty", fn := fun _ => fun
  | [d1, d2, d3] => { results := [.lit (.bool true)], args := [d1, d2, d3] }
  | _ => none }
def fnSyMatchEmptyRow : OpenClaim := { program := "ytaogbmljadaplaa", sum := "986ee25598985e71967740108a1c805eddd4b82b74adb81166e1d9a62612869a", func := "pub-searce/laws.FnSyMatchEmpty", spec := "fnSyMatchEmpty", apart := false }
def FnSyMatchEmptySaid : Prop := fnSyMatchEmptyRow.holds Try.pinned (OpenSpec.ofChange fnSyMatchEmptySpec)

/-- ITS FALSE NEIGHBOUR: 'it returns false'. Refute it at one input. -/
def fnSyMatchEmptyWrong : ChangeSpec := { name := "fnSyMatchEmpty", fn := fun _ => fun
  | [d1, d2, d3] => { results := [.lit (.bool false)], args := [d1, d2, d3] }
  | _ => none }
def FnSyMatchEmptyWrongFalsely : Prop := fnSyMatchEmptyRow.holds Try.pinned (OpenSpec.ofChange fnSyMatchEmptyWrong)

/-- 'laws.FnTxQuote': WHATEVER THE INPUT: true; the input reads as it did. -/
def fnTxQuoteSpec : ChangeSpec := { name := "fnTxQuote", fn := fun _ => fun
  | [d] => { results := [.lit (.bool true)], args := [d] }
  | _ => none }
def fnTxQuoteRow : OpenClaim := { program := "ytaogbmljadaplaa", sum := "986ee25598985e71967740108a1c805eddd4b82b74adb81166e1d9a62612869a", func := "pub-searce/laws.FnTxQuote", spec := "fnTxQuote", apart := false }
def FnTxQuoteSaid : Prop := fnTxQuoteRow.holds Try.pinned (OpenSpec.ofChange fnTxQuoteSpec)

/-- ITS FALSE NEIGHBOUR: 'it returns false'. Refute it at one input. -/
def fnTxQuoteWrong : ChangeSpec := { name := "fnTxQuote", fn := fun _ => fun
  | [d] => { results := [.lit (.bool false)], args := [d] }
  | _ => none }
def FnTxQuoteWrongFalsely : Prop := fnTxQuoteRow.holds Try.pinned (OpenSpec.ofChange fnTxQuoteWrong)

/-- 'laws.FnSyCanonical': WHATEVER THE INPUT: true; the input reads as it did. -/
def fnSyCanonicalSpec : ChangeSpec := { name := "fnSyCanonical", fn := fun _ => fun
  | [d1, d2] => { results := [.lit (.bool true)], args := [d1, d2] }
  | _ => none }
def fnSyCanonicalRow : OpenClaim := { program := "ytaogbmljadaplaa", sum := "986ee25598985e71967740108a1c805eddd4b82b74adb81166e1d9a62612869a", func := "pub-searce/laws.FnSyCanonical", spec := "fnSyCanonical", apart := false }
def FnSyCanonicalSaid : Prop := fnSyCanonicalRow.holds Try.pinned (OpenSpec.ofChange fnSyCanonicalSpec)

/-- ITS FALSE NEIGHBOUR: 'it returns false'. Refute it at one input. -/
def fnSyCanonicalWrong : ChangeSpec := { name := "fnSyCanonical", fn := fun _ => fun
  | [d1, d2] => { results := [.lit (.bool false)], args := [d1, d2] }
  | _ => none }
def FnSyCanonicalWrongFalsely : Prop := fnSyCanonicalRow.holds Try.pinned (OpenSpec.ofChange fnSyCanonicalWrong)

/-- 'laws.FnSyRepeat': WHATEVER THE INPUT: true; the input reads as it did. -/
def fnSyRepeatSpec : ChangeSpec := { name := "fnSyRepeat", fn := fun _ => fun
  | [d] => { results := [.lit (.bool true)], args := [d] }
  | _ => none }
def fnSyRepeatRow : OpenClaim := { program := "ytaogbmljadaplaa", sum := "986ee25598985e71967740108a1c805eddd4b82b74adb81166e1d9a62612869a", func := "pub-searce/laws.FnSyRepeat", spec := "fnSyRepeat", unfollowed := true, recurses := true, apart := false }
def FnSyRepeatSaid : Prop := fnSyRepeatRow.holds Try.pinned (OpenSpec.ofChange fnSyRepeatSpec)

/-- ITS FALSE NEIGHBOUR: 'it returns false'. Refute it at one input. -/
def fnSyRepeatWrong : ChangeSpec := { name := "fnSyRepeat", fn := fun _ => fun
  | [d] => { results := [.lit (.bool false)], args := [d] }
  | _ => none }
def FnSyRepeatWrongFalsely : Prop := fnSyRepeatRow.holds Try.pinned (OpenSpec.ofChange fnSyRepeatWrong)

/-- 'laws.FnSyCaps': WHATEVER THE INPUT: true; the input reads as it did. -/
def fnSyCapsSpec : ChangeSpec := { name := "fnSyCaps", fn := fun _ => fun
  | [d] => { results := [.lit (.bool true)], args := [d] }
  | _ => none }
def fnSyCapsRow : OpenClaim := { program := "ytaogbmljadaplaa", sum := "986ee25598985e71967740108a1c805eddd4b82b74adb81166e1d9a62612869a", func := "pub-searce/laws.FnSyCaps", spec := "fnSyCaps", unfollowed := true, recurses := true, loops := true, apart := false }
def FnSyCapsSaid : Prop := fnSyCapsRow.holds Try.pinned (OpenSpec.ofChange fnSyCapsSpec)

/-- ITS FALSE NEIGHBOUR: 'it returns false'. Refute it at one input. -/
def fnSyCapsWrong : ChangeSpec := { name := "fnSyCaps", fn := fun _ => fun
  | [d] => { results := [.lit (.bool false)], args := [d] }
  | _ => none }
def FnSyCapsWrongFalsely : Prop := fnSyCapsRow.holds Try.pinned (OpenSpec.ofChange fnSyCapsWrong)

/-- 'laws.FnSyEqual': WHATEVER THE INPUT: true; the input reads as it did. -/
def fnSyEqualSpec : ChangeSpec := { name := "fnSyEqual", fn := fun _ => fun
  | [d1, d2] => { results := [.lit (.bool true)], args := [d1, d2] }
  | _ => none }
def fnSyEqualRow : OpenClaim := { program := "ytaogbmljadaplaa", sum := "986ee25598985e71967740108a1c805eddd4b82b74adb81166e1d9a62612869a", func := "pub-searce/laws.FnSyEqual", spec := "fnSyEqual", unfollowed := true, recurses := true, loops := true, apart := false }
def FnSyEqualSaid : Prop := fnSyEqualRow.holds Try.pinned (OpenSpec.ofChange fnSyEqualSpec)

/-- ITS FALSE NEIGHBOUR: 'it returns false'. Refute it at one input. -/
def fnSyEqualWrong : ChangeSpec := { name := "fnSyEqual", fn := fun _ => fun
  | [d1, d2] => { results := [.lit (.bool false)], args := [d1, d2] }
  | _ => none }
def FnSyEqualWrongFalsely : Prop := fnSyEqualRow.holds Try.pinned (OpenSpec.ofChange fnSyEqualWrong)

/- THE SECOND FORM. 'bulk': how many values and letters a reading holds, each counted each time it is reached (what is shared counts as often as it is met; a slice's spare places count too). A statement '..UptoSaid' is the law's where the arguments, and the package variables that the reading takes, are together of bulk at most 1048576: NARROWER than '..Said'. Prove '..Said' where nothing that the law and all that it calls make is longer than what came in: it says more and counts as full. Else prove '..UptoSaid'. A law counts once. -/
mutual
def uptoBulk {H : Type} : DataW H → Nat
  | .lit (.string bytes) => bytes.length + 1
  | .lit _ => 1
  | .nil => 1
  | .ptr d => uptoBulk d + 1
  | .slice elems spare => uptoBulkAll elems + uptoBulkAll spare + 1
  | .agg parts => uptoBulkAll parts + 1
  | .iface _ d => uptoBulk d + 1
  | .map entries => uptoBulkEntries entries + 1
  | .held _ => 1
def uptoBulkAll {H : Type} : List (DataW H) → Nat
  | [] => 0
  | d :: r => uptoBulk d + uptoBulkAll r
def uptoBulkEntries {H : Type} : List (Lit × DataW H) → Nat
  | [] => 0
  | x :: r => uptoBulkEntry x + uptoBulkEntries r
def uptoBulkEntry {H : Type} : Lit × DataW H → Nat
  | (.string bytes, d) => bytes.length + uptoBulk d + 1
  | (_, d) => uptoBulk d + 1
 end
def uptoSmall : (H : Type) → List (DataW H) → Bool := fun _ ds => decide (uptoBulkAll ds ≤ 1048576)
def OpenSpec.upto (s : _root_.Go.ChangeSpec) : _root_.Go.OpenSpec := { _root_.Go.OpenSpec.ofChange s with cond := some uptoSmall }

/-- 'laws.FnSyContext', WHERE WHAT IT READS IS OF BULK AT MOST 1048576: true; the input reads as it did. -/
def fnSyContextUptoRow : OpenClaim := { program := "ytaogbmljadaplaa", sum := "986ee25598985e71967740108a1c805eddd4b82b74adb81166e1d9a62612869a", func := "pub-searce/laws.FnSyContext", spec := "fnSyContext", apart := false, narrowed := true }
def FnSyContextUptoSaid : Prop := fnSyContextUptoRow.holds Try.pinned (OpenSpec.upto fnSyContextSpec)

/-- 'laws.FnSyMatchEmpty', WHERE WHAT IT READS IS OF BULK AT MOST 1048576: true; the input reads as it did. -/
def fnSyMatchEmptyUptoRow : OpenClaim := { program := "ytaogbmljadaplaa", sum := "986ee25598985e71967740108a1c805eddd4b82b74adb81166e1d9a62612869a", func := "pub-searce/laws.FnSyMatchEmpty", spec := "fnSyMatchEmpty", apart := false, narrowed := true }
def FnSyMatchEmptyUptoSaid : Prop := fnSyMatchEmptyUptoRow.holds Try.pinned (OpenSpec.upto fnSyMatchEmptySpec)

/-- 'laws.FnTxQuote', WHERE WHAT IT READS IS OF BULK AT MOST 1048576: true; the input reads as it did. -/
def fnTxQuoteUptoRow : OpenClaim := { program := "ytaogbmljadaplaa", sum := "986ee25598985e71967740108a1c805eddd4b82b74adb81166e1d9a62612869a", func := "pub-searce/laws.FnTxQuote", spec := "fnTxQuote", apart := false, narrowed := true }
def FnTxQuoteUptoSaid : Prop := fnTxQuoteUptoRow.holds Try.pinned (OpenSpec.upto fnTxQuoteSpec)

/-- 'laws.FnSyCanonical', WHERE WHAT IT READS IS OF BULK AT MOST 1048576: true; the input reads as it did. -/
def fnSyCanonicalUptoRow : OpenClaim := { program := "ytaogbmljadaplaa", sum := "986ee25598985e71967740108a1c805eddd4b82b74adb81166e1d9a62612869a", func := "pub-searce/laws.FnSyCanonical", spec := "fnSyCanonical", apart := false, narrowed := true }
def FnSyCanonicalUptoSaid : Prop := fnSyCanonicalUptoRow.holds Try.pinned (OpenSpec.upto fnSyCanonicalSpec)

/-- 'laws.FnSyRepeat', WHERE WHAT IT READS IS OF BULK AT MOST 1048576: true; the input reads as it did. -/
def fnSyRepeatUptoRow : OpenClaim := { program := "ytaogbmljadaplaa", sum := "986ee25598985e71967740108a1c805eddd4b82b74adb81166e1d9a62612869a", func := "pub-searce/laws.FnSyRepeat", spec := "fnSyRepeat", unfollowed := true, recurses := true, apart := false, narrowed := true }
def FnSyRepeatUptoSaid : Prop := fnSyRepeatUptoRow.holds Try.pinned (OpenSpec.upto fnSyRepeatSpec)

/-- 'laws.FnSyCaps', WHERE WHAT IT READS IS OF BULK AT MOST 1048576: true; the input reads as it did. -/
def fnSyCapsUptoRow : OpenClaim := { program := "ytaogbmljadaplaa", sum := "986ee25598985e71967740108a1c805eddd4b82b74adb81166e1d9a62612869a", func := "pub-searce/laws.FnSyCaps", spec := "fnSyCaps", unfollowed := true, recurses := true, loops := true, apart := false, narrowed := true }
def FnSyCapsUptoSaid : Prop := fnSyCapsUptoRow.holds Try.pinned (OpenSpec.upto fnSyCapsSpec)

/-- 'laws.FnSyEqual', WHERE WHAT IT READS IS OF BULK AT MOST 1048576: true; the input reads as it did. -/
def fnSyEqualUptoRow : OpenClaim := { program := "ytaogbmljadaplaa", sum := "986ee25598985e71967740108a1c805eddd4b82b74adb81166e1d9a62612869a", func := "pub-searce/laws.FnSyEqual", spec := "fnSyEqual", unfollowed := true, recurses := true, loops := true, apart := false, narrowed := true }
def FnSyEqualUptoSaid : Prop := fnSyEqualUptoRow.holds Try.pinned (OpenSpec.upto fnSyEqualSpec)

end Rows
end Go.Proofs.Ytaogbmljadaplaa
