import Derived.Test.YtmccgfjhmbioeaaDoorNxFnPgThreads
namespace Go.Proofs.YtmccgfjhmbioeaaDoor.PgFnPgThreads
open Go.RowKit Go.Proofs.YtmccgfjhmbioeaaDoor.EvN Go.Proofs.YtmccgfjhmbioeaaDoor.Row Go.Proofs.YtmccgfjhmbioeaaDoor.PFnPgThreads Go.Proofs.YtmccgfjhmbioeaaDoorW.PrintWords Go.Proofs.YtmccgfjhmbioeaaDoorW.PrintLast Go.Proofs.YtmccgfjhmbioeaaDoorW.PrintMore
set_option linter.unusedSimpArgs false
set_option linter.unusedVariables false
def wdB (x : Int) : Bool := (decide (97 ≤ x) && decide (x ≤ 122)) || (decide (65 ≤ x) && decide (x ≤ 90)) || (decide (48 ≤ x) && decide (x ≤ 57)) || (x == 95)
theorem reWord_f (x : Int) : spec_reWord.f x = some (wdB x) := by
  unfold spec_reWord.f wdB
  by_cases h1 : 97 ≤ x <;> by_cases h2 : x ≤ 122 <;> by_cases h3 : 65 ≤ x <;> by_cases h4 : x ≤ 90 <;> by_cases h5 : 48 ≤ x <;> by_cases h6 : x ≤ 57 <;> simp [h1, h2, h3, h4, h5, h6] <;> omega
def cP (bm b10 am a10 wb : Bool) : Int :=
  let c0 : Int := if bm then Go.bits .or .i64 0 4 else 0
  let c1 := if bm || b10 then Go.bits .or .i64 c0 1 else c0
  let c2 := if am then Go.bits .or .i64 c1 8 else c1
  let c3 := if am || a10 then Go.bits .or .i64 c2 2 else c2
  if wb then Go.bits .or .i64 c3 16 else Go.bits .or .i64 c3 32
theorem cond_c (k : Nat) (b a : Int) : spec_CondBetween.f (k + 6) b a = some (cP (decide (b = -1)) (b == 10) (decide (a = -1)) (a == 10) (wdB b != wdB a)) := by
  unfold cP
  rw [spec_CondBetween.f]
  simp only [spec_CondBetween.j0, spec_CondBetween.j1, spec_CondBetween.j2, spec_CondBetween.j3, spec_CondBetween.j4, spec_CondBetween.j5, reWord_f, Option.bind_some]
  by_cases h1 : b = -1 <;> by_cases h2 : a = -1 <;> cases h3 : (b == 10) <;> cases h4 : (a == 10) <;> cases h5 : (wdB b != wdB a) <;> simp [h1, h2, h3, h4, h5]
def condZ (b a : Int) : Int := cP (decide (b = -1)) (b == 10) (decide (a = -1)) (a == 10) (wdB b != wdB a)
theorem cond_z (b a : Int) : spec_CondBetween.f 6 b a = some (condZ b a) := cond_c 0 b a
end Go.Proofs.YtmccgfjhmbioeaaDoor.PgFnPgThreads
