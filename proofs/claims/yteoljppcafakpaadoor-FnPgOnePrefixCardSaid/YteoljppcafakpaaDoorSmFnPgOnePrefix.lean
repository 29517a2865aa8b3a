/- Two rows of integers that are the same. No walk. -/
import Derived.Test.YteoljppcafakpaaDoorPaFnPgOnePrefix
namespace Go.Proofs.YteoljppcafakpaaDoor.PgFnPgOnePrefix
open Go.RowKit Go.Proofs.YteoljppcafakpaaDoor.EvN Go.Proofs.YteoljppcafakpaaDoor.PFnPgOnePrefix Go.Proofs.YteoljppcafakpaaDoorW.PrintWords Go.Proofs.YteoljppcafakpaaDoorW.PrintLast Go.Proofs.YteoljppcafakpaaDoorW.PrintMore

theorem ev_sameIntsL (l : List Int) (hl : l.length ≤ 4611686018427387000) : ∀ (n i : Nat), l.length = i + n → Evn (fun k => spec_SameInts.l0 k l l (l.length : Int) (i : Int)) true := by
  intro n
  induction n with
  | zero =>
    intro i hi
    refine Evn.succ (Evn.congr (Evn.const _) fun k => ?_)
    simp only [spec_SameInts.l0]
    rw [if_neg (by omega)]
  | succ n ih =>
    intro i hi
    have e1 : wrap64 ((i : Int) + 1) = ((i + 1 : Nat) : Int) := wrap_nat i 1 (by omega)
    refine Evn.succ ?_
    have q1 : (i : Int) < (l.length : Int) := by omega
    have q2 : (0 : Int) ≤ (i : Int) := by omega
    simp only [spec_SameInts.l0, if_pos q1, if_pos q2, e1, if_true]
    exact ih (i + 1) (by omega)
theorem ev_sameInts (l : List Int) (hl : l.length ≤ 4611686018427387000) : Evn (fun k => spec_SameInts.f k l l) true :=
  Evn.congr (g := fun k => spec_SameInts.l0 k l l (l.length : Int) 0) (ev_sameIntsL l hl l.length 0 (by omega)) fun k => by simp only [spec_SameInts.f, if_true]
end Go.Proofs.YteoljppcafakpaaDoor.PgFnPgOnePrefix
