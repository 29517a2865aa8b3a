/- Two trees of identical structure. No walk. -/
import Derived.Test.YtaogbmljadaplaaPvFnSyEqual
import Derived.Test.YtaogbmljadaplaaPFnSyEqualx7
namespace Go.Proofs.Ytaogbmljadaplaa.TrFnSyEqual
open Go.RowKit Go.Proofs.Ytaogbmljadaplaa.PFnSyEqual Go.Proofs.YtaogbmljadaplaaW.PrintWords Go.Proofs.YtaogbmljadaplaaW.PrintLast Go.Proofs.YtaogbmljadaplaaW.PrintMore

abbrev bitEq (a b m : Int) : Bool := (Go.bits .and .i64 a m) == (Go.bits .and .i64 b m)

/-- What of two nodes themselves must be the same. -/
def nodeEq (x y : T) : Bool :=
  if x.f0 = 10 then bitEq x.f1 y.f1 256
  else if x.f0 = 3 ∨ x.f0 = 4 then bitEq x.f1 y.f1 1 && decide (x.f2 = y.f2)
  else if x.f0 = 14 ∨ x.f0 = 15 ∨ x.f0 = 16 then bitEq x.f1 y.f1 32
  else if x.f0 = 17 then bitEq x.f1 y.f1 32 && decide (x.f3 = y.f3) && decide (x.f4 = y.f4)
  else if x.f0 = 13 then decide (x.f5 = y.f5) && (x.f6.toList == y.f6.toList)
  else true

mutual
def same : T → T → Bool
  | ⟨a, b, c, d, e, f, g, l⟩, y => if a = y.f0 ∧ l.length = y.f7.length ∧ nodeEq ⟨a, b, c, d, e, f, g, l⟩ y = true then sameL l y.f7 else false
def sameL : List T → List T → Bool
  | [], _ => true
  | _ :: _, [] => true
  | x :: r, y :: s => if same x y = true then sameL r s else false
end
theorem same_eq (x y : T) : same x y = if x.f0 = y.f0 ∧ x.f7.length = y.f7.length ∧ nodeEq x y = true then sameL x.f7 y.f7 else false := by cases x; rw [same]

end Go.Proofs.Ytaogbmljadaplaa.TrFnSyEqual
