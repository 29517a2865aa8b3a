/- Whether a character lies in a class, as the print has it. No walk. -/
import Derived.Test.YtofkpinikkfmeaaDoorPimFnMtLeast
import Derived.Test.YtofkpinikkfmeaaDoorEv
namespace Go.Proofs.YtofkpinikkfmeaaDoor.IcFnMtLeast
open Go.RowKit Go.Proofs.YtofkpinikkfmeaaDoor.EvN Go.Proofs.YtofkpinikkfmeaaDoor.PFnMtLeast Go.Proofs.YtofkpinikkfmeaaDoorW.PrintWords Go.Proofs.YtofkpinikkfmeaaDoorW.PrintLast Go.Proofs.YtofkpinikkfmeaaDoorW.PrintMore
set_option linter.unusedSimpArgs false
set_option linter.unusedVariables false

def inCls : List Int → Int → Bool
  | a :: b :: r, c => (decide (a ≤ c) && decide (c ≤ b)) || inCls r c
  | _, _ => false
theorem drop2 (l : List Int) (i : Nat) (h : i + 1 < l.length) : l.drop i = l[i] :: l[i + 1] :: l.drop (i + 2) := by
  rw [List.drop_eq_getElem_cons (by omega), List.drop_eq_getElem_cons (by omega)]

theorem inCls_short (l : List Int) (c : Int) (h : l.length ≤ 1) : inCls l c = false := by
  match l, h with
  | [], _ => rfl
  | [_], _ => rfl
theorem ev_inClsL (l : List Int) (c : Int) (hl : l.length ≤ 4611686018427387000) : ∀ (n i : Nat), l.length ≤ i + 2 * n → i ≤ l.length + 1 → Evn (fun k => spec_reInClass.l0 k l c (i : Int)) (inCls (l.drop i) c) := by
  intro n
  induction n with
  | zero =>
    intro i h1 h2
    rw [inCls_short _ _ (by rw [List.length_drop]; omega)]
    have e1 : wrap64 ((i : Int) + 1) = ((i + 1 : Nat) : Int) := wrap_nat i 1 (by omega)
    refine Evn.succ (Evn.congr (Evn.const _) fun k => ?_)
    simp only [spec_reInClass.l0, e1]
    rw [if_neg (by omega)]
  | succ n ih =>
    intro i h1 h2
    have e1 : wrap64 ((i : Int) + 1) = ((i + 1 : Nat) : Int) := wrap_nat i 1 (by omega)
    have e2 : wrap64 ((i : Int) + 2) = ((i + 2 : Nat) : Int) := wrap_nat i 2 (by omega)
    by_cases h : i + 1 < l.length
    · rw [drop2 l i h]
      refine Evn.succ ?_
      have q0 : ((i + 1 : Nat) : Int) < (l.length : Int) := by omega
      have q1 : (0 : Int) ≤ (i : Int) := by omega
      have q2 : (i : Int) < (l.length : Int) := by omega
      have q3 : (0 : Int) ≤ ((i + 1 : Nat) : Int) := by omega
      simp only [spec_reInClass.l0, e1, e2, rd_nat l i (by omega), rd_nat l (i + 1) h, if_pos q0, if_pos q1, if_pos q2, if_pos q3, inCls]
      by_cases c1 : l[i]'(by omega) ≤ c
      · by_cases c2 : c ≤ l[i + 1]
        · simp only [if_pos c1, if_pos c2, decide_eq_true c1, decide_eq_true c2, Bool.and_self, Bool.true_or]; exact Evn.const _
        · simp only [if_pos c1, if_neg c2, decide_eq_true c1, decide_eq_false c2, Bool.and_false, Bool.false_or]; exact ih (i + 2) (by omega) (by omega)
      · simp only [if_neg c1, decide_eq_false c1, Bool.false_and, Bool.false_or]; exact ih (i + 2) (by omega) (by omega)
    · rw [inCls_short _ _ (by rw [List.length_drop]; omega)]
      refine Evn.succ (Evn.congr (Evn.const _) fun k => ?_)
      simp only [spec_reInClass.l0, e1]
      rw [if_neg (by omega)]
theorem ev_inCls (l : List Int) (c : Int) (hl : l.length ≤ 4611686018427387000) : Evn (fun k => spec_reInClass.f k l c) (inCls l c) := by
  have := ev_inClsL l c hl l.length 0 (by omega) (by omega)
  rw [List.drop_zero] at this
  exact this

theorem add_0 (a : Addr) : a.add 0 = a := by
  unfold Addr.add; split <;> simp_all
end Go.Proofs.YtofkpinikkfmeaaDoor.IcFnMtLeast
