import Derived.Test.YtmccgfjhmbioeaaDoorNxFnPgThreads
namespace Go.Proofs.YtmccgfjhmbioeaaDoor.PgFnPgThreads
open Go.RowKit Go.Proofs.YtmccgfjhmbioeaaDoor.EvN Go.Proofs.YtmccgfjhmbioeaaDoor.Row Go.Proofs.YtmccgfjhmbioeaaDoor.PFnPgThreads Go.Proofs.YtmccgfjhmbioeaaDoorW.PrintWords Go.Proofs.YtmccgfjhmbioeaaDoorW.PrintLast Go.Proofs.YtmccgfjhmbioeaaDoorW.PrintMore
set_option linter.unusedSimpArgs false
set_option linter.unusedVariables false
theorem PSound.op {L : List I} {st nc most : Int} (h : PSound L st nc most) (pc : Nat) (hpc : pc < L.length) : 0 ≤ (ins L pc).f0 ∧ (ins L pc).f0 ≤ 10 ∧ (ins L pc).f0 ≠ 1 := by
  have h1 := h.inst pc hpc
  by_cases hno : (ins L pc).f0 = 4 ∨ (ins L pc).f0 = 5 ∨ (ins L pc).f0 = 0 ∨ (ins L pc).f0 = 2 ∨ (ins L pc).f0 = 3 ∨ (ins L pc).f0 = 6 ∨ (ins L pc).f0 = 9 ∨ (ins L pc).f0 = 10 ∨ (ins L pc).f0 = 8 ∨ (ins L pc).f0 = 7
  · omega
  · exfalso
    have h2 := h.outIn pc hpc (by omega)
    unfold instB at h1
    rw [if_neg (by omega), if_neg (fun e => e h2), if_neg (by omega), if_neg (by omega), if_neg (by omega), if_neg (by omega), if_neg (by omega), if_neg (by omega), if_neg (by omega), if_neg (by omega)] at h1
    cases h1
theorem PSound.arg2 {L : List I} {st nc most : Int} (h : PSound L st nc most) (pc : Nat) (hpc : pc < L.length) (h3 : (ins L pc).f0 = 2) : 2 ≤ (ins L pc).f2 ∧ (ins L pc).f2 < nc := by
  have h1 := h.inst pc hpc
  have h2 := h.outIn pc hpc (by omega)
  unfold instB at h1
  rw [if_neg (by omega), if_neg (fun e => e h2), if_neg (by omega), if_pos h3, Bool.and_eq_true, decide_eq_true_eq, decide_eq_true_eq] at h1
  exact h1
theorem ev_fits4 (L : List I) (hL : L.length ≤ 2147483647) : ∀ (n i : Nat), L.length = i + n → Evn (fun k => laws_zzFits4.l0 k L (L.length : Int) (i : Int)) ((L.drop i).all fun x => decide (x.f3.length ≤ 2147483647)) := by
  intro n
  induction n with
  | zero =>
    intro i hi
    refine Evn.succ (Evn.congr (Evn.const _) fun k => ?_)
    simp only [laws_zzFits4.l0]
    rw [if_neg (by omega), List.drop_eq_nil_of_le (by omega)]; rfl
  | succ n ih =>
    intro i hi
    have e1 : wrap64 ((i : Int) + 1) = ((i + 1 : Nat) : Int) := wrap_nat i 1 (by omega)
    have hx : rd_T52 L (i : Int) = L[i]'(by omega) := by
      rw [ins_nat]; unfold ins; rw [List.getD_eq_getElem?_getD, List.getElem?_eq_getElem (show i < L.length by omega)]; rfl
    rw [List.drop_eq_getElem_cons (show i < L.length by omega), List.all_cons]
    refine Evn.succ ?_
    have q1 : (i : Int) < (L.length : Int) := by omega
    have q2 : (0 : Int) ≤ (i : Int) := by omega
    simp only [laws_zzFits4.l0, if_pos q1, if_pos q2, e1, hx, laws_zzFits5.f]
    by_cases h5 : ((L[i]'(by omega)).f3.length : Int) > 2147483647
    · have h6 : decide ((L[i]'(by omega)).f3.length ≤ 2147483647) = false := decide_eq_false (by omega)
      simp only [if_pos h5, h6, Bool.false_and, Option.bind_some, Bool.false_eq_true, if_false]
      exact Evn.const _
    · have h6 : decide ((L[i]'(by omega)).f3.length ≤ 2147483647) = true := decide_eq_true (by omega)
      simp only [if_neg h5, h6, Bool.true_and, Option.bind_some, if_true]
      exact ih (i + 1) (by omega)
def fits (L : List I) : Bool := decide (L.length ≤ 2147483647) && L.all fun x => decide (x.f3.length ≤ 2147483647)
theorem ev_fits (L : List I) (st nc : Int) : Evn (fun k => laws_zzFits3.f k L st nc) (fits L) := by
  have h4 : Evn (fun k => laws_zzFits4.f k L) (fits L) := by
    by_cases h : (L.length : Int) > 2147483647
    · have : fits L = false := by simp [fits]; intro h2; omega
      rw [this]
      exact Evn.congr (Evn.const _) fun k => by simp only [laws_zzFits4.f]; rw [if_pos h]
    · have e : fits L = ((L.drop 0).all fun x => decide (x.f3.length ≤ 2147483647)) := by
        unfold fits; rw [decide_eq_true (by omega), Bool.true_and, List.drop_zero]
      rw [e]
      exact Evn.congr (g := fun k => laws_zzFits4.l0 k L (L.length : Int) 0) (ev_fits4 L (by omega) L.length 0 (by omega)) fun k => by simp only [laws_zzFits4.f]; rw [if_neg h]
  refine Evn.congr (g := fun k => (laws_zzFits4.f k L).bind fun t => if t = true then some true else some false) (Evn.bind (g := fun _ t => if t = true then some true else some false) h4 (Evn.congr (Evn.const _) fun k => ?_)) fun k => rfl
  cases fits L <;> rfl
end Go.Proofs.YtmccgfjhmbioeaaDoor.PgFnPgThreads
