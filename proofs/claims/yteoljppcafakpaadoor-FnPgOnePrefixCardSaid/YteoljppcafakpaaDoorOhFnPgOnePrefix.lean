/- ProgHalves: what the printed text answers. No walk. -/
import Derived.Test.YteoljppcafakpaaDoorUbFnPgOnePrefix
namespace Go.Proofs.YteoljppcafakpaaDoor.PgFnPgOnePrefix
open Go.RowKit Go.Proofs.YteoljppcafakpaaDoor.EvN Go.Proofs.YteoljppcafakpaaDoor.Row Go.Proofs.YteoljppcafakpaaDoor.PFnPgOnePrefix Go.Proofs.YteoljppcafakpaaDoorW.PrintWords Go.Proofs.YteoljppcafakpaaDoorW.PrintLast Go.Proofs.YteoljppcafakpaaDoorW.PrintMore
set_option linter.unusedSimpArgs false
set_option linter.unusedVariables false

def halfB (i : I) : Bool := decide (0 < i.f3.length) && (decide (i.f0 = 8) || (decide (i.f0 = 7) && decide (i.f3.length = 1))) && decide (55296 ≤ i.f3.getD 0 0) && decide (i.f3.getD 0 0 ≤ 57343)
theorem ev_halvesL (L : List I) (hL : L.length ≤ 2147483647) : ∀ (n i : Nat), L.length = i + n → Evn (fun k => spec_ProgHalves.l0 k L (L.length : Int) (i : Int)) ((L.drop i).any halfB) := by
  intro n
  induction n with
  | zero =>
    intro i hi
    refine Evn.succ (Evn.congr (Evn.const _) fun k => ?_)
    simp only [spec_ProgHalves.l0]
    rw [if_neg (by omega), List.drop_eq_nil_of_le (by omega)]; rfl
  | succ n ih =>
    intro i hi
    have e1 : wrap64 ((i : Int) + 1) = ((i + 1 : Nat) : Int) := wrap_nat i 1 (by omega)
    have hx : rd_T29 L (i : Int) = L[i]'(by omega) := by
      rw [ins_nat]; unfold ins; rw [List.getD_eq_getElem?_getD, List.getElem?_eq_getElem (show i < L.length by omega)]; rfl
    rw [List.drop_eq_getElem_cons (show i < L.length by omega), List.any_cons]
    refine Evn.succ ?_
    have q1 : (i : Int) < (L.length : Int) := by omega
    have q2 : (0 : Int) ≤ (i : Int) := by omega
    simp only [spec_ProgHalves.l0, if_pos q1, if_pos q2, e1, hx]
    have hrd : rd (L[i]'(by omega)).f3 0 = (L[i]'(by omega)).f3.getD 0 0 := rfl
    simp only [hrd]
    generalize L[i]'(by omega) = x
    have next : halfB x = false → Evn (fun k => spec_ProgHalves.l0 k L (L.length : Int) ((i + 1 : Nat) : Int)) (halfB x || (L.drop (i + 1)).any halfB) := fun h => by
      rw [h, Bool.false_or]; exact ih (i + 1) (by omega)
    by_cases h0 : (x.f3.length : Int) > 0
    · have h0' : 0 < (x.f3.length : Int) := h0
      have d0 : decide (0 < x.f3.length) = true := decide_eq_true (by omega)
      simp only [if_pos h0, if_pos h0']
      by_cases h8 : x.f0 = 8
      · simp only [if_pos h8]
        by_cases h1 : x.f3.getD 0 0 ≥ 55296
        · simp only [if_pos h1]
          by_cases h2 : x.f3.getD 0 0 ≤ 57343
          · simp only [if_pos h2]
            have : halfB x = true := by unfold halfB; rw [d0, decide_eq_true h8, decide_eq_true h1, decide_eq_true h2]; rfl
            rw [this, Bool.true_or]; exact Evn.const _
          · simp only [if_neg h2]
            exact next (by unfold halfB; rw [decide_eq_false h2, Bool.and_false])
        · simp only [if_neg h1]
          exact next (by unfold halfB; rw [decide_eq_false h1, Bool.and_false, Bool.false_and])
      · simp only [if_neg h8]
        by_cases h7 : x.f0 = 7
        · simp only [if_pos h7]
          by_cases hl : (x.f3.length : Int) = 1
          · have dl : decide (x.f3.length = 1) = true := decide_eq_true (by omega)
            simp only [if_pos hl]
            by_cases h1 : x.f3.getD 0 0 ≥ 55296
            · simp only [if_pos h1]
              by_cases h2 : x.f3.getD 0 0 ≤ 57343
              · simp only [if_pos h2]
                have : halfB x = true := by unfold halfB; rw [d0, decide_eq_false h8, decide_eq_true h7, dl, decide_eq_true h1, decide_eq_true h2]; rfl
                rw [this, Bool.true_or]; exact Evn.const _
              · simp only [if_neg h2]
                exact next (by unfold halfB; rw [decide_eq_false h2, Bool.and_false])
            · simp only [if_neg h1]
              exact next (by unfold halfB; rw [decide_eq_false h1, Bool.and_false, Bool.false_and])
          · have dl : decide (x.f3.length = 1) = false := decide_eq_false (by omega)
            simp only [if_neg hl]
            exact next (by unfold halfB; rw [decide_eq_false h8, dl, Bool.and_false, Bool.or_false, Bool.and_false, Bool.false_and, Bool.false_and])
        · simp only [if_neg h7]
          exact next (by unfold halfB; rw [decide_eq_false h8, decide_eq_false h7, Bool.false_and, Bool.or_false, Bool.and_false, Bool.false_and, Bool.false_and])
    · simp only [if_neg h0]
      exact next (by unfold halfB; rw [decide_eq_false (show ¬ 0 < x.f3.length by omega), Bool.false_and, Bool.false_and, Bool.false_and])
theorem ev_halves (L : List I) (st nc : Int) (hL : L.length ≤ 2147483647) : Evn (fun k => spec_ProgHalves.f k L st nc) (L.any halfB) :=
  Evn.congr (g := fun k => spec_ProgHalves.l0 k L (L.length : Int) 0) (ev_halvesL L hL L.length 0 (by omega)) fun k => rfl
theorem noHalf_of {L : List I} {st nc most : Int} (h : PSound L st nc most) (hh : L.any halfB = false) : NoHalf L := by
  intro pc hp h8 hc
  have h1 := List.any_eq_false.1 hh (ins L pc) (ins_mem L pc hp)
  apply h1
  have hi := h.inst pc hp
  have ho := h.outIn pc hp (by omega)
  unfold instB at hi
  rw [if_neg (by omega), if_neg (fun e => e ho), if_neg (by omega), if_neg (by omega), if_neg (by omega), if_neg (by omega), if_neg (by omega), if_neg (by omega), if_pos h8] at hi
  simp only [Bool.and_eq_true, Bool.or_eq_true, decide_eq_true_eq] at hi
  unfold halfB
  rw [decide_eq_true (show 0 < (ins L pc).f3.length by omega), decide_eq_true h8, decide_eq_true hc.1, decide_eq_true hc.2]; rfl
end Go.Proofs.YteoljppcafakpaaDoor.PgFnPgOnePrefix
