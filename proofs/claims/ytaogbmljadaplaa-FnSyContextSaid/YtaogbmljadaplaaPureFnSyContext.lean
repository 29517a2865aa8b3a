/- Proved here: for every two characters the law FnSyContext, printed as a plain function, answers true. Conditions: none but that the two are numbers of kind int32. -/
import Derived.Test.YtaogbmljadaplaaPFnSyContextx2
namespace Go.Proofs.Ytaogbmljadaplaa.Pure
open Go.RowKit Go.Proofs.Ytaogbmljadaplaa.PFnSyContext Go.Proofs.YtaogbmljadaplaaW.PrintWords Go.Proofs.YtaogbmljadaplaaW.PrintLast

def wd (a : Int) : Bool := decide (97 ≤ a ∧ a ≤ 122 ∨ 65 ≤ a ∧ a ≤ 90 ∨ 48 ≤ a ∧ a ≤ 57 ∨ a = 95)

theorem word_f (a : Int) : regexpsyntax_IsWordChar.f a = some (wd a) := by
  unfold regexpsyntax_IsWordChar.f wd
  repeat' split
  all_goals first
    | (congr 1; symm; rw [decide_eq_true_iff]; omega)
    | (congr 1; rw [Bool.eq_iff_iff]; simp; omega)

theorem reword_f (a : Int) : spec_reWord.f a = some (wd a) := word_f a

theorem kinds (a : Int) (h : -1 ≤ a) :
    (wd a = true ∧ (a == 10) = false ∧ ¬ a = 10 ∧ ¬ a < 0 ∧ ¬ a = -1) ∨ (wd a = false ∧ a = 10) ∨ (wd a = false ∧ a = -1) ∨
      (wd a = false ∧ (a == 10) = false ∧ ¬ a = 10 ∧ ¬ a < 0 ∧ ¬ a = -1) := by
  by_cases hw : wd a = true
  · left
    refine ⟨hw, ?_⟩
    unfold wd at hw
    rw [decide_eq_true_iff] at hw
    refine ⟨by simp; omega, by omega, by omega, by omega⟩
  · have hf : wd a = false := by simpa using hw
    by_cases h10 : a = 10
    · exact Or.inr (Or.inl ⟨hf, h10⟩)
    · by_cases h1 : a = -1
      · exact Or.inr (Or.inr (Or.inl ⟨hf, h1⟩))
      · exact Or.inr (Or.inr (Or.inr ⟨hf, by simpa using h10, h10, by omega, h1⟩))

theorem both (a0 a1 : Int) (h0 : -1 ≤ a0) (h1 : -1 ≤ a1) : ∃ n, impl_SyContext.f 10 a0 a1 = some n ∧ spec_CondBetween.f 10 a0 a1 = some n := by
  unfold impl_SyContext.f regexpsyntax_EmptyOpContext.f spec_CondBetween.f
  simp only [regexpsyntax_EmptyOpContext.j0, spec_CondBetween.j0, spec_CondBetween.j1, spec_CondBetween.j2, spec_CondBetween.j3, spec_CondBetween.j4, spec_CondBetween.j5, reword_f, word_f, Option.bind_some]
  rcases kinds a0 h0 with ⟨w0, p0, q0, r0, s0⟩ | ⟨w0, rfl⟩ | ⟨w0, rfl⟩ | ⟨w0, p0, q0, r0, s0⟩ <;>
  rcases kinds a1 h1 with ⟨w1, p1, q1, r1, s1⟩ | ⟨w1, rfl⟩ | ⟨w1, rfl⟩ | ⟨w1, p1, q1, r1, s1⟩ <;>
  simp only [*, if_true, if_false, Bool.false_eq_true] <;>
  exact ⟨_, rfl, by decide +kernel⟩

theorem FnSyContext : laws_FnSyContext.Pure := by
  intro a0 a1 _ _
  refine ⟨11, ?_⟩
  have key : ¬ a0 < -1 → ¬ a1 < -1 → laws_FnSyContext.j0 11 a0 a1 false = some true := by
    intro h0 h1
    obtain ⟨n, e1, e2⟩ := both a0 a1 (by omega) (by omega)
    show (if false = true then some true else ((impl_SyContext.f 10 a0 a1).bind fun t107 => ((spec_CondBetween.f 10 a0 a1).bind fun t108 => (if t107 = t108 then ((impl_SyWord.f 97).bind fun t109 => (some t109)) else (some false))))) = some true
    rw [if_neg (by simp), e1, e2]
    simp only [Option.bind_some, if_true]
    rfl
  have out : laws_FnSyContext.j0 11 a0 a1 true = some true := rfl
  unfold laws_FnSyContext.f
  split
  · exact out
  · split
    · exact out
    · split
      · exact out
      · by_cases h : a1 > 1114111
        · rw [decide_eq_true h]; exact out
        · rw [decide_eq_false h]; exact key ‹_› ‹_›

end Go.Proofs.Ytaogbmljadaplaa.Pure
