/- The plain law of FnSyCanonical: the canonical name, over lists of numbers. -/
import Derived.Test.YtaogbmljadaplaaBytes
namespace Go.Proofs.Ytaogbmljadaplaa.Cn
open Go.RowKit My

def sp (c : Int) : Bool := c == 95 || c == 45 || c == 32
def up (c : Int) : Int := if 97 ≤ c ∧ c ≤ 122 then c - 32 else c
def low (c : Int) : Int := if 65 ≤ c ∧ c ≤ 90 then c + 32 else c
/-- One byte more. -/
def cstep (out : List Int) (c : Int) : List Int := if sp c then out else if out.isEmpty then out ++ [up c] else out ++ [low c]
def canon (l : List Int) : List Int := l.foldl cstep []
theorem canon_snoc (l : List Int) (c : Int) : canon (l ++ [c]) = cstep (canon l) c := by simp [canon]

def Good (out : List Int) : Prop := ∀ i (h : i < out.length), sp out[i] = false ∧ (i = 0 → up out[i] = out[i]) ∧ (0 < i → low out[i] = out[i])

theorem up_sp (c : Int) (h : sp c = false) : sp (up c) = false ∧ up (up c) = up c := by
  unfold sp at *; unfold up
  simp only [Bool.or_eq_false_iff, beq_eq_false_iff_ne] at *
  repeat' split
  all_goals omega
theorem low_sp (c : Int) (h : sp c = false) : sp (low c) = false ∧ low (low c) = low c := by
  unfold sp at *; unfold low
  simp only [Bool.or_eq_false_iff, beq_eq_false_iff_ne] at *
  repeat' split
  all_goals omega

theorem good_step (out : List Int) (c : Int) (h : Good out) : Good (cstep out c) := by
  unfold cstep
  cases hs : sp c
  · simp only [Bool.false_eq_true, if_false]
    cases out with
    | nil =>
      simp only [List.isEmpty_nil, if_true, List.nil_append]
      intro i hi
      have : i = 0 := by simp at hi; omega
      subst this
      exact ⟨(up_sp c hs).1, fun _ => (up_sp c hs).2, fun h => absurd h (by omega)⟩
    | cons d out =>
      simp only [List.isEmpty_cons, Bool.false_eq_true, if_false]
      intro i hi
      by_cases e : i < (d :: out).length
      · rw [List.getElem_append_left e]; exact h i e
      · have e' : i = (d :: out).length := by simp at hi e ⊢; omega
        subst e'
        rw [List.getElem_append_right (Nat.le_refl _)]
        simp only [Nat.sub_self, List.getElem_cons_zero]
        exact ⟨(low_sp c hs).1, fun h0 => absurd h0 (by simp), fun _ => (low_sp c hs).2⟩
  · simp only [if_true]; exact h

theorem snoc_ind {p : List Int → Prop} (h0 : p []) (h1 : ∀ l c, p l → p (l ++ [c])) (l : List Int) : p l := by
  have : ∀ n (l : List Int), l.length = n → p l := by
    intro n
    induction n with
    | zero => intro l h; rw [List.eq_nil_of_length_eq_zero h]; exact h0
    | succ n ih =>
      intro l h
      have hne : l ≠ [] := by intro e; subst e; simp at h
      rw [← List.dropLast_concat_getLast hne]
      exact h1 _ _ (ih _ (by simp; omega))
  exact this _ l rfl

theorem canon_good (l : List Int) : Good (canon l) := by
  refine snoc_ind (p := fun l => Good (canon l)) ?_ ?_ l
  · intro i hi; simp [canon] at hi
  · intro l c ih; rw [canon_snoc]; exact good_step _ _ ih

theorem canon_fix (l : List Int) : Good l → canon l = l := by
  refine snoc_ind (p := fun l => Good l → canon l = l) (fun _ => rfl) ?_ l
  intro l c ih h
  rw [canon_snoc, ih (fun i hi => by
    have := h i (by simp; omega)
    rwa [List.getElem_append_left hi] at this)]
  have hc := h l.length (by simp)
  rw [List.getElem_append_right (Nat.le_refl _)] at hc
  simp only [Nat.sub_self, List.getElem_cons_zero] at hc
  unfold cstep
  rw [hc.1]
  simp only [Bool.false_eq_true, if_false]
  cases l with
  | nil => simp [hc.2.1 rfl]
  | cons d l => simp [hc.2.2 (by simp)]

theorem canon_canon (l : List Int) : canon (canon l) = canon l := canon_fix _ (canon_good l)

theorem step_range (out : List Int) (c : Int) (hc : 0 ≤ c ∧ c ≤ 255) (h : ∀ x ∈ out, 0 ≤ x ∧ x ≤ 255) : ∀ x ∈ cstep out c, 0 ≤ x ∧ x ≤ 255 := by
  unfold cstep
  have hu : 0 ≤ up c ∧ up c ≤ 255 := by unfold up; split <;> omega
  have hl : 0 ≤ low c ∧ low c ≤ 255 := by unfold low; split <;> omega
  intro x hx
  split at hx
  · exact h x hx
  · split at hx <;> (rw [List.mem_append] at hx; rcases hx with hx | hx; exact h x hx; simp at hx; subst hx; assumption)

theorem canon_range (l : List Int) : (∀ x ∈ l, 0 ≤ x ∧ x ≤ 255) → ∀ x ∈ canon l, 0 ≤ x ∧ x ≤ 255 := by
  refine snoc_ind (p := fun l => (∀ x ∈ l, 0 ≤ x ∧ x ≤ 255) → ∀ x ∈ canon l, 0 ≤ x ∧ x ≤ 255) (fun _ x hx => by simp [canon] at hx) ?_ l
  intro l c ih h
  rw [canon_snoc]
  exact step_range _ _ (h c (by simp)) (ih fun x hx => h x (by simp [hx]))

theorem canon_length (l : List Int) : (canon l).length ≤ l.length := by
  refine snoc_ind (p := fun l => (canon l).length ≤ l.length) (Nat.le_refl _) ?_ l
  intro l c ih
  rw [canon_snoc]
  unfold cstep
  split
  · simp; omega
  · split <;> simp <;> omega

end Go.Proofs.Ytaogbmljadaplaa.Cn
