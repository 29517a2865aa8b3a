/- Ranges of characters as pairs: what SyRange, SyIn, syPairs compute, what appendRange leaves. No walk. -/
import Derived.Test.YtkcnodkojllobaaDoorEv
import Derived.Test.YtkcnodkojllobaaDoorPimFnSyFolded
import Derived.IntWalk
namespace Go.Proofs.YtkcnodkojllobaaDoor.Fld
open Go Go.RowKit Go.Proofs.YtkcnodkojllobaaDoor.EvN Go.Proofs.YtkcnodkojllobaaDoor.PFnSyFolded Go.Proofs.YtkcnodkojllobaaDoorW.PrintWords Go.Proofs.YtkcnodkojllobaaDoorW.PrintLast Go.Proofs.YtkcnodkojllobaaDoorW.PrintMore
set_option linter.unusedVariables false
set_option linter.unusedSimpArgs false

theorem w32 (n : Int) (h : -2147483648 ≤ n ∧ n ≤ 2147483647) : wrap32 n = n := by unfold wrap32; omega
def flat : List (Int × Int) → List Int
  | [] => []
  | p :: P => p.1 :: p.2 :: flat P
theorem flat_len : ∀ P : List (Int × Int), (flat P).length = 2 * P.length
  | [] => rfl
  | p :: P => by rw [flat, List.length_cons, List.length_cons, flat_len P, List.length_cons]; omega
theorem flat_append : ∀ P Q : List (Int × Int), flat (P ++ Q) = flat P ++ flat Q
  | [], Q => rfl
  | p :: P, Q => by rw [List.cons_append, flat, flat, flat_append P Q]; rfl
theorem flat_get : ∀ (P : List (Int × Int)) (i : Nat) (h : i < P.length), (flat P)[2 * i]? = some P[i].1 ∧ (flat P)[2 * i + 1]? = some P[i].2
  | p :: P, 0, h => ⟨rfl, rfl⟩
  | p :: P, i + 1, h => by
    have := flat_get P i (by simpa using h)
    rw [show 2 * (i + 1) = 2 * i + 1 + 1 by omega, flat]
    simpa using this
theorem flat_set : ∀ (P : List (Int × Int)) (i : Nat) (q : Int × Int), flat (P.set i q) = ((flat P).set (2 * i) q.1).set (2 * i + 1) q.2
  | [], i, q => by simp [flat]
  | p :: P, 0, q => rfl
  | p :: P, i + 1, q => by
    rw [List.set_cons_succ, flat, flat, flat_set P i q, show 2 * (i + 1) = 2 * i + 1 + 1 by omega]
    rfl
theorem unflat : ∀ (n : Nat) (l : List Int), l.length = 2 * n → ∃ P, l = flat P ∧ P.length = n
  | 0, l, h => ⟨[], by have : l = [] := List.length_eq_zero_iff.1 (by omega); rw [this]; rfl, rfl⟩
  | n + 1, [], h => by simp at h
  | n + 1, [x], h => by simp at h; omega
  | n + 1, x :: y :: l, h => by
    obtain ⟨P, e, hP⟩ := unflat n l (by simp at h; omega)
    exact ⟨(x, y) :: P, by rw [flat, e], by simp [hP]⟩
def inB (P : List (Int × Int)) (c : Int) : Bool := P.any fun p => decide (p.1 ≤ c) && decide (c ≤ p.2)
def okP (p : Int × Int) : Prop := 0 ≤ p.1 ∧ p.1 ≤ p.2 ∧ p.2 ≤ 1114111
theorem rd_get {l : List Int} {i : Nat} {v : Int} (h : l[i]? = some v) : rd l (i : Int) = v := by
  obtain ⟨h1, h2⟩ := List.getElem?_eq_some_iff.1 h
  rw [rd_nat l i h1, h2]
theorem inB_append (P Q : List (Int × Int)) (c : Int) : inB (P ++ Q) c = (inB P c || inB Q c) := by unfold inB; rw [List.any_append]

theorem syIn_l0 (P : List (Int × Int)) (c : Int) (hl : P.length ≤ 1000000000) : ∀ (n j k : Nat), P.length = j + n → n < k → spec_syIn.l0 k (flat P) c ((2 * j : Nat) : Int) = some (inB (P.drop j) c) := by
  intro n
  induction n with
  | zero =>
    intro j k hj hk
    obtain ⟨k, rfl⟩ : ∃ k', k = k' + 1 := ⟨k - 1, by omega⟩
    have w1 : wrap64 (((2 * j : Nat) : Int) + 1) = ((2 * j + 1 : Nat) : Int) := wrap_nat (2 * j) 1 (by omega)
    rw [spec_syIn.l0, w1, if_neg (by rw [flat_len]; omega), List.drop_of_length_le (by omega)]
    rfl
  | succ n ih =>
    intro j k hj hk
    obtain ⟨k, rfl⟩ : ∃ k', k = k' + 1 := ⟨k - 1, by omega⟩
    have w1 : wrap64 (((2 * j : Nat) : Int) + 1) = ((2 * j + 1 : Nat) : Int) := wrap_nat (2 * j) 1 (by omega)
    have w2 : wrap64 (((2 * j : Nat) : Int) + 2) = ((2 * (j + 1) : Nat) : Int) := wrap_nat (2 * j) 2 (by omega)
    have hlt : j < P.length := by omega
    obtain ⟨g1, g2⟩ := flat_get P j hlt
    rw [spec_syIn.l0, w1, w2, rd_get g1, rd_get g2, if_pos (by rw [flat_len]; omega), if_pos (by omega), if_pos (by rw [flat_len]; omega), if_pos (show (0 : Int) ≤ ((2 * j + 1 : Nat) : Int) by omega), ih (j + 1) k (by omega) (by omega)]
    rw [List.drop_eq_getElem_cons hlt]
    unfold inB
    rw [List.any_cons]
    by_cases h1 : P[j].1 ≤ c
    · rw [if_pos h1]
      by_cases h2 : c ≤ P[j].2
      · rw [if_pos h2, decide_eq_true h1, decide_eq_true h2]; rfl
      · rw [if_neg h2, decide_eq_true h1, decide_eq_false h2]; rfl
    · rw [if_neg h1, decide_eq_false h1]; rfl
theorem syIn_f (P : List (Int × Int)) (c : Int) (hl : P.length ≤ 1000000000) : spec_SyIn.f (P.length + 1) (flat P) c = some (inB P c) := by
  unfold spec_SyIn.f spec_syIn.f
  have := syIn_l0 P c hl P.length 0 (P.length + 1) (by omega) (by omega)
  rw [show ((2 * 0 : Nat) : Int) = 0 from rfl, List.drop_zero] at this
  rw [this]
  rfl

/-- Canonical: ascending, apart. -/
def canF : Option Int → List (Int × Int) → Bool
  | _, [] => true
  | last, p :: P => decide (0 ≤ p.1) && decide (p.1 ≤ p.2) && decide (p.2 ≤ 1114111) && (match last with | none => true | some h => decide (h + 1 < p.1)) && canF (some p.2) P
theorem canF_cons (last : Option Int) (p : Int × Int) (P : List (Int × Int)) : canF last (p :: P) = (decide (0 ≤ p.1) && decide (p.1 ≤ p.2) && decide (p.2 ≤ 1114111) && (match last with | none => true | some h => decide (h + 1 < p.1)) && canF (some p.2) P) := by cases last <;> rfl
theorem range_l0 (P : List (Int × Int)) (hl : P.length ≤ 1000000000) (hv : ∀ p ∈ P, -2000000000 ≤ p.2 ∧ p.2 ≤ 2000000000) : ∀ (n j k : Nat), P.length = j + n → n < k → spec_SyRange.l0 k (flat P) ((2 * j : Nat) : Int) = some (canF (if j = 0 then none else (P[j - 1]?).map Prod.snd) (P.drop j)) := by
  intro n
  induction n with
  | zero =>
    intro j k hj hk
    obtain ⟨k, rfl⟩ : ∃ k', k = k' + 1 := ⟨k - 1, by omega⟩
    rw [spec_SyRange.l0, if_neg (by rw [flat_len]; omega), List.drop_of_length_le (by omega)]
    rfl
  | succ n ih =>
    intro j k hj hk
    obtain ⟨k, rfl⟩ : ∃ k', k = k' + 1 := ⟨k - 1, by omega⟩
    have w1 : wrap64 (((2 * j : Nat) : Int) + 1) = ((2 * j + 1 : Nat) : Int) := wrap_nat (2 * j) 1 (by omega)
    have w2 : wrap64 (((2 * j : Nat) : Int) + 2) = ((2 * (j + 1) : Nat) : Int) := wrap_nat (2 * j) 2 (by omega)
    have hlt : j < P.length := by omega
    obtain ⟨g1, g2⟩ := flat_get P j hlt
    rw [spec_SyRange.l0, w1, w2, rd_get g1, rd_get g2, if_pos (by rw [flat_len]; omega), if_pos (by omega), ih (j + 1) k (by omega) (by omega)]
    rw [if_neg (show ¬ j + 1 = 0 by omega), Nat.add_sub_cancel, List.getElem?_eq_getElem hlt, List.drop_eq_getElem_cons hlt, canF_cons]
    by_cases h1 : P[j].1 < 0
    · rw [if_pos h1, decide_eq_false (show ¬ 0 ≤ P[j].1 by omega)]; rfl
    · rw [if_neg h1, decide_eq_true (show 0 ≤ P[j].1 by omega), if_pos (show (0 : Int) ≤ ((2 * j + 1 : Nat) : Int) by omega), if_pos (by rw [flat_len]; omega)]
      by_cases h2 : P[j].1 > P[j].2
      · rw [if_pos h2, decide_eq_false (show ¬ P[j].1 ≤ P[j].2 by omega)]; rfl
      · rw [if_neg h2, decide_eq_true (show P[j].1 ≤ P[j].2 by omega)]
        by_cases h3 : P[j].2 > 1114111
        · rw [if_pos h3, decide_eq_false (show ¬ P[j].2 ≤ 1114111 by omega)]; rfl
        · rw [if_neg h3, decide_eq_true (show P[j].2 ≤ 1114111 by omega)]
          by_cases hj0 : j = 0
          · subst hj0
            rw [if_neg (by omega), if_pos rfl]
            rfl
          · have w3 : wrap64 (((2 * j : Nat) : Int) - 1) = ((2 * (j - 1) + 1 : Nat) : Int) := by unfold wrap64; omega
            have hlt2 : j - 1 < P.length := by omega
            obtain ⟨g3, g4⟩ := flat_get P (j - 1) hlt2
            have hb := hv P[j - 1] (List.getElem_mem _)
            rw [if_pos (by omega), w3, if_pos (by omega), if_pos (by rw [flat_len]; omega), rd_get g4, w32 _ (by omega), if_neg hj0, List.getElem?_eq_getElem hlt2]
            by_cases h4 : P[j].1 ≤ P[j - 1].2 + 1
            · rw [if_pos h4]
              simp only [Option.map_some, Bool.true_and]
              rw [decide_eq_false (show ¬ P[j - 1].2 + 1 < P[j].1 by omega)]; rfl
            · rw [if_neg h4]
              simp only [Option.map_some, Bool.true_and]
              rw [decide_eq_true (show P[j - 1].2 + 1 < P[j].1 by omega)]; rfl
theorem range_f (P : List (Int × Int)) (hl : P.length ≤ 1000000000) (hv : ∀ p ∈ P, -2000000000 ≤ p.2 ∧ p.2 ≤ 2000000000) : spec_SyRange.f (P.length + 1) (flat P) = some (canF none P) := by
  unfold spec_SyRange.f
  rw [if_pos (by rw [flat_len]; omega)]
  have := range_l0 P hl hv P.length 0 (P.length + 1) (by omega) (by omega)
  rwa [show ((2 * 0 : Nat) : Int) = 0 from rfl, List.drop_zero] at this
theorem canF_ok : ∀ (P : List (Int × Int)) (last : Option Int), canF last P = true → ∀ p ∈ P, okP p
  | [], _, _, p, hp => by cases hp
  | q :: P, last, h, p, hp => by
    simp only [canF, Bool.and_eq_true, decide_eq_true_eq] at h
    rcases List.mem_cons.1 hp with rfl | hp
    · exact ⟨h.1.1.1.1, h.1.1.1.2, h.1.1.2⟩
    · exact canF_ok P _ h.2 p hp
/-- All in bounds. -/
def allB (l : List Int) : Bool := l.all fun x => decide (0 ≤ x) && decide (x ≤ 1114111)
theorem pairs_l0 (l : List Int) (hl : l.length ≤ 4611686018427387000) : ∀ (n j k : Nat), l.length = j + n → n < k → laws_syPairs.l0 k l l (l.length : Int) (j : Int) = some (allB (l.drop j) && decide ((l.length : Int) ≤ 200)) := by
  intro n
  induction n with
  | zero =>
    intro j k hj hk
    obtain ⟨k, rfl⟩ : ∃ k', k = k' + 1 := ⟨k - 1, by omega⟩
    rw [laws_syPairs.l0, if_neg (by omega), List.drop_of_length_le (by omega)]
    rfl
  | succ n ih =>
    intro j k hj hk
    obtain ⟨k, rfl⟩ : ∃ k', k = k' + 1 := ⟨k - 1, by omega⟩
    have w1 : wrap64 ((j : Int) + 1) = ((j + 1 : Nat) : Int) := wrap_nat j 1 (by omega)
    have hlt : j < l.length := by omega
    rw [laws_syPairs.l0, w1, rd_nat l j hlt, if_pos (by omega), if_pos (by omega), if_pos (by omega), ih (j + 1) k (by omega) (by omega), List.drop_eq_getElem_cons hlt]
    unfold allB
    rw [List.all_cons]
    by_cases h1 : l[j] < 0
    · rw [if_pos h1, decide_eq_false (show ¬ 0 ≤ l[j] by omega)]; rfl
    · rw [if_neg h1, decide_eq_true (show 0 ≤ l[j] by omega)]
      by_cases h2 : l[j] > 1114111
      · rw [if_pos h2, decide_eq_false (show ¬ l[j] ≤ 1114111 by omega)]; rfl
      · rw [if_neg h2, decide_eq_true (show l[j] ≤ 1114111 by omega)]
        simp
theorem pairs_f (l : List Int) (hl : l.length ≤ 4611686018427387000) : laws_syPairs.f (l.length + 1) l = some (allB l && decide ((l.length : Int) ≤ 200)) := by
  have := pairs_l0 l hl l.length 0 (l.length + 1) (by omega) (by omega)
  rwa [List.drop_zero] at this

/-- The new range touches a pair; both as one. -/
def tou (p : Int × Int) (lo hi : Int) : Bool := decide (lo ≤ p.2 + 1) && decide (p.1 ≤ hi + 1)
def mrg (p : Int × Int) (lo hi : Int) : Int × Int := (if lo < p.1 then lo else p.1, if hi > p.2 then hi else p.2)
/-- What a range added leaves. -/
def Added (P : List (Int × Int)) (lo hi : Int) (Q : List (Int × Int)) : Prop := (∀ c, inB Q c = (inB P c || (decide (lo ≤ c) && decide (c ≤ hi)))) ∧ (∀ p ∈ Q, okP p) ∧ Q.length ≤ P.length + 1 ∧ Q ≠ []
theorem added_new (P : List (Int × Int)) (hP : ∀ p ∈ P, okP p) (lo hi : Int) (hr : okP (lo, hi)) : Added P lo hi (P ++ [(lo, hi)]) :=
  ⟨fun c => by rw [inB_append]; unfold inB; simp, fun p hp => by rcases List.mem_append.1 hp with h | h; exact hP p h; rw [List.mem_singleton.1 h]; exact hr, by simp, by simp⟩
theorem added_set (P : List (Int × Int)) (hP : ∀ p ∈ P, okP p) (lo hi : Int) (hr : okP (lo, hi)) (q : Nat) (hq : q < P.length) (ht : tou P[q] lo hi = true) : Added P lo hi (P.set q (mrg P[q] lo hi)) := by
  have hp := hP P[q] (List.getElem_mem _)
  unfold tou at ht
  simp only [Bool.and_eq_true, decide_eq_true_eq] at ht
  have hm : okP (mrg P[q] lo hi) := by
    unfold okP mrg at *
    simp only at *
    refine ⟨?_, ?_, ?_⟩ <;> (repeat' split) <;> omega
  have hmem : ∀ c : Int, (decide ((mrg P[q] lo hi).1 ≤ c) && decide (c ≤ (mrg P[q] lo hi).2)) = ((decide (P[q].1 ≤ c) && decide (c ≤ P[q].2)) || (decide (lo ≤ c) && decide (c ≤ hi))) := fun c => by
    rw [Bool.eq_iff_iff]
    simp only [Bool.and_eq_true, Bool.or_eq_true, decide_eq_true_eq]
    unfold okP at *
    unfold mrg
    simp only at *
    split <;> split <;> omega
  refine ⟨fun c => ?_, fun p hp2 => ?_, by simp, fun e => ?_⟩
  · have e1 : P = P.take q ++ P[q] :: P.drop (q + 1) := by rw [← List.drop_eq_getElem_cons hq, List.take_append_drop]
    have e2 : P.set q (mrg P[q] lo hi) = P.take q ++ mrg P[q] lo hi :: P.drop (q + 1) := List.set_eq_take_append_cons_drop .. |>.trans (by rw [if_pos hq])
    rw [e2]
    conv => rhs; rw [e1]
    rw [inB_append, inB_append]
    unfold inB
    rw [List.any_cons, List.any_cons, hmem c]
    cases (P.take q).any fun p => decide (p.1 ≤ c) && decide (c ≤ p.2) <;> cases (P.drop (q + 1)).any fun p => decide (p.1 ≤ c) && decide (c ≤ p.2) <;> cases (decide (P[q].1 ≤ c) && decide (c ≤ P[q].2)) <;> cases (decide (lo ≤ c) && decide (c ≤ hi)) <;> rfl
  · rcases List.mem_or_eq_of_mem_set hp2 with h | h
    · exact hP p h
    · rw [h]; exact hm
  · have := congrArg List.length e
    simp at this
    rw [this] at hq
    simp at hq
end Go.Proofs.YtkcnodkojllobaaDoor.Fld
