import Derived.Test.YtmccgfjhmbioeaaDoorEv
import Derived.Test.YtmccgfjhmbioeaaDoorPimFnPgThreads
namespace Go.Proofs.YtmccgfjhmbioeaaDoor.PgFnPgThreads
open Go.RowKit Go.Proofs.YtmccgfjhmbioeaaDoor.EvN Go.Proofs.YtmccgfjhmbioeaaDoor.PFnPgThreads Go.Proofs.YtmccgfjhmbioeaaDoorW.PrintWords Go.Proofs.YtmccgfjhmbioeaaDoorW.PrintLast Go.Proofs.YtmccgfjhmbioeaaDoorW.PrintMore
abbrev I := S52
def ins (L : List I) (pc : Nat) : I := L.getD pc z52
theorem ins_nat (L : List I) (x : Nat) : rd_T52 L (x : Int) = ins L x := rfl
theorem ins_mem (L : List I) (pc : Nat) (h : pc < L.length) : ins L pc ∈ L := by
  unfold ins
  rw [List.getD_eq_getElem?_getD, List.getElem?_eq_getElem h]; exact List.getElem_mem h
def clsF : Int → List Int → Bool
  | last, a :: b :: r => if a ≤ last then false else if a > b then false else if b > 1114111 then false else clsF b r
  | _, _ => true
def cls (l : List Int) : Bool := if (l.length : Int) % 2 = 0 then clsF (-1) l else false
theorem drop2 (l : List Int) (i : Nat) (h : i + 1 < l.length) : l.drop i = l[i] :: l[i + 1] :: l.drop (i + 2) := by
  rw [List.drop_eq_getElem_cons (by omega), List.drop_eq_getElem_cons (by omega)]
theorem ev_clsF (l : List Int) (hl : l.length ≤ 4611686018427387000) (he : l.length % 2 = 0) : ∀ (n i : Nat) (last : Int), l.length = i + 2 * n → Evn (fun k => spec_reClass.l0 k l last (i : Int)) (clsF last (l.drop i)) := by
  intro n
  induction n with
  | zero =>
    intro i last hi
    refine Evn.succ (Evn.congr (Evn.const _) fun k => ?_)
    simp only [spec_reClass.l0]
    rw [if_neg (by omega), List.drop_eq_nil_of_le (by omega)]; rfl
  | succ n ih =>
    intro i last hi
    have e1 : wrap64 ((i : Int) + 1) = ((i + 1 : Nat) : Int) := wrap_nat i 1 (by omega)
    have e2 : wrap64 ((i : Int) + 2) = ((i + 2 : Nat) : Int) := wrap_nat i 2 (by omega)
    rw [drop2 l i (by omega)]
    simp only [clsF]
    refine Evn.succ ?_
    simp only [spec_reClass.l0, e1, e2, rd_nat l i (by omega), rd_nat l (i + 1) (by omega)]
    have q1 : (i : Int) < (l.length : Int) := by omega
    have q2 : (0 : Int) ≤ (i : Int) := by omega
    have q3 : (0 : Int) ≤ ((i + 1 : Nat) : Int) := by omega
    have q4 : ((i + 1 : Nat) : Int) < (l.length : Int) := by omega
    simp only [if_pos q1, if_pos q2, if_pos q3, if_pos q4]
    by_cases h1 : l[i] ≤ last
    · simp only [if_pos h1]; exact Evn.const _
    · by_cases h2 : l[i] > l[i + 1]
      · simp only [if_neg h1, if_pos h2]; exact Evn.const _
      · by_cases h3 : l[i + 1] > 1114111
        · simp only [if_neg h1, if_neg h2, if_pos h3]; exact Evn.const _
        · simp only [if_neg h1, if_neg h2, if_neg h3]
          exact ih (i + 2) _ (by omega)
theorem ev_cls (l : List Int) (hl : l.length ≤ 4611686018427387000) : Evn (fun k => spec_reClass.f k l) (cls l) := by
  unfold cls
  by_cases h : (l.length : Int) % 2 = 0
  · have := ev_clsF l hl (by omega) (l.length / 2) 0 (-1) (by omega)
    refine Evn.congr (g := fun k => spec_reClass.l0 k l (-1) 0) ?_ fun k => by simp only [spec_reClass.f]; rw [if_pos h]
    rw [if_pos h]
    exact this
  · refine Evn.congr (Evn.const _) fun k => ?_
    simp only [spec_reClass.f]
    rw [if_neg h, if_neg h]
theorem ev_pairsF (l : List Int) (hl : l.length ≤ 4611686018427387000) (he : l.length % 2 = 0) : ∀ (n i : Nat) (last : Int), l.length = i + 2 * n → clsF last (l.drop i) = true → Evn (fun k => impl_pairs.l0 k l last (i : Int)) true := by
  intro n
  induction n with
  | zero =>
    intro i last hi _
    refine Evn.succ (Evn.congr (Evn.const _) fun k => ?_)
    simp only [impl_pairs.l0]
    rw [if_neg (by omega)]
  | succ n ih =>
    intro i last hi hc
    have e1 : wrap64 ((i : Int) + 1) = ((i + 1 : Nat) : Int) := wrap_nat i 1 (by omega)
    have e2 : wrap64 ((i : Int) + 2) = ((i + 2 : Nat) : Int) := wrap_nat i 2 (by omega)
    rw [drop2 l i (by omega)] at hc
    simp only [clsF] at hc
    refine Evn.succ ?_
    simp only [impl_pairs.l0, e1, e2, rd_nat l i (by omega), rd_nat l (i + 1) (by omega)]
    by_cases h1 : l[i] ≤ last
    · rw [if_pos h1] at hc; cases hc
    · by_cases h2 : l[i] > l[i + 1]
      · rw [if_neg h1, if_pos h2] at hc; cases hc
      · by_cases h3 : l[i + 1] > 1114111
        · rw [if_neg h1, if_neg h2, if_pos h3] at hc; cases hc
        · rw [if_neg h1, if_neg h2, if_neg h3] at hc
          have q1 : (i : Int) < (l.length : Int) := by omega
          have q2 : (0 : Int) ≤ (i : Int) := by omega
          have q3 : (0 : Int) ≤ ((i + 1 : Nat) : Int) := by omega
          have q4 : ((i + 1 : Nat) : Int) < (l.length : Int) := by omega
          have q5 : ¬ ((i + 1 : Nat) : Int) = (l.length : Int) := by omega
          have q6 : ¬ l[i + 1] < l[i] := by omega
          simp only [if_pos q1, if_neg q5, if_pos q2, if_neg h1, if_pos q3, if_pos q4, if_neg q6, if_neg h3]
          exact ih (i + 2) _ (by omega) hc
theorem ev_pairs (l : List Int) (hl : l.length ≤ 4611686018427387000) (h : cls l = true) : Evn (fun k => impl_pairs.f k l) true := by
  unfold cls at h
  by_cases he : (l.length : Int) % 2 = 0
  · rw [if_pos he] at h
    exact ev_pairsF l hl (by omega) (l.length / 2) 0 (-1) (by omega) h
  · rw [if_neg he] at h; cases h
theorem ev_sameL (a b : List Int) (hl : a.length ≤ 4611686018427387000) (hab : a.length = b.length) : ∀ (n i : Nat), a.length = i + n →
    Evn (fun k => spec_progSame.l0 k a b (a.length : Int) (i : Int)) (decide (a.drop i = b.drop i)) := by
  intro n
  induction n with
  | zero =>
    intro i hi
    refine Evn.succ (Evn.congr (Evn.const _) fun k => ?_)
    simp only [spec_progSame.l0]
    rw [if_neg (by omega), List.drop_eq_nil_of_le (by omega), List.drop_eq_nil_of_le (by omega)]; simp
  | succ n ih =>
    intro i hi
    have e1 : wrap64 ((i : Int) + 1) = ((i + 1 : Nat) : Int) := wrap_nat i 1 (by omega)
    rw [List.drop_eq_getElem_cons (show i < a.length by omega), List.drop_eq_getElem_cons (show i < b.length by omega)]
    refine Evn.succ ?_
    simp only [spec_progSame.l0, e1, rd_nat a i (by omega), rd_nat b i (by omega)]
    have q1 : (i : Int) < (a.length : Int) := by omega
    have q2 : (0 : Int) ≤ (i : Int) := by omega
    have q3 : (i : Int) < (b.length : Int) := by omega
    simp only [if_pos q1, if_pos q2, if_pos q3]
    by_cases h1 : a[i]'(by omega) = b[i]'(by omega)
    · simp only [if_pos h1]
      have e : decide (a[i]'(by omega) :: a.drop (i + 1) = b[i]'(by omega) :: b.drop (i + 1)) = decide (a.drop (i + 1) = b.drop (i + 1)) := by simp only [h1, List.cons.injEq, true_and]
      rw [e]
      exact ih (i + 1) (by omega)
    · simp only [if_neg h1]
      have e : decide (a[i]'(by omega) :: a.drop (i + 1) = b[i]'(by omega) :: b.drop (i + 1)) = false := by simp only [h1, List.cons.injEq, false_and, decide_false]
      rw [e]; exact Evn.const _
theorem ev_same (a b : List Int) (hl : a.length ≤ 4611686018427387000) : Evn (fun k => spec_progSame.f k a b) (decide (a = b)) := by
  by_cases h : (a.length : Int) = (b.length : Int)
  · have := ev_sameL a b hl (by omega) a.length 0 (by omega)
    refine Evn.congr (g := fun k => spec_progSame.l0 k a b (a.length : Int) 0) this fun k => by simp only [spec_progSame.f]; rw [if_pos h]
  · have : decide (a = b) = false := by simp; intro e; exact h (by rw [e])
    rw [this]
    refine Evn.congr (Evn.const _) fun k => ?_
    simp only [spec_progSame.f]; rw [if_neg h]
def okR (c : Int) : Bool := decide (0 ≤ c) && decide (c ≤ 1114111)
theorem ev_chars (l : List Int) (hl : l.length ≤ 4611686018427387000) : ∀ (n i : Nat), l.length = i + n → (l.drop i).all okR = true → Evn (fun k => impl_characters.l0 k l (l.length : Int) (i : Int)) true := by
  intro n
  induction n with
  | zero =>
    intro i hi _
    refine Evn.succ (Evn.congr (Evn.const _) fun k => ?_)
    simp only [impl_characters.l0]
    rw [if_neg (by omega)]
  | succ n ih =>
    intro i hi ha
    have e1 : wrap64 ((i : Int) + 1) = ((i + 1 : Nat) : Int) := wrap_nat i 1 (by omega)
    rw [List.drop_eq_getElem_cons (show i < l.length by omega), List.all_cons, Bool.and_eq_true] at ha
    have hb : 0 ≤ l[i] ∧ l[i] ≤ 1114111 := by have := ha.1; unfold okR at this; simpa using this
    refine Evn.succ ?_
    simp only [impl_characters.l0, e1, rd_nat l i (by omega)]
    have q1 : (i : Int) < (l.length : Int) := by omega
    have q2 : (0 : Int) ≤ (i : Int) := by omega
    have q3 : ¬ l[i] < 0 := by omega
    have q4 : ¬ l[i] > 1114111 := by omega
    simp only [if_pos q1, if_pos q2, if_neg q3, if_neg q4]
    exact ih (i + 1) (by omega) ha.2
def runesB : List Int → Bool
  | [c] => okR c
  | l => cls l
theorem runesB_one (c : Int) : runesB [c] = okR c := rfl
theorem runesB_cls (l : List Int) (h : ¬ l.length = 1) : runesB l = cls l := by
  unfold runesB
  split
  · simp at h
  · rfl
theorem ev_runes (op out arg : Int) (l : List Int) (hl : l.length ≤ 4611686018427387000) : Evn (fun k => spec_progRunes.f k op out arg l) (runesB l) := by
  by_cases h : l.length = 1
  · obtain ⟨c, rfl⟩ : ∃ c, l = [c] := List.length_eq_one_iff.1 h
    refine Evn.congr (Evn.const _) fun k => ?_
    have e : rd [c] 0 = c := rfl
    simp only [spec_progRunes.f, e, runesB_one, okR]
    rw [if_pos (by simp), if_pos (by simp)]
    by_cases h0 : 0 ≤ c
    · rw [if_pos h0]; simp [h0]
    · rw [if_neg h0]; simp [h0]
  · rw [runesB_cls l h]
    refine Evn.congr (g := fun k => (spec_reClass.f k l).bind fun t => some t) (Evn.bind (g := fun _ t => some t) (ev_cls l hl) (Evn.const _)) fun k => ?_
    simp only [spec_progRunes.f]
    rw [if_neg (by omega)]
def instB (n : Nat) (nc : Int) (i : I) : Bool :=
  if i.f0 = 4 ∨ i.f0 = 5 then true
  else if ¬ (0 ≤ i.f1 ∧ i.f1 < n) then false
  else if i.f0 = 0 then decide (0 ≤ i.f2) && decide (i.f2 < n)
  else if i.f0 = 2 then decide (2 ≤ i.f2) && decide (i.f2 < nc)
  else if i.f0 = 3 then decide (0 < i.f2) && decide (i.f2 < 64)
  else if i.f0 = 6 then true
  else if i.f0 = 9 then decide ((i.f3.length : Int) = 0) || decide (i.f3 = [0, 1114111])
  else if i.f0 = 10 then decide ((i.f3.length : Int) = 0) || decide (i.f3 = [0, 9, 11, 1114111])
  else if i.f0 = 8 then (decide ((i.f3.length : Int) = 1) || (decide ((i.f3.length : Int) = 2) && decide (rd i.f3 0 = rd i.f3 1))) && runesB i.f3
  else if i.f0 = 7 then (decide (i.f2 = 1) && decide ((i.f3.length : Int) = 1) && runesB i.f3) || (decide (i.f2 = 0) && cls i.f3)
  else false
set_option maxHeartbeats 1000000 in
theorem ev_inst (L : List I) (st nc : Int) (i : I) (hl : i.f3.length ≤ 4611686018427387000) : Evn (fun k => spec_progInst.f k L st nc i.f0 i.f1 i.f2 i.f3) (instB L.length nc i) := by
  have hj : ∀ b : Bool, (b = true ↔ (i.f0 = 4 ∨ i.f0 = 5)) → Evn (fun k => spec_progInst.j0 k b L st nc i.f0 i.f1 i.f2 i.f3) (instB L.length nc i) := by
    intro b hb
    refine Evn.succ ?_
    simp only [spec_progInst.j0]
    unfold instB
    by_cases e : b = true
    · rw [if_pos (hb.1 e)]; simp only [if_pos e]; exact Evn.const _
    · have ne : ¬ (i.f0 = 4 ∨ i.f0 = 5) := fun h => e (hb.2 h)
      rw [if_neg ne]
      simp only [if_neg e, spec_progTo.f]
      by_cases ho : 0 ≤ i.f1 ∧ i.f1 < (L.length : Int)
      · rw [if_neg (show ¬ ¬ (0 ≤ i.f1 ∧ i.f1 < (L.length : Int)) from fun h => h ho)]
        simp only [if_pos ho.1, decide_eq_true ho.2, Option.bind_some, if_true]
        by_cases e0 : i.f0 = 0
        · simp only [if_pos e0]
          by_cases ha : 0 ≤ i.f2
          · simp only [if_pos ha, Option.bind_some, decide_eq_true ha, Bool.true_and]; exact Evn.const _
          · simp only [if_neg ha, Option.bind_some, decide_eq_false ha, Bool.false_and]; exact Evn.const _
        · simp only [if_neg e0]
          by_cases e2 : i.f0 = 2
          · simp only [if_pos e2]
            by_cases ha : 2 ≤ i.f2
            · simp only [if_pos ha, decide_eq_true ha, Bool.true_and]; exact Evn.const _
            · simp only [if_neg ha, decide_eq_false ha, Bool.false_and]; exact Evn.const _
          · simp only [if_neg e2]
            by_cases e3 : i.f0 = 3
            · simp only [if_pos e3]
              by_cases ha : 0 < i.f2
              · simp only [if_pos ha, decide_eq_true ha, Bool.true_and]; exact Evn.const _
              · simp only [if_neg ha, decide_eq_false ha, Bool.false_and]; exact Evn.const _
            · simp only [if_neg e3]
              by_cases e6 : i.f0 = 6
              · simp only [if_pos e6]; exact Evn.const _
              · simp only [if_neg e6]
                by_cases e9 : i.f0 = 9
                · simp only [if_pos e9]
                  by_cases hz : (i.f3.length : Int) = 0
                  · simp only [if_pos hz, decide_eq_true hz, Bool.true_or]; exact Evn.const _
                  · simp only [if_neg hz, decide_eq_false hz, Bool.false_or]
                    exact Evn.bind (g := fun _ t => some t) (ev_same i.f3 [0, 1114111] hl) (Evn.const _)
                · simp only [if_neg e9]
                  by_cases e10 : i.f0 = 10
                  · simp only [if_pos e10]
                    by_cases hz : (i.f3.length : Int) = 0
                    · simp only [if_pos hz, decide_eq_true hz, Bool.true_or]; exact Evn.const _
                    · simp only [if_neg hz, decide_eq_false hz, Bool.false_or]
                      exact Evn.bind (g := fun _ t => some t) (ev_same i.f3 [0, 9, 11, 1114111] hl) (Evn.const _)
                  · simp only [if_neg e10]
                    by_cases e8 : i.f0 = 8
                    · simp only [if_pos e8]
                      by_cases h1 : (i.f3.length : Int) = 1
                      · simp only [if_pos h1, decide_eq_true h1, Bool.true_or, Bool.true_and]
                        exact Evn.bind (g := fun _ t => some t) (ev_runes i.f0 i.f1 i.f2 i.f3 hl) (Evn.const _)
                      · simp only [if_neg h1, decide_eq_false h1, Bool.false_or]
                        by_cases h2 : (i.f3.length : Int) = 2
                        · have q0 : (0 : Int) < (i.f3.length : Int) := by omega
                          have q1 : (1 : Int) < (i.f3.length : Int) := by omega
                          simp only [if_pos h2, decide_eq_true h2, if_pos q0, if_pos q1, Bool.true_and]
                          by_cases hr : rd i.f3 0 = rd i.f3 1
                          · simp only [if_pos hr, decide_eq_true hr, Bool.true_and]
                            exact Evn.bind (g := fun _ t => some t) (ev_runes i.f0 i.f1 i.f2 i.f3 hl) (Evn.const _)
                          · simp only [if_neg hr, decide_eq_false hr, Bool.false_and]; exact Evn.const _
                        · simp only [if_neg h2, decide_eq_false h2, Bool.false_and]; exact Evn.const _
                    · simp only [if_neg e8]
                      by_cases e7 : i.f0 = 7
                      · simp only [if_pos e7]
                        by_cases a1 : i.f2 = 1
                        · have a0 : ¬ i.f2 = 0 := by omega
                          simp only [if_pos a1, if_neg a0, decide_eq_true a1, decide_eq_false a0, Bool.true_and, Bool.false_and, Bool.or_false]
                          by_cases h1 : (i.f3.length : Int) = 1
                          · simp only [if_pos h1, decide_eq_true h1, Bool.true_and]
                            refine Evn.bind (g := fun _ t => if t = true then some true else some false) (ev_runes i.f0 i.f1 i.f2 i.f3 hl) (Evn.congr (Evn.const _) fun k => ?_)
                            cases runesB i.f3 <;> rfl
                          · simp only [if_neg h1, decide_eq_false h1, Bool.false_and]; exact Evn.const _
                        · simp only [if_neg a1, decide_eq_false a1, Bool.false_and, Bool.false_or]
                          by_cases a0 : i.f2 = 0
                          · simp only [if_pos a0, decide_eq_true a0, Bool.true_and]
                            exact Evn.bind (g := fun _ t => some t) (ev_cls i.f3 hl) (Evn.const _)
                          · simp only [if_neg a0, decide_eq_false a0, Bool.false_and]; exact Evn.const _
                      · simp only [if_neg e7]; exact Evn.const _
      · rw [if_pos (show ¬ (0 ≤ i.f1 ∧ i.f1 < (L.length : Int)) from ho)]
        have : (if 0 ≤ i.f1 then some (decide (i.f1 < (L.length : Int))) else some false) = some false := by
          by_cases h0 : 0 ≤ i.f1
          · rw [if_pos h0, decide_eq_false (fun h => ho ⟨h0, h⟩)]
          · rw [if_neg h0]
        simp only [this, Option.bind_some, Bool.false_eq_true, if_false]; exact Evn.const _
  simp only [spec_progInst.f]
  by_cases e4 : i.f0 = 4
  · simp only [if_pos e4]; exact hj true (by simp [e4])
  · simp only [if_neg e4]; exact hj _ (by rw [beq_iff_eq]; omega)
def term (i : I) : Prop := i.f0 = 0 ∨ i.f0 = 4 ∨ i.f0 = 5
instance (i : I) : Decidable (term i) := by unfold term; infer_instance
def circF (L : List I) : Nat → Nat → Bool
  | 0, _ => true
  | n + 1, pc => if term (ins L pc) then false else circF L n (ins L pc).f1.toNat
def OutIn (L : List I) : Prop := ∀ pc, pc < L.length → ¬ ((ins L pc).f0 = 4 ∨ (ins L pc).f0 = 5) → 0 ≤ (ins L pc).f1 ∧ (ins L pc).f1 < (L.length : Int)
theorem ev_circF (L : List I) (st nc : Int) (hL : L.length ≤ 4611686018427387000) (hO : OutIn L) : ∀ (n c pc : Nat), L.length = c + n → pc < L.length →
    Evn (fun k => spec_progCircle.l0 k (pc : Int) (L.length : Int) (c : Int) L st nc) (circF L n pc) := by
  intro n
  induction n with
  | zero =>
    intro c pc hc hpc
    refine Evn.succ (Evn.congr (Evn.const _) fun k => ?_)
    simp only [spec_progCircle.l0]
    rw [if_neg (by omega)]; rfl
  | succ n ih =>
    intro c pc hc hpc
    have e1 : wrap64 ((c : Int) + 1) = ((c + 1 : Nat) : Int) := wrap_nat c 1 (by omega)
    refine Evn.succ ?_
    have q1 : (c : Int) < (L.length : Int) := by omega
    have q2 : (0 : Int) ≤ (pc : Int) := by omega
    have q3 : (pc : Int) < (L.length : Int) := by omega
    simp only [spec_progCircle.l0, if_pos q1, if_pos q2, if_pos q3, ins_nat, e1, circF]
    by_cases e0 : (ins L pc).f0 = 0
    · simp only [if_pos e0, if_pos (show term (ins L pc) from .inl e0)]; exact Evn.const _
    · by_cases e4 : (ins L pc).f0 = 4
      · simp only [if_neg e0, if_pos e4, if_pos (show term (ins L pc) from .inr (.inl e4))]; exact Evn.const _
      · by_cases e5 : (ins L pc).f0 = 5
        · simp only [if_neg e0, if_neg e4, if_pos e5, if_pos (show term (ins L pc) from .inr (.inr e5))]; exact Evn.const _
        · have nt : ¬ term (ins L pc) := by unfold term; omega
          simp only [if_neg e0, if_neg e4, if_neg e5, if_neg nt]
          obtain ⟨o1, o2⟩ := hO pc hpc (by omega)
          have := ih (c + 1) (ins L pc).f1.toNat (by omega) (by omega)
          rwa [Int.toNat_of_nonneg o1] at this
theorem ev_circ (L : List I) (st nc : Int) (hL : L.length ≤ 4611686018427387000) (hO : OutIn L) (pc : Nat) (hpc : pc < L.length) : Evn (fun k => spec_progCircle.f k L st nc (pc : Int)) (circF L L.length pc) := by
  have := ev_circF L st nc hL hO L.length 0 pc (by omega) hpc
  exact this
theorem outIn_of (L : List I) (nc : Int) (h : L.all (instB L.length nc) = true) : OutIn L := by
  intro pc hpc hne
  have := List.all_eq_true.1 h _ (ins_mem L pc hpc)
  unfold instB at this
  rw [if_neg hne] at this
  by_cases ho : 0 ≤ (ins L pc).f1 ∧ (ins L pc).f1 < (L.length : Int)
  · exact ho
  · rw [if_pos ho] at this; cases this
def psnd (L : List I) (st nc most : Int) : Bool :=
  if (L.length : Int) = 0 then false
  else if (L.length : Int) > most then false
  else if ¬ (ins L 0).f0 = 5 then false
  else if ¬ (0 ≤ st ∧ st < (L.length : Int)) then false
  else if nc < 2 then false
  else if nc > 2002 then false
  else if (Int.tmod nc 2 != 0) = true then false
  else if ¬ L.all (instB L.length nc) = true then false
  else (List.range L.length).all fun pc => !circF L L.length pc
theorem ev_psnd (L : List I) (st nc most : Int) (hL : L.length ≤ 4611686018427387000) (hr : ∀ i ∈ L, i.f3.length ≤ 4611686018427387000) : Evn (fun k => spec_ProgSound.f k L st nc most) (psnd L st nc most) := by
  have hl1 : OutIn L → ∀ (n c : Nat), L.length = c + n → Evn (fun k => spec_ProgSound.l1 k (L.length : Int) (c : Int) L st nc) (((List.range L.length).drop c).all fun pc => !circF L L.length pc) := by
    intro hO n
    induction n with
    | zero =>
      intro c hc
      refine Evn.succ (Evn.congr (Evn.const _) fun k => ?_)
      simp only [spec_ProgSound.l1]
      rw [if_neg (by omega), List.drop_eq_nil_of_le (by simp; omega)]; rfl
    | succ n ih =>
      intro c hc
      have e1 : wrap64 ((c : Int) + 1) = ((c + 1 : Nat) : Int) := wrap_nat c 1 (by omega)
      have q1 : (c : Int) < (L.length : Int) := by omega
      rw [List.drop_eq_getElem_cons (show c < (List.range L.length).length by simp; omega), List.all_cons]
      refine Evn.succ ?_
      simp only [spec_ProgSound.l1, if_pos q1, e1, List.getElem_range]
      refine Evn.bind (ev_circ L st nc hL hO c (by omega)) ?_
      cases hcf : circF L L.length c
      · simp only [Bool.false_eq_true, if_false, Bool.not_false, Bool.true_and]; exact ih (c + 1) (by omega)
      · simp only [if_true, Bool.not_true, Bool.false_and]; exact Evn.const _
  have hl0 : ∀ (n c : Nat), L.length = c + n → (L.take c).all (instB L.length nc) = true → Evn (fun k => spec_ProgSound.l0 k L (L.length : Int) (c : Int) L st nc) (if ¬ L.all (instB L.length nc) = true then false else (List.range L.length).all fun pc => !circF L L.length pc) := by
    intro n
    induction n with
    | zero =>
      intro c hc ht
      rw [List.take_of_length_le (by omega)] at ht
      refine Evn.succ ?_
      simp only [spec_ProgSound.l0]
      have q1 : ¬ (c : Int) < (L.length : Int) := by omega
      simp only [if_neg q1]
      rw [if_neg (fun h => h ht)]
      exact hl1 (outIn_of L nc ht) L.length 0 (by omega)
    | succ n ih =>
      intro c hc ht
      have e1 : wrap64 ((c : Int) + 1) = ((c + 1 : Nat) : Int) := wrap_nat c 1 (by omega)
      have q1 : (c : Int) < (L.length : Int) := by omega
      have q2 : (0 : Int) ≤ (c : Int) := by omega
      refine Evn.succ ?_
      simp only [spec_ProgSound.l0, if_pos q1, if_pos q2, e1, ins_nat]
      refine Evn.bind (ev_inst L st nc (ins L c) (hr _ (ins_mem L c (by omega)))) ?_
      cases hi : instB L.length nc (ins L c)
      · simp only [Bool.false_eq_true, if_false]
        have : ¬ L.all (instB L.length nc) = true := by
          intro h
          have := List.all_eq_true.1 h _ (ins_mem L c (by omega))
          rw [hi] at this; cases this
        rw [if_pos this]; exact Evn.const _
      · simp only [if_true]
        refine ih (c + 1) (by omega) ?_
        rw [List.take_succ_eq_append_getElem (by omega), List.all_append, ht]
        have e : ins L c = L[c]'(by omega) := by unfold ins; rw [List.getD_eq_getElem?_getD, List.getElem?_eq_getElem (by omega)]; rfl
        rw [e] at hi
        simp [hi]
  have hj : ∀ b : Bool, Evn (fun k => spec_ProgSound.j0 k b L st nc) (if b = true then false else if ¬ L.all (instB L.length nc) = true then false else (List.range L.length).all fun pc => !circF L L.length pc) := by
    intro b
    refine Evn.succ ?_
    simp only [spec_ProgSound.j0]
    cases b
    · simp only [Bool.false_eq_true, if_false]; exact hl0 L.length 0 (by omega) rfl
    · simp only [if_true]; exact Evn.const _
  unfold psnd
  simp only [spec_ProgSound.f]
  by_cases h0 : (L.length : Int) = 0
  · simp only [if_pos h0]; exact hj true
  · simp only [if_neg h0]
    by_cases h1 : (L.length : Int) > most
    · simp only [if_pos h1]; exact hj true
    · have q : (0 : Int) < (L.length : Int) := by omega
      simp only [if_neg h1, if_pos q]
      have er : rd_T52 L 0 = ins L 0 := rfl
      simp only [er]
      by_cases h5 : (ins L 0).f0 = 5
      · simp only [if_pos h5, spec_progTo.f]
        rw [if_neg (show ¬ ¬ (ins L 0).f0 = 5 from fun h => h h5)]
        by_cases hs : 0 ≤ st ∧ st < (L.length : Int)
        · rw [if_neg (show ¬ ¬ (0 ≤ st ∧ st < (L.length : Int)) from fun h => h hs)]
          simp only [if_pos hs.1, decide_eq_true hs.2, Option.bind_some, if_true]
          by_cases h2 : nc < 2
          · simp only [if_pos h2]; exact hj true
          · by_cases h3 : nc > 2002
            · simp only [if_neg h2, if_pos h3]; exact hj true
            · simp only [if_neg h2, if_neg h3]; exact hj _
        · rw [if_pos (show ¬ (0 ≤ st ∧ st < (L.length : Int)) from hs)]
          have : (if 0 ≤ st then some (decide (st < (L.length : Int))) else some false) = some false := by
            by_cases h0 : 0 ≤ st
            · rw [if_pos h0, decide_eq_false (fun h => hs ⟨h0, h⟩)]
            · rw [if_neg h0]
          simp only [this, Option.bind_some, Bool.false_eq_true, if_false]; exact hj true
      · simp only [if_neg h5]
        rw [if_pos (show ¬ (ins L 0).f0 = 5 from h5)]
        exact hj true
structure PSound (L : List I) (st nc most : Int) : Prop where
  pos : 1 ≤ L.length
  most : (L.length : Int) ≤ most
  first : (ins L 0).f0 = 5
  st0 : 0 ≤ st
  st1 : st < (L.length : Int)
  nc0 : 2 ≤ nc
  nc1 : nc ≤ 2002
  even : nc % 2 = 0
  inst : ∀ pc, pc < L.length → instB L.length nc (ins L pc) = true
  circ : ∀ pc, pc < L.length → circF L L.length pc = false
theorem psnd_says {L : List I} {st nc most : Int} (h : psnd L st nc most = true) : PSound L st nc most := by
  unfold psnd at h
  by_cases h0 : (L.length : Int) = 0
  · rw [if_pos h0] at h; cases h
  · by_cases h1 : (L.length : Int) > most
    · rw [if_neg h0, if_pos h1] at h; cases h
    · rw [if_neg h0, if_neg h1] at h
      by_cases h5 : (ins L 0).f0 = 5
      · rw [if_neg (fun e => e h5)] at h
        by_cases hs : 0 ≤ st ∧ st < (L.length : Int)
        · rw [if_neg (fun e => e hs)] at h
          by_cases h2 : nc < 2
          · rw [if_pos h2] at h; cases h
          · by_cases h3 : nc > 2002
            · rw [if_neg h2, if_pos h3] at h; cases h
            · rw [if_neg h2, if_neg h3] at h
              by_cases h4 : (Int.tmod nc 2 != 0) = true
              · rw [if_pos h4] at h; cases h
              · rw [if_neg h4] at h
                by_cases hi : L.all (instB L.length nc) = true
                · rw [if_neg (fun e => e hi)] at h
                  refine ⟨by omega, by omega, h5, hs.1, hs.2, by omega, by omega, ?_, fun pc hpc => List.all_eq_true.1 hi _ (ins_mem L pc hpc), fun pc hpc => ?_⟩
                  · have : Int.tmod nc 2 = 0 := by simpa using h4
                    rw [Int.tmod_eq_emod_of_nonneg (by omega)] at this; exact this
                  · have := List.all_eq_true.1 h pc (List.mem_range.2 hpc)
                    simpa using this
                · rw [if_pos hi] at h; cases h
        · rw [if_pos hs] at h; cases h
      · rw [if_pos h5] at h; cases h
theorem PSound.outIn {L : List I} {st nc most : Int} (h : PSound L st nc most) : OutIn L := by
  intro pc hpc hne
  have := h.inst pc hpc
  unfold instB at this
  rw [if_neg hne] at this
  by_cases ho : 0 ≤ (ins L pc).f1 ∧ (ins L pc).f1 < (L.length : Int)
  · exact ho
  · rw [if_pos ho] at this; cases this
end Go.Proofs.YtmccgfjhmbioeaaDoor.PgFnPgThreads
