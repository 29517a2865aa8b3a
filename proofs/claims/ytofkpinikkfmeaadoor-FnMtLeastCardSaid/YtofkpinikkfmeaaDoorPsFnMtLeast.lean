/- What the reference's soundness of a tree says: the printed functions end, and with what. No walk. -/
import Derived.Test.YtofkpinikkfmeaaDoorWfFnMtLeast
namespace Go.Proofs.YtofkpinikkfmeaaDoor.TrFnMtLeast
open Go.RowKit Go.Proofs.YtofkpinikkfmeaaDoor.PFnMtLeast Go.Proofs.YtofkpinikkfmeaaDoorW.PrintWords Go.Proofs.YtofkpinikkfmeaaDoorW.PrintLast Go.Proofs.YtofkpinikkfmeaaDoorW.PrintMore

/-- With rounds enough a function ends so. -/
def Ev {α : Type} (f : Nat → Option α) (v : α) : Prop := ∃ K, ∀ k, K ≤ k → f k = some v
theorem Ev.const {α : Type} (v : α) : Ev (fun _ => some v) v := ⟨0, fun _ _ => rfl⟩
theorem Ev.succ {α : Type} {f : Nat → Option α} {v : α} (h : Ev (fun k => f (k + 1)) v) : Ev f v := by
  obtain ⟨K, h⟩ := h
  refine ⟨K + 1, fun k hk => ?_⟩
  obtain ⟨j, rfl⟩ : ∃ j, k = j + 1 := ⟨k - 1, by omega⟩
  exact h j (by omega)
theorem Ev.bind {α β : Type} {f : Nat → Option α} {g : Nat → α → Option β} {a : α} {v : β} (h : Ev f a) (h2 : Ev (fun k => g k a) v) : Ev (fun k => (f k).bind (g k)) v := by
  obtain ⟨K, h⟩ := h
  obtain ⟨L, h2⟩ := h2
  refine ⟨max K L, fun k hk => ?_⟩
  show (f k).bind (g k) = some v
  rw [h k (by omega)]
  exact h2 k (by omega)
theorem Ev.congr {α : Type} {f g : Nat → Option α} {v : α} (h : Ev g v) (e : ∀ k, f k = g k) : Ev f v := by
  obtain ⟨K, h⟩ := h
  exact ⟨K, fun k hk => (e k).trans (h k hk)⟩

theorem wrap_nat (i j : Nat) (h : i + j ≤ 4611686018427387904) : wrap64 ((i : Int) + (j : Int)) = ((i + j : Nat) : Int) := by unfold wrap64; omega
theorem rd_nat (l : List Int) (i : Nat) (h : i < l.length) : rd l (i : Int) = l[i] := by
  unfold rd
  rw [List.getD_eq_getElem?_getD, Int.toNat_natCast, List.getElem?_eq_getElem h]; rfl

def ar (a : Int) : Int × Int := if 13 ≤ a ∧ a ≤ 17 then (1, 1) else if a = 18 then (0, -1) else if a = 19 then (1, -1) else if 1 ≤ a ∧ a ≤ 12 then (0, 0) else (1, 0)
theorem ev_ar (a : Int) : Ev (fun k => spec_reArity.f k a) (ar a) := by
  refine Ev.succ ⟨0, fun k _ => ?_⟩
  simp only [spec_reArity.f, spec_reArity.j0, ar, beq_iff_eq]
  repeat' split
  all_goals first | rfl | omega

def clsF : Int → List Int → Bool
  | last, a :: b :: r => if a ≤ last then false else if a > b then false else if b > 1114111 then false else clsF b r
  | _, _ => true
def cls (l : List Int) : Bool := if (l.length : Int) % 2 = 0 then clsF (-1) l else false

theorem drop2 (l : List Int) (i : Nat) (h : i + 1 < l.length) : l.drop i = l[i] :: l[i + 1] :: l.drop (i + 2) := by
  rw [List.drop_eq_getElem_cons (by omega), List.drop_eq_getElem_cons (by omega)]

theorem ev_clsF (l : List Int) (hl : l.length ≤ 4611686018427387000) (he : l.length % 2 = 0) : ∀ (n i : Nat) (last : Int), l.length = i + 2 * n → Ev (fun k => spec_reClass.l0 k l last (i : Int)) (clsF last (l.drop i)) := by
  intro n
  induction n with
  | zero =>
    intro i last hi
    refine Ev.succ (Ev.congr (Ev.const _) fun k => ?_)
    simp only [spec_reClass.l0]
    rw [if_neg (by omega), List.drop_eq_nil_of_le (by omega)]; rfl
  | succ n ih =>
    intro i last hi
    have e1 : wrap64 ((i : Int) + 1) = ((i + 1 : Nat) : Int) := wrap_nat i 1 (by omega)
    have e2 : wrap64 ((i : Int) + 2) = ((i + 2 : Nat) : Int) := wrap_nat i 2 (by omega)
    rw [drop2 l i (by omega)]
    simp only [clsF]
    refine Ev.succ ?_
    simp only [spec_reClass.l0, e1, e2, rd_nat l i (by omega), rd_nat l (i + 1) (by omega)]
    have q1 : (i : Int) < (l.length : Int) := by omega
    have q2 : (0 : Int) ≤ (i : Int) := by omega
    have q3 : (0 : Int) ≤ ((i + 1 : Nat) : Int) := by omega
    have q4 : ((i + 1 : Nat) : Int) < (l.length : Int) := by omega
    simp only [if_pos q1, if_pos q2, if_pos q3, if_pos q4]
    by_cases h1 : l[i] ≤ last
    · simp only [if_pos h1]; exact Ev.const _
    · by_cases h2 : l[i] > l[i + 1]
      · simp only [if_neg h1, if_pos h2]; exact Ev.const _
      · by_cases h3 : l[i + 1] > 1114111
        · simp only [if_neg h1, if_neg h2, if_pos h3]; exact Ev.const _
        · simp only [if_neg h1, if_neg h2, if_neg h3]
          exact ih (i + 2) _ (by omega)

theorem ev_cls (l : List Int) (hl : l.length ≤ 4611686018427387000) : Ev (fun k => spec_reClass.f k l) (cls l) := by
  unfold cls
  by_cases h : (l.length : Int) % 2 = 0
  · have := ev_clsF l hl (by omega) (l.length / 2) 0 (-1) (by omega)
    refine Ev.congr (g := fun k => spec_reClass.l0 k l (-1) 0) ?_ fun k => by simp only [spec_reClass.f]; rw [if_pos h]
    rw [if_pos h]
    exact this
  · refine Ev.congr (Ev.const _) fun k => ?_
    simp only [spec_reClass.f]
    rw [if_neg h, if_neg h]

theorem ev_pairs (l : List Int) (hl : l.length ≤ 4611686018427387000) (he : l.length % 2 = 0) : ∀ (n i : Nat) (last : Int), l.length = i + 2 * n → clsF last (l.drop i) = true → Ev (fun k => impl_pairs.l0 k l last (i : Int)) true := by
  intro n
  induction n with
  | zero =>
    intro i last hi _
    refine Ev.succ (Ev.congr (Ev.const _) fun k => ?_)
    simp only [impl_pairs.l0]
    rw [if_neg (by omega)]
  | succ n ih =>
    intro i last hi hc
    have e1 : wrap64 ((i : Int) + 1) = ((i + 1 : Nat) : Int) := wrap_nat i 1 (by omega)
    have e2 : wrap64 ((i : Int) + 2) = ((i + 2 : Nat) : Int) := wrap_nat i 2 (by omega)
    rw [drop2 l i (by omega)] at hc
    simp only [clsF] at hc
    refine Ev.succ ?_
    simp only [impl_pairs.l0, e1, e2, rd_nat l i (by omega), rd_nat l (i + 1) (by omega)]
    by_cases h1 : l[i] ≤ last
    · rw [if_pos h1] at hc; cases hc
    · by_cases h2 : l[i] > l[i + 1]
      · rw [if_neg h1, if_pos h2] at hc; cases hc
      · by_cases h3 : l[i + 1] > 1114111
        · rw [if_neg h1, if_neg h2, if_pos h3] at hc; cases hc
        · rw [if_neg h1, if_neg h2, if_neg h3] at hc
          have q1 : (i : Int) < (l.length : Int) := by omega
          have q2 : (0 : Int) ≤ (i : Int) := by omega
          have q3 : (0 : Int) ≤ ((i + 1 : Nat) : Int) := by omega
          have q4 : ((i + 1 : Nat) : Int) < (l.length : Int) := by omega
          have q5 : ¬ ((i + 1 : Nat) : Int) = (l.length : Int) := by omega
          have q6 : ¬ l[i + 1] < l[i] := by omega
          simp only [if_pos q1, if_neg q5, if_pos q2, if_neg h1, if_pos q3, if_pos q4, if_neg q6, if_neg h3]
          exact ih (i + 2) _ (by omega) hc

def okR (c : Int) : Bool := decide (0 ≤ c) && decide (c ≤ 1114111)

theorem ev_runes (l : List Int) (hl : l.length ≤ 4611686018427387000) (a0 a1 a3 a4 a5 : Int) (a6 : ByteArray) (a7 : List T) : ∀ (n i : Nat), l.length = i + n →
    Ev (fun k => spec_reNode.l0 k l (l.length : Int) (i : Int) a0 a1 l a3 a4 a5 a6 a7) ((l.drop i).all okR && decide ((l.length : Int) > 0)) := by
  intro n
  induction n with
  | zero =>
    intro i hi
    refine Ev.succ (Ev.congr (Ev.const _) fun k => ?_)
    simp only [spec_reNode.l0]
    rw [if_neg (by omega), List.drop_eq_nil_of_le (by omega)]; simp
  | succ n ih =>
    intro i hi
    have e1 : wrap64 ((i : Int) + 1) = ((i + 1 : Nat) : Int) := wrap_nat i 1 (by omega)
    rw [List.drop_eq_getElem_cons (show i < l.length by omega)]
    simp only [List.all_cons]
    refine Ev.succ ?_
    simp only [spec_reNode.l0, e1, rd_nat l i (by omega)]
    have q1 : (i : Int) < (l.length : Int) := by omega
    have q2 : (0 : Int) ≤ (i : Int) := by omega
    simp only [if_pos q1, if_pos q2]
    by_cases h1 : l[i] < 0
    · have : okR l[i] = false := by unfold okR; simp; omega
      simp only [if_pos h1, this, Bool.false_and]; exact Ev.const _
    · by_cases h2 : l[i] > 1114111
      · have : okR l[i] = false := by unfold okR; simp; omega
        simp only [if_neg h1, if_pos h2, this, Bool.false_and]; exact Ev.const _
      · have : okR l[i] = true := by unfold okR; simp; omega
        simp only [if_neg h1, if_neg h2, this, Bool.true_and]
        exact ih (i + 1) (by omega)

theorem ev_chars (l : List Int) (hl : l.length ≤ 4611686018427387000) : ∀ (n i : Nat), l.length = i + n → (l.drop i).all okR = true → Ev (fun k => impl_characters.l0 k l (l.length : Int) (i : Int)) true := by
  intro n
  induction n with
  | zero =>
    intro i hi _
    refine Ev.succ (Ev.congr (Ev.const _) fun k => ?_)
    simp only [impl_characters.l0]
    rw [if_neg (by omega)]
  | succ n ih =>
    intro i hi ha
    have e1 : wrap64 ((i : Int) + 1) = ((i + 1 : Nat) : Int) := wrap_nat i 1 (by omega)
    rw [List.drop_eq_getElem_cons (show i < l.length by omega), List.all_cons, Bool.and_eq_true] at ha
    have hb : 0 ≤ l[i] ∧ l[i] ≤ 1114111 := by have := ha.1; unfold okR at this; simpa using this
    refine Ev.succ ?_
    simp only [impl_characters.l0, e1, rd_nat l i (by omega)]
    have q1 : (i : Int) < (l.length : Int) := by omega
    have q2 : (0 : Int) ≤ (i : Int) := by omega
    have q3 : ¬ l[i] < 0 := by omega
    have q4 : ¬ l[i] > 1114111 := by omega
    simp only [if_pos q1, if_pos q2, if_neg q3, if_neg q4]
    exact ih (i + 1) (by omega) ha.2

/-- A node by itself, without its parts. -/
def nodeB (t : T) : Bool :=
  if (t.f7.length : Int) < (ar t.f0).1 then false
  else if (ar t.f0).2 ≥ 0 ∧ (t.f7.length : Int) > (ar t.f0).2 then false
  else if t.f0 = 3 then t.f2.all okR && decide ((t.f2.length : Int) > 0)
  else if t.f0 = 4 then cls t.f2
  else if t.f0 = 17 then decide (0 ≤ t.f3) && decide (t.f3 ≤ 1000) && (decide (t.f4 = -1) || (decide (t.f3 ≤ t.f4) && decide (t.f4 ≤ 1000)))
  else true

theorem ev_node (t : T) (hl : t.f2.length ≤ 4611686018427387000) : Ev (fun k => spec_reNode.f k t.f0 t.f1 t.f2 t.f3 t.f4 t.f5 t.f6 t.f7) (nodeB t) := by
  have j : ∀ b : Bool, Ev (fun k => spec_reNode.j0 k b t.f0 t.f1 t.f2 t.f3 t.f4 t.f5 t.f6 t.f7) (if b = true then false else if t.f0 = 3 then t.f2.all okR && decide ((t.f2.length : Int) > 0)
      else if t.f0 = 4 then cls t.f2
      else if t.f0 = 17 then decide (0 ≤ t.f3) && decide (t.f3 ≤ 1000) && (decide (t.f4 = -1) || (decide (t.f3 ≤ t.f4) && decide (t.f4 ≤ 1000)))
      else true) := by
    intro b
    refine Ev.succ ?_
    simp only [spec_reNode.j0]
    by_cases hb : b = true
    · simp only [if_pos hb]; exact Ev.const _
    · simp only [if_neg hb]
      by_cases h3 : t.f0 = 3
      · simp only [if_pos h3]
        have := ev_runes t.f2 hl t.f0 t.f1 t.f3 t.f4 t.f5 t.f6 t.f7 t.f2.length 0 (by omega)
        exact this
      · simp only [if_neg h3]
        by_cases h4 : t.f0 = 4
        · simp only [if_pos h4]
          exact Ev.bind (g := fun _ a => some a) (ev_cls t.f2 hl) (Ev.const _)
        · simp only [if_neg h4]
          by_cases h17 : t.f0 = 17
          · simp only [if_pos h17]
            refine Ev.congr (Ev.const _) fun k => ?_
            repeat' split
            all_goals (congr 1; symm)
            all_goals first | (simp only [Bool.and_eq_true, Bool.or_eq_true, decide_eq_true_eq]; omega) | (simp only [Bool.and_eq_false_iff, Bool.or_eq_false_iff, decide_eq_false_iff_not]; omega) | skip
            all_goals simp [*]
          · simp only [if_neg h17]; exact Ev.const _
  have he := Ev.bind (g := fun k bt => if (t.f7.length : Int) < bt.1 then (spec_reNode.j0 k true t.f0 t.f1 t.f2 t.f3 t.f4 t.f5 t.f6 t.f7) else (if bt.2 ≥ 0 then (spec_reNode.j0 k (decide ((t.f7.length : Int) > bt.2)) t.f0 t.f1 t.f2 t.f3 t.f4 t.f5 t.f6 t.f7) else (spec_reNode.j0 k false t.f0 t.f1 t.f2 t.f3 t.f4 t.f5 t.f6 t.f7))) (ev_ar t.f0) (v := nodeB t) ?_
  · exact Ev.congr he fun k => rfl
  · unfold nodeB
    by_cases h1 : (t.f7.length : Int) < (ar t.f0).1
    · simp only [if_pos h1]; exact j true
    · simp only [if_neg h1]
      by_cases h2 : (ar t.f0).2 ≥ 0
      · simp only [if_pos h2]
        by_cases h3 : (t.f7.length : Int) > (ar t.f0).2
        · rw [if_pos ⟨h2, h3⟩, decide_eq_true h3]; exact j true
        · rw [if_neg (fun e => h3 e.2), decide_eq_false h3]; exact j false
      · simp only [if_neg h2]
        rw [if_neg (fun e => h2 e.1)]; exact j false

end Go.Proofs.YtofkpinikkfmeaaDoor.TrFnMtLeast
