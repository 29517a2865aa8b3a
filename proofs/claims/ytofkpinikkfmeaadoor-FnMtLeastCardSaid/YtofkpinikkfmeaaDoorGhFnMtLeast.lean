/- Sets of places in plain Lean: reAny, reBoth, reFresh, reGrows end so. No walk. -/
import Derived.Test.YtofkpinikkfmeaaDoorLtFnMtLeast
import Derived.Test.YtofkpinikkfmeaaDoorEv
namespace Go.Proofs.YtofkpinikkfmeaaDoor.TxFnMtLeast
open Go.RowKit Go.Proofs.YtofkpinikkfmeaaDoor.TrFnMtLeast Go.Proofs.YtofkpinikkfmeaaDoor.EvN Go.Proofs.YtofkpinikkfmeaaDoor.PFnMtLeast Go.Proofs.YtofkpinikkfmeaaDoorW.PrintWords Go.Proofs.YtofkpinikkfmeaaDoorW.PrintLast Go.Proofs.YtofkpinikkfmeaaDoorW.PrintMore
set_option linter.unusedSimpArgs false
set_option linter.unusedVariables false

/-- A row of n bools whose first i are f's. -/
def gen (f : Nat → Bool) (n i : Nat) : List Bool := (List.range i).map f ++ List.replicate (n - i) false
theorem gen_len {f : Nat → Bool} {n i : Nat} (h : i ≤ n) : (gen f n i).length = n := by unfold gen; simp; omega
theorem gen_set {f : Nat → Bool} {n i : Nat} (h : i < n) : (gen f n i).set i (f i) = gen f n (i + 1) := by
  unfold gen
  obtain ⟨m, hm⟩ : ∃ m, n - i = m + 1 := ⟨n - i - 1, by omega⟩
  rw [List.set_append_right _ _ (by simp), List.length_map, List.length_range, Nat.sub_self, hm, List.replicate_succ, List.set_cons_zero, List.range_succ, List.map_append, List.append_assoc, show n - (i + 1) = m by omega]
  rfl
theorem gen_get {f : Nat → Bool} {n j : Nat} : (gen f n n)[j]? = some true ↔ j < n ∧ f j = true := by
  unfold gen
  rw [Nat.sub_self, List.replicate_zero, List.append_nil, List.getElem?_map]
  by_cases h : j < n
  · rw [List.getElem?_eq_getElem (by simpa using h)]
    simp [h]
  · rw [List.getElem?_eq_none (by simp; omega)]
    simp [h]

/-- Bool j of a row. -/
def bd (l : List Bool) (j : Nat) : Bool := l.getD j false
theorem bd_iff {l : List Bool} {j : Nat} : bd l j = true ↔ l[j]? = some true := by
  unfold bd
  rw [List.getD_eq_getElem?_getD]
  cases l[j]? <;> simp
theorem rd_b (l : List Bool) (i : Nat) : rdOf false l (i : Int) = bd l i := by unfold rdOf bd; rw [Int.toNat_natCast]

def orF (a b : List Bool) (i : Nat) : Bool := bd a i || bd b i
def frF (a b : List Bool) (i : Nat) : Bool := bd b i && !bd a i

theorem ev_bothL (a b : List Bool) (h : b.length = a.length) (hl : a.length ≤ 100001) : ∀ m i, i + m = a.length → Evn (fun k => spec_reBoth.l0 k a b (gen (orF a b) a.length i) (a.length : Int) (i : Int)) (gen (orF a b) a.length a.length) := by
  intro m
  induction m with
  | zero =>
    intro i hi
    obtain rfl : i = a.length := by omega
    refine Evn.succ (Evn.congr (Evn.const _) fun k => ?_)
    simp only [spec_reBoth.l0]
    rw [if_neg (by omega)]
  | succ m ih =>
    intro i hi
    have e1 : wrap64 ((i : Int) + 1) = ((i + 1 : Nat) : Int) := Go.Proofs.YtofkpinikkfmeaaDoor.EvN.wrap_nat i 1 (by omega)
    have hg := gen_len (f := orF a b) (n := a.length) (i := i) (by omega)
    have q0 : (i : Int) < (a.length : Int) := by omega
    have q1 : (0 : Int) ≤ (i : Int) := by omega
    have q2 : (i : Int) < (b.length : Int) := by omega
    have q3 : (i : Int) < ((gen (orF a b) a.length i).length : Int) := by omega
    have hs := gen_set (f := orF a b) (n := a.length) (i := i) (by omega)
    refine Evn.succ ?_
    simp only [spec_reBoth.l0, e1, rd_b, if_pos q0, if_pos q1, if_pos q2, if_pos q3, Int.toNat_natCast]
    by_cases c : bd a i = true
    · have : orF a b i = true := by unfold orF; rw [c]; rfl
      rw [this] at hs
      simp only [if_pos c, hs]
      exact ih (i + 1) (by omega)
    · have : orF a b i = bd b i := by unfold orF; rw [Bool.eq_false_iff.2 c]; rfl
      rw [this] at hs
      simp only [if_neg c, hs]
      exact ih (i + 1) (by omega)
theorem gen_zero (f : Nat → Bool) (n : Nat) : gen f n 0 = List.replicate n false := by unfold gen; simp
theorem ev_both (a b : List Bool) (h : b.length = a.length) (hl : a.length ≤ 100001) : Evn (fun k => spec_reBoth.f k a b) (gen (orF a b) a.length a.length) := by
  have := ev_bothL a b h hl a.length 0 (by omega)
  rw [gen_zero] at this
  refine Evn.congr this fun k => ?_
  unfold spec_reBoth.f
  rw [if_pos (by omega), if_pos (by omega), Int.toNat_natCast]
  rfl

theorem ev_freshL (a b : List Bool) (h : b.length = a.length) (hl : a.length ≤ 100001) : ∀ m i, i + m = a.length → Evn (fun k => spec_reFresh.l0 k a b (gen (frF a b) a.length i) (a.length : Int) (i : Int)) (gen (frF a b) a.length a.length) := by
  intro m
  induction m with
  | zero =>
    intro i hi
    obtain rfl : i = a.length := by omega
    refine Evn.succ (Evn.congr (Evn.const _) fun k => ?_)
    simp only [spec_reFresh.l0]
    rw [if_neg (by omega)]
  | succ m ih =>
    intro i hi
    have e1 : wrap64 ((i : Int) + 1) = ((i + 1 : Nat) : Int) := Go.Proofs.YtofkpinikkfmeaaDoor.EvN.wrap_nat i 1 (by omega)
    have hg := gen_len (f := frF a b) (n := a.length) (i := i) (by omega)
    have q0 : (i : Int) < (a.length : Int) := by omega
    have q1 : (0 : Int) ≤ (i : Int) := by omega
    have q2 : (i : Int) < (b.length : Int) := by omega
    have q3 : (i : Int) < ((gen (frF a b) a.length i).length : Int) := by omega
    have hs := gen_set (f := frF a b) (n := a.length) (i := i) (by omega)
    refine Evn.succ ?_
    simp only [spec_reFresh.l0, e1, rd_b, if_pos q0, if_pos q1, if_pos q2, if_pos q3, Int.toNat_natCast]
    by_cases c : bd b i = true
    · have : frF a b i = !bd a i := by unfold frF; rw [c]; rfl
      rw [this] at hs
      simp only [if_pos c, hs]
      exact ih (i + 1) (by omega)
    · have : frF a b i = false := by unfold frF; rw [Bool.eq_false_iff.2 c]; rfl
      rw [this] at hs
      simp only [if_neg c, hs]
      exact ih (i + 1) (by omega)
theorem ev_fresh (a b : List Bool) (h : b.length = a.length) (hl : a.length ≤ 100001) : Evn (fun k => spec_reFresh.f k a b) (gen (frF a b) a.length a.length) := by
  have := ev_freshL a b h hl a.length 0 (by omega)
  rw [gen_zero] at this
  refine Evn.congr this fun k => ?_
  unfold spec_reFresh.f
  rw [if_pos (by omega), if_pos (by omega), Int.toNat_natCast]
  rfl

theorem ev_growsL (a b : List Bool) (h : b.length = a.length) (hl : a.length ≤ 100001) : ∀ m i, i + m = a.length → ∃ r, Evn (fun k => spec_reGrows.l0 k a b (a.length : Int) (i : Int)) r := by
  intro m
  induction m with
  | zero =>
    intro i hi
    obtain rfl : i = a.length := by omega
    refine ⟨false, Evn.succ (Evn.congr (Evn.const _) fun k => ?_)⟩
    simp only [spec_reGrows.l0]
    rw [if_neg (by omega)]
  | succ m ih =>
    intro i hi
    have e1 : wrap64 ((i : Int) + 1) = ((i + 1 : Nat) : Int) := Go.Proofs.YtofkpinikkfmeaaDoor.EvN.wrap_nat i 1 (by omega)
    have q0 : (i : Int) < (a.length : Int) := by omega
    have q1 : (0 : Int) ≤ (i : Int) := by omega
    have q2 : (i : Int) < (b.length : Int) := by omega
    obtain ⟨r, hr⟩ := ih (i + 1) (by omega)
    by_cases c : bd b i = true
    · by_cases d : bd a i = true
      · refine ⟨r, Evn.succ ?_⟩
        simp only [spec_reGrows.l0, e1, rd_b, if_pos q0, if_pos q1, if_pos q2, if_pos c, if_pos d]
        exact hr
      · refine ⟨true, Evn.succ ?_⟩
        simp only [spec_reGrows.l0, e1, rd_b, if_pos q0, if_pos q1, if_pos q2, if_pos c, if_neg d]
        exact Evn.const _
    · refine ⟨r, Evn.succ ?_⟩
      simp only [spec_reGrows.l0, e1, rd_b, if_pos q0, if_pos q1, if_pos q2, if_neg c]
      exact hr
theorem ev_grows (a b : List Bool) (h : b.length = a.length) (hl : a.length ≤ 100001) : ∃ r, Evn (fun k => spec_reGrows.f k a b) r := ev_growsL a b h hl a.length 0 (by omega)

/-- Whether a row from place i on has a true one. -/
def anyB (l : List Bool) : Nat → Nat → Bool
  | 0, _ => false
  | m + 1, i => bd l i || anyB l m (i + 1)
theorem anyB_iff (l : List Bool) : ∀ m i, anyB l m i = true ↔ ∃ j, i ≤ j ∧ j < i + m ∧ l[j]? = some true
  | 0, i => by simp [anyB]; omega
  | m + 1, i => by
    rw [anyB, Bool.or_eq_true, anyB_iff l m (i + 1), bd_iff]
    constructor
    · rintro (h | ⟨j, h1, h2, h3⟩)
      · exact ⟨i, Nat.le_refl _, by omega, h⟩
      · exact ⟨j, by omega, by omega, h3⟩
    · rintro ⟨j, h1, h2, h3⟩
      by_cases e : j = i
      · subst e; exact .inl h3
      · exact .inr ⟨j, by omega, by omega, h3⟩
theorem ev_anyL (a : List Bool) (hl : a.length ≤ 100001) : ∀ m i, i + m = a.length → Evn (fun k => spec_reAny.l0 k a (a.length : Int) (i : Int)) (anyB a m i) := by
  intro m
  induction m with
  | zero =>
    intro i hi
    obtain rfl : i = a.length := by omega
    refine Evn.succ (Evn.congr (Evn.const _) fun k => ?_)
    simp only [spec_reAny.l0]
    rw [if_neg (by omega)]
    rfl
  | succ m ih =>
    intro i hi
    have e1 : wrap64 ((i : Int) + 1) = ((i + 1 : Nat) : Int) := Go.Proofs.YtofkpinikkfmeaaDoor.EvN.wrap_nat i 1 (by omega)
    have q0 : (i : Int) < (a.length : Int) := by omega
    have q1 : (0 : Int) ≤ (i : Int) := by omega
    refine Evn.succ ?_
    rw [anyB]
    simp only [spec_reAny.l0, e1, rd_b, if_pos q0, if_pos q1]
    by_cases c : bd a i = true
    · simp only [if_pos c, c, Bool.true_or]
      exact Evn.const _
    · simp only [if_neg c, Bool.eq_false_iff.2 c, Bool.false_or]
      exact ih (i + 1) (by omega)
theorem ev_any (a : List Bool) (hl : a.length ≤ 100001) : Evn (fun k => spec_reAny.f k a) (anyB a a.length 0) := ev_anyL a hl a.length 0 (by omega)

theorem Lo.or {m : Int} {l a b : List Bool} (ha : Lo m l a) (hb : Lo m l b) (n : Nat) : Lo m l (gen (orF a b) n n) := fun j hj => by
  have h := (gen_get.1 hj).2
  unfold orF at h
  rw [Bool.or_eq_true, bd_iff, bd_iff] at h
  rcases h with h | h
  · exact ha j h
  · exact hb j h
theorem Lo.fresh {m : Int} {l a b : List Bool} (hb : Lo m l b) (n : Nat) : Lo m l (gen (frF a b) n n) := fun j hj => by
  have h := (gen_get.1 hj).2
  unfold frF at h
  rw [Bool.and_eq_true, bd_iff] at h
  exact hb j h.1
end Go.Proofs.YtofkpinikkfmeaaDoor.TxFnMtLeast
