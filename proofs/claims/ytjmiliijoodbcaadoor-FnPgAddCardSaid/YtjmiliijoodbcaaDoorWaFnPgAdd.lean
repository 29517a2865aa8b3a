/- FnPgAdd, the plain law: what the printed parts answer, and that the machine's queue is the one that the definition tells. No walk. -/
import Derived.Test.YtjmiliijoodbcaaDoorVbFnPgAdd
namespace Go.Proofs.YtjmiliijoodbcaaDoor.PgFnPgAdd
open Go.RowKit Go.Proofs.YtjmiliijoodbcaaDoor.EvN Go.Proofs.YtjmiliijoodbcaaDoor.Row Go.Proofs.YtjmiliijoodbcaaDoor.PFnPgAdd Go.Proofs.YtjmiliijoodbcaaDoorW.PrintWords Go.Proofs.YtjmiliijoodbcaaDoorW.PrintLast Go.Proofs.YtjmiliijoodbcaaDoorW.PrintMore

/-- What a row of instructions puts in. -/
def aFl (L : List I) (cond pos : Int) (C : List Int) (A : List Ae) (pcs : List Nat) : List Ae := pcs.foldl (fun A pc => A ++ aF L cond pos (L.length + 1) (A.map Prod.fst) pc C) A
theorem aFl_take (L : List I) (cond pos : Int) (C : List Int) (A : List Ae) (pcs : List Nat) (k : Nat) (h : k < pcs.length) :
    aFl L cond pos C A (pcs.take (k + 1)) = aFl L cond pos C A (pcs.take k) ++ aF L cond pos (L.length + 1) ((aFl L cond pos C A (pcs.take k)).map Prod.fst) pcs[k] C := by
  unfold aFl
  rw [List.take_succ_eq_append_getElem h, List.foldl_append]; rfl
theorem aFl_reach (L : List I) (cond pos : Int) (C : List Int) (pcs : List Nat) : ∀ A : List Ae, (aFl L cond pos C A pcs).map Prod.fst = reachA L cond (A.map Prod.fst) pcs := by
  induction pcs with
  | nil => intro A; rfl
  | cons pc pcs ih =>
    intro A
    show (aFl L cond pos C (A ++ aF L cond pos (L.length + 1) (A.map Prod.fst) pc C) pcs).map Prod.fst = reachA L cond (rF L cond (L.length + 1) (A.map Prod.fst) pc) pcs
    rw [ih, List.map_append, aF_rF]
theorem aF_waits (L : List I) (cond pos : Int) : ∀ (n : Nat) (D : List Nat) (pc : Nat) (C : List Int), ∀ a ∈ aF L cond pos n D pc C, a.2.isSome = waitsB (ins L a.1) := by
  intro n
  induction n with
  | zero => intro D pc C a h; simp [aF] at h
  | succ n ih =>
    intro D pc C a h
    rw [aF] at h
    by_cases h0 : pc = 0 ∨ pc ∈ D
    · rw [if_pos h0] at h; cases h
    · rw [if_neg h0] at h
      by_cases g0 : (ins L pc).f0 = 0
      · rw [if_pos g0] at h
        rcases List.mem_cons.1 h with rfl | h
        · simp [waitsB, g0]
        · rcases List.mem_append.1 h with h | h <;> exact ih _ _ _ a h
      · rw [if_neg g0] at h
        by_cases g6 : (ins L pc).f0 = 6
        · rw [if_pos g6] at h
          rcases List.mem_cons.1 h with rfl | h
          · simp [waitsB, g6]
          · exact ih _ _ _ a h
        · rw [if_neg g6] at h
          by_cases g2 : (ins L pc).f0 = 2
          · rw [if_pos g2] at h
            rcases List.mem_cons.1 h with rfl | h
            · simp [waitsB, g2]
            · exact ih _ _ _ a h
          · rw [if_neg g2] at h
            by_cases g3 : (ins L pc).f0 = 3
            · rw [if_pos g3] at h
              rcases List.mem_cons.1 h with rfl | h
              · simp [waitsB, g3]
              · by_cases hh : holds cond (ins L pc).f2 = true
                · rw [if_pos hh] at h; exact ih _ _ _ a h
                · rw [if_neg hh] at h; cases h
            · rw [if_neg g3] at h
              by_cases g5 : (ins L pc).f0 = 5
              · rw [if_pos g5] at h
                rcases List.mem_cons.1 h with rfl | h
                · simp [waitsB, g5]
                · cases h
              · rw [if_neg g5] at h
                rcases List.mem_cons.1 h with rfl | h
                · simp [waitsB, g0, g6, g2, g3, g5]
                · cases h
theorem aFl_waits (L : List I) (cond pos : Int) (C : List Int) (pcs : List Nat) : ∀ A : List Ae, (∀ a ∈ A, a.2.isSome = waitsB (ins L a.1)) → ∀ a ∈ aFl L cond pos C A pcs, a.2.isSome = waitsB (ins L a.1) := by
  induction pcs with
  | nil => intro A h; exact h
  | cons pc pcs ih =>
    intro A h
    refine ih _ fun a ha => ?_
    rcases List.mem_append.1 ha with ha | ha
    · exact h a ha
    · exact aF_waits L cond pos _ _ _ _ a ha
/-- The machine's queue tells what the definition tells. -/
theorem queue_reach {w : World} {ad : Addr} {n cc : Nat} {L : List I} {cond pos : Int} {C : List Int} {pcs : List Nat} {E : List En} (h : Rel w ad n cc E (aFl L cond pos C [] pcs)) :
    E.map (fun e => ((e.1 : Nat) : Int)) = (reachA L cond [] pcs).map (fun x : Nat => (x : Int)) ∧ E.map (fun e => e.2.isSome) = (reachA L cond [] pcs).map fun x => waitsB (ins L x) := by
  have e1 := h.fst
  have e2 := aFl_reach L cond pos C pcs []
  rw [List.map_nil] at e2
  rw [← e2]
  refine ⟨?_, ?_⟩
  · rw [← e1, List.map_map]; rfl
  · rw [h.some, List.map_map]
    exact List.map_congr_left (aFl_waits L cond pos C pcs [] fun a ha => by cases ha)

/-- The rows' lengths that the statement speaks of. -/
theorem ev_fits4 (L : List I) (hL : L.length ≤ 2147483647) : ∀ (n i : Nat), L.length = i + n → Evn (fun k => laws_zzFits4.l0 k L (L.length : Int) (i : Int)) ((L.drop i).all fun x => decide (x.f3.length ≤ 2147483647)) := by
  intro n
  induction n with
  | zero =>
    intro i hi
    refine Evn.succ (Evn.congr (Evn.const _) fun k => ?_)
    simp only [laws_zzFits4.l0]
    rw [if_neg (by omega), List.drop_eq_nil_of_le (by omega)]; rfl
  | succ n ih =>
    intro i hi
    have e1 : wrap64 ((i : Int) + 1) = ((i + 1 : Nat) : Int) := wrap_nat i 1 (by omega)
    have hx : rd_T60 L (i : Int) = L[i]'(by omega) := by
      rw [ins_nat]; unfold ins; rw [List.getD_eq_getElem?_getD, List.getElem?_eq_getElem (show i < L.length by omega)]; rfl
    rw [List.drop_eq_getElem_cons (show i < L.length by omega), List.all_cons]
    refine Evn.succ ?_
    have q1 : (i : Int) < (L.length : Int) := by omega
    have q2 : (0 : Int) ≤ (i : Int) := by omega
    simp only [laws_zzFits4.l0, if_pos q1, if_pos q2, e1, hx, laws_zzFits5.f]
    by_cases h5 : ((L[i]'(by omega)).f3.length : Int) > 2147483647
    · have h6 : decide ((L[i]'(by omega)).f3.length ≤ 2147483647) = false := decide_eq_false (by omega)
      simp only [if_pos h5, h6, Bool.false_and, Option.bind_some, Bool.false_eq_true, if_false]
      exact Evn.const _
    · have h6 : decide ((L[i]'(by omega)).f3.length ≤ 2147483647) = true := decide_eq_true (by omega)
      simp only [if_neg h5, h6, Bool.true_and, Option.bind_some, if_true]
      exact ih (i + 1) (by omega)
def fits (L : List I) : Bool := decide (L.length ≤ 2147483647) && L.all fun x => decide (x.f3.length ≤ 2147483647)
theorem ev_fits (L : List I) (st nc : Int) : Evn (fun k => laws_zzFits3.f k L st nc) (fits L) := by
  have h4 : Evn (fun k => laws_zzFits4.f k L) (fits L) := by
    by_cases h : (L.length : Int) > 2147483647
    · have : fits L = false := by simp [fits]; intro h2; omega
      rw [this]
      exact Evn.congr (Evn.const _) fun k => by simp only [laws_zzFits4.f]; rw [if_pos h]
    · have e : fits L = ((L.drop 0).all fun x => decide (x.f3.length ≤ 2147483647)) := by
        unfold fits; rw [decide_eq_true (by omega), Bool.true_and, List.drop_zero]
      rw [e]
      exact Evn.congr (g := fun k => laws_zzFits4.l0 k L (L.length : Int) 0) (ev_fits4 L (by omega) L.length 0 (by omega)) fun k => by simp only [laws_zzFits4.f]; rw [if_neg h]
  refine Evn.congr (g := fun k => (laws_zzFits4.f k L).bind fun t => if t = true then some true else some false) (Evn.bind (g := fun _ t => if t = true then some true else some false) h4 (Evn.congr (Evn.const _) fun k => ?_)) fun k => rfl
  cases fits L <;> rfl

/-- What is put in: instructions of the program. -/
def inB (N : Nat) (x : Int) : Bool := decide (0 ≤ x) && decide (x < (N : Int))
def putB (L : List I) (st nc : Int) (pcs : List Int) (b a : Int) : Bool :=
  decide (pcs.length ≤ 100) && psnd L st nc 2000 && decide (-1 ≤ b) && decide (-1 ≤ a) && decide (b ≤ 1114111) && decide (a ≤ 1114111) && pcs.all (inB L.length)
theorem ev_in (L : List I) (st nc : Int) (pcs : List Int) (hp : pcs.length ≤ 100) : ∀ (n i : Nat), pcs.length = i + n → Evn (fun k => laws_pgPut.l0 k pcs (pcs.length : Int) (i : Int) L st nc) ((pcs.drop i).all (inB L.length)) := by
  intro n
  induction n with
  | zero =>
    intro i hi
    refine Evn.succ (Evn.congr (Evn.const _) fun k => ?_)
    simp only [laws_pgPut.l0]
    rw [if_neg (by omega), List.drop_eq_nil_of_le (by omega)]; rfl
  | succ n ih =>
    intro i hi
    have e1 : wrap64 ((i : Int) + 1) = ((i + 1 : Nat) : Int) := wrap_nat i 1 (by omega)
    rw [List.drop_eq_getElem_cons (show i < pcs.length by omega), List.all_cons]
    refine Evn.succ ?_
    have q1 : (i : Int) < (pcs.length : Int) := by omega
    have q2 : (0 : Int) ≤ (i : Int) := by omega
    simp only [laws_pgPut.l0, if_pos q1, if_pos q2, e1, rd_nat pcs i (by omega)]
    by_cases h1 : pcs[i]'(by omega) < 0
    · have : inB L.length (pcs[i]'(by omega)) = false := by unfold inB; rw [decide_eq_false (by omega)]; rfl
      simp only [if_pos h1, this, Bool.false_and]; exact Evn.const _
    · by_cases h2 : pcs[i]'(by omega) ≥ (L.length : Int)
      · have : inB L.length (pcs[i]'(by omega)) = false := by unfold inB; rw [decide_eq_false (by omega : ¬ pcs[i]'(by omega) < (L.length : Int)), Bool.and_false]
        simp only [if_neg h1, if_pos h2, this, Bool.false_and]; exact Evn.const _
      · have : inB L.length (pcs[i]'(by omega)) = true := by unfold inB; rw [decide_eq_true (by omega), decide_eq_true (by omega)]; rfl
        simp only [if_neg h1, if_neg h2, this, Bool.true_and]
        exact ih (i + 1) (by omega)
theorem ev_put (L : List I) (st nc : Int) (pcs : List Int) (b a : Int) (hL : L.length ≤ 4611686018427387000) (hr : ∀ i ∈ L, i.f3.length ≤ 4611686018427387000) : Evn (fun k => laws_pgPut.f k L st nc pcs b a a) (putB L st nc pcs b a) := by
  have hj : ∀ x, Evn (fun k => laws_pgPut.j0 k pcs true x st nc) false := fun x => Evn.succ (Evn.congr (Evn.const _) fun k => by simp [laws_pgPut.j0])
  unfold putB
  simp only [laws_pgPut.f]
  by_cases h1 : (pcs.length : Int) > 100
  · rw [decide_eq_false (by omega : ¬ pcs.length ≤ 100)]
    simp only [if_pos h1, Bool.false_and]; exact hj L
  · rw [decide_eq_true (by omega : pcs.length ≤ 100)]
    simp only [if_neg h1, Bool.true_and]
    refine Evn.bind (g := fun k t => if t = true then _ else _) (ev_psnd L st nc 2000 hL hr) ?_
    cases hs : psnd L st nc 2000 with
    | false => simp only [Bool.false_eq_true, if_false, Bool.false_and]; exact hj L
    | true =>
      simp only [if_true, Bool.true_and]
      by_cases b0 : b < -1
      · rw [decide_eq_false (by omega : ¬ -1 ≤ b)]; simp only [if_pos b0, Bool.false_and]; exact hj L
      · rw [decide_eq_true (by omega : -1 ≤ b)]; simp only [if_neg b0, Bool.true_and]
        by_cases a0 : a < -1
        · rw [decide_eq_false (by omega : ¬ -1 ≤ a)]; simp only [if_pos a0, Bool.false_and]; exact hj L
        · rw [decide_eq_true (by omega : -1 ≤ a)]; simp only [if_neg a0, Bool.true_and]
          by_cases b1 : b > 1114111
          · rw [decide_eq_false (by omega : ¬ b ≤ 1114111)]; simp only [if_pos b1, Bool.false_and]; exact hj L
          · rw [decide_eq_true (by omega : b ≤ 1114111)]; simp only [if_neg b1, Bool.true_and]
            by_cases a1 : a > 1114111
            · rw [decide_eq_false (by omega : ¬ a ≤ 1114111)]; simp only [if_pos a1, Bool.false_and]; exact hj L
            · rw [decide_eq_true (by omega : a ≤ 1114111)]; simp only [if_neg a1, Bool.true_and, decide_eq_false a1]
              refine Evn.succ (Evn.congr (g := fun k => laws_pgPut.l0 k pcs (pcs.length : Int) 0 L st nc) ?_ fun k => by simp [laws_pgPut.j0])
              have := ev_in L st nc pcs (by omega) pcs.length 0 (by omega)
              rw [List.drop_zero] at this
              exact this
structure Put (L : List I) (st nc : Int) (pcs : List Int) (b a : Int) : Prop where
  pl : pcs.length ≤ 100
  snd : psnd L st nc 2000 = true
  b0 : -1 ≤ b
  a0 : -1 ≤ a
  b1 : b ≤ 1114111
  a1 : a ≤ 1114111
  pi : ∃ qs : List Nat, pcs = qs.map (fun x : Nat => (x : Int)) ∧ ∀ q ∈ qs, q < L.length
theorem put_says {L : List I} {st nc : Int} {pcs : List Int} {b a : Int} (h : putB L st nc pcs b a = true) : Put L st nc pcs b a := by
  unfold putB at h
  simp only [Bool.and_eq_true, decide_eq_true_eq] at h
  obtain ⟨⟨⟨⟨⟨⟨h1, h2⟩, h3⟩, h4⟩, h5⟩, h6⟩, h7⟩ := h
  refine ⟨h1, h2, h3, h4, h5, h6, pcs.map Int.toNat, ?_, fun q hq => ?_⟩
  · rw [List.map_map]
    refine (List.map_id pcs).symm.trans (List.map_congr_left fun x hx => ?_)
    have := List.all_eq_true.1 h7 x hx
    simp [inB] at this
    simp; omega
  · obtain ⟨x, hx, rfl⟩ := List.mem_map.1 hq
    have := List.all_eq_true.1 h7 x hx
    simp [inB] at this
    omega

theorem ev_intsL (l : List Int) (hl : l.length ≤ 4000) (hx : ∀ x ∈ l, 0 ≤ x ∧ x < 4294967296) : ∀ (n i : Nat), l.length = i + n → Evn (fun k => impl_ints.l0 k (l.take i) l (l.length : Int) (i : Int)) l := by
  intro n
  induction n with
  | zero =>
    intro i hi
    refine Evn.succ (Evn.congr (Evn.const _) fun k => ?_)
    simp only [impl_ints.l0]
    rw [if_neg (by omega), List.take_of_length_le (by omega)]
  | succ n ih =>
    intro i hi
    have e1 : wrap64 ((i : Int) + 1) = ((i + 1 : Nat) : Int) := wrap_nat i 1 (by omega)
    refine Evn.succ ?_
    have q1 : (i : Int) < (l.length : Int) := by omega
    have q2 : (0 : Int) ≤ (i : Int) := by omega
    have q3 : (l.take i).length < 17592186044416 := by rw [List.length_take]; omega
    have hb := hx _ (List.getElem_mem (show i < l.length by omega))
    have e2 : wrap64 (l[i]'(by omega)) = l[i]'(by omega) := by unfold wrap64; omega
    simp only [impl_ints.l0, if_pos q1, if_pos q2, if_pos q3, e1, rd_nat l i (by omega), e2]
    rw [← List.take_succ_eq_append_getElem (show i < l.length by omega)]
    exact ih (i + 1) (by omega)
theorem ev_ints (l : List Int) (hl : l.length ≤ 4000) (hx : ∀ x ∈ l, 0 ≤ x ∧ x < 4294967296) : Evn (fun k => impl_ints.f k l) l :=
  Evn.congr (g := fun k => impl_ints.l0 k (l.take 0) l (l.length : Int) 0) (ev_intsL l hl hx l.length 0 (by omega)) fun k => rfl
theorem ev_sameIntsL (l : List Int) (hl : l.length ≤ 4611686018427387000) : ∀ (n i : Nat), l.length = i + n → Evn (fun k => spec_SameInts.l0 k l l (l.length : Int) (i : Int)) true := by
  intro n
  induction n with
  | zero =>
    intro i hi
    refine Evn.succ (Evn.congr (Evn.const _) fun k => ?_)
    simp only [spec_SameInts.l0]
    rw [if_neg (by omega)]
  | succ n ih =>
    intro i hi
    have e1 : wrap64 ((i : Int) + 1) = ((i + 1 : Nat) : Int) := wrap_nat i 1 (by omega)
    refine Evn.succ ?_
    have q1 : (i : Int) < (l.length : Int) := by omega
    have q2 : (0 : Int) ≤ (i : Int) := by omega
    simp only [spec_SameInts.l0, if_pos q1, if_pos q2, e1, if_true]
    exact ih (i + 1) (by omega)
theorem ev_sameInts (l : List Int) (hl : l.length ≤ 4611686018427387000) : Evn (fun k => spec_SameInts.f k l l) true :=
  Evn.congr (g := fun k => spec_SameInts.l0 k l l (l.length : Int) 0) (ev_sameIntsL l hl l.length 0 (by omega)) fun k => by simp only [spec_SameInts.f, if_true]
theorem ev_sameBoolsL (l : List Bool) (hl : l.length ≤ 4611686018427387000) : ∀ (n i : Nat), l.length = i + n → Evn (fun k => spec_SameBools.l0 k l l (l.length : Int) (i : Int)) true := by
  intro n
  induction n with
  | zero =>
    intro i hi
    refine Evn.succ (Evn.congr (Evn.const _) fun k => ?_)
    simp only [spec_SameBools.l0]
    rw [if_neg (by omega)]
  | succ n ih =>
    intro i hi
    have e1 : wrap64 ((i : Int) + 1) = ((i + 1 : Nat) : Int) := wrap_nat i 1 (by omega)
    refine Evn.succ ?_
    have q1 : (i : Int) < (l.length : Int) := by omega
    have q2 : (0 : Int) ≤ (i : Int) := by omega
    simp only [spec_SameBools.l0, if_pos q1, if_pos q2, e1, bne_self_eq_false, Bool.false_eq_true, if_false]
    exact ih (i + 1) (by omega)
theorem ev_sameBools (l : List Bool) (hl : l.length ≤ 4611686018427387000) : Evn (fun k => spec_SameBools.f k l l) true :=
  Evn.congr (g := fun k => spec_SameBools.l0 k l l (l.length : Int) 0) (ev_sameBoolsL l hl l.length 0 (by omega)) fun k => by simp only [spec_SameBools.f, if_true]
end Go.Proofs.YtjmiliijoodbcaaDoor.PgFnPgAdd
