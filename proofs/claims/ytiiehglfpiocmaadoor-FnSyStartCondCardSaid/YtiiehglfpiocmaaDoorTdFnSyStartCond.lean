/- FnSyStartCond, the plain law: what leads to any way that ends holds where it begins. No walk. -/
import Derived.Test.YtiiehglfpiocmaaDoorNdFnSyStartCond
import Derived.Test.YtiiehglfpiocmaaDoorTaFnSyStartCond
import Derived.Laws.BitsLemmas
namespace Go.Proofs.YtiiehglfpiocmaaDoor.PgFnSyStartCond
open Go.RowKit Go.Proofs.YtiiehglfpiocmaaDoor.EvN Go.Proofs.YtiiehglfpiocmaaDoor.Row Go.Proofs.YtiiehglfpiocmaaDoor.Sf Go.Proofs.YtiiehglfpiocmaaDoor.PFnSyStartCond Go.Proofs.YtiiehglfpiocmaaDoorW.PrintWords Go.Proofs.YtiiehglfpiocmaaDoorW.PrintLast Go.Proofs.YtiiehglfpiocmaaDoorW.PrintMore
set_option linter.unusedSimpArgs false
set_option linter.unusedVariables false

theorem or6 (a b : Nat) (ha : a < 64) (hb : b < 64) : bits .or .i64 (a : Int) (b : Int) = ((a ||| b : Nat) : Int) ∧ bits .or .u8 (a : Int) (b : Int) = ((a ||| b : Nat) : Int) ∧ (a ||| b) < 64 :=
  ⟨(bits_nat .i64 6 (by decide) (fun n h0 h1 => by rw [IntKind.wrap_i64]; omega) a b ha hb).2, (bits_nat .u8 6 (by decide) (fun n h0 h1 => by rw [IntKind.wrap_u8]; omega) a b ha hb).2, Nat.or_lt_two_pow (n := 6) ha hb⟩
theorem and6 (a b : Nat) (ha : a < 64) (hb : b < 64) : bits .and .i64 (a : Int) (b : Int) = ((a &&& b : Nat) : Int) := (bits_nat .i64 6 (by decide) (fun n h0 h1 => by rw [IntKind.wrap_i64]; omega) a b ha hb).1
theorem cP_lt : ∀ (bm b10 am a10 wb : Bool), 0 ≤ cP bm b10 am a10 wb ∧ cP bm b10 am a10 wb < 64 := by
  unfold cP
  decide
theorem condZ_nat (b a : Int) : ∃ c : Nat, condZ b a = (c : Int) ∧ c < 64 := by
  obtain ⟨h1, h2⟩ := cP_lt (decide (b = -1)) (b == 10) (decide (a = -1)) (a == 10) (wdB b != wdB a)
  exact ⟨(condZ b a).toNat, by unfold condZ; omega, by unfold condZ; omega⟩

/-- The reference's leading conditions are those that the program tells. -/
theorem ev_lead {L : List I} {st nc most : Int} (h : PSound L st nc most) (a1 a2 : Int) : ∀ (n pc f : Nat), pc < L.length → circF L n pc = false → f < 64 → Evn (fun k => spec_SyLeading.l0 k (f : Int) (pc : Int) L a1 a2) (scF L n pc (f : Int)) := by
  intro n
  induction n with
  | zero => intro pc f _ hc _; simp [circF] at hc
  | succ n ih =>
    intro pc f hpc hc hf
    have q1 : (0 : Int) ≤ (pc : Int) := by omega
    have q2 : (pc : Int) < (L.length : Int) := by omega
    refine Evn.succ ?_
    simp only [spec_SyLeading.l0, if_pos q1, if_pos q2]
    rw [scF]
    have hstep : ¬ term (ins L pc) → circF L n (ins L pc).f1.toNat = false := fun ht => by rw [circF, if_neg ht] at hc; exact hc
    by_cases g3 : (ins L pc).f0 = 3
    · rw [if_pos g3]
      simp only [if_pos (show (rd_T31 L (pc : Int)).f0 = 3 from g3)]
      simp only [ins_nat]
      obtain ⟨x1, x2⟩ := h.arg3 pc hpc g3
      obtain ⟨o1, o2⟩ := h.outIn pc hpc (by omega)
      obtain ⟨a, ha⟩ : ∃ a : Nat, (ins L pc).f2 = (a : Int) := ⟨(ins L pc).f2.toNat, by omega⟩
      obtain ⟨o, ho⟩ : ∃ o : Nat, (ins L pc).f1 = (o : Int) := ⟨(ins L pc).f1.toNat, by omega⟩
      have hcn := hstep (by unfold term; omega)
      rw [ho, Int.toNat_natCast] at hcn
      obtain ⟨e1, e2, e3⟩ := or6 f a hf (by omega)
      rw [ha, ho, e1, e2, Int.toNat_natCast]
      exact ih o (f ||| a) (by omega) hcn e3
    · rw [if_neg g3]
      simp only [if_neg (show ¬ (rd_T31 L (pc : Int)).f0 = 3 from g3)]
      have hj : ∀ (b : Bool), (b = true ↔ ((ins L pc).f0 = 2 ∨ (ins L pc).f0 = 6)) → Evn (fun k => spec_SyLeading.j1 k (f : Int) (ins L pc).f0 b L a1 a2 (ins L pc).f0 (ins L pc).f1 (ins L pc).f2 (ins L pc).f3)
          (if (ins L pc).f0 = 5 then 255 else if (ins L pc).f0 = 2 ∨ (ins L pc).f0 = 6 then scF L n (ins L pc).f1.toNat (f : Int) else (f : Int)) := by
        intro b hb
        refine Evn.succ ?_
        simp only [spec_SyLeading.j1]
        cases b with
        | true =>
          have h26 := hb.1 rfl
          obtain ⟨o1, o2⟩ := h.outIn pc hpc (by omega)
          obtain ⟨o, ho⟩ : ∃ o : Nat, (ins L pc).f1 = (o : Int) := ⟨(ins L pc).f1.toNat, by omega⟩
          have hcn := hstep (by unfold term; omega)
          rw [ho, Int.toNat_natCast] at hcn
          simp only [if_true]
          rw [if_neg (show ¬ (ins L pc).f0 = 5 by omega), if_pos h26, ho, Int.toNat_natCast]
          exact ih o f (by omega) hcn hf
        | false =>
          have h26 : ¬ ((ins L pc).f0 = 2 ∨ (ins L pc).f0 = 6) := fun e => by have := hb.2 e; cases this
          by_cases g5 : (ins L pc).f0 = 5
          · simp only [if_pos g5, Bool.false_eq_true, if_false]; exact Evn.const _
          · rw [if_neg g5, if_neg h26]
            simp only [if_neg g5, Bool.false_eq_true, if_false]; exact Evn.const _
      by_cases g2 : (ins L pc).f0 = 2
      · simp only [if_pos (show (rd_T31 L (pc : Int)).f0 = 2 from g2)]
        simp only [ins_nat]
        exact hj _ (by rw [g2]; simp)
      · simp only [if_neg (show ¬ (rd_T31 L (pc : Int)).f0 = 2 from g2)]
        simp only [ins_nat]
        exact hj _ (by simp [g2])
theorem ev_leading {L : List I} {st nc most : Int} (h : PSound L st nc most) (t : Nat) (ht : st = (t : Int)) : Evn (fun k => spec_SyLeading.f k L st nc) (scF L L.length t 0) := by
  have hl := h.st1
  have := ev_lead h st nc L.length t 0 (by omega) (h.circ t (by omega)) (by omega)
  refine Evn.congr (g := fun k => spec_SyLeading.l0 k ((0 : Nat) : Int) (t : Int) L st nc) this fun k => ?_
  rw [spec_SyLeading.f, ht]; rfl

/-- What is reached and waits: the leading conditions hold. -/
theorem lead_holds {L : List I} {st nc most : Int} (h : PSound L st nc most) (c : Nat) (hc : c < 64) : ∀ (n m pc : Nat) (D : List Nat) (f : Nat), pc < L.length → (∀ x ∈ D, waitsB (ins L x) = false) → (∃ x ∈ rF L (c : Int) m D pc, waitsB (ins L x) = true) → f < 64 → c &&& f = f →
    ∃ v : Nat, scF L n pc (f : Int) = (v : Int) ∧ v < 64 ∧ c &&& v = v := by
  intro n
  induction n with
  | zero => intro m pc D f _ _ _ hf hs; exact ⟨f, rfl, hf, hs⟩
  | succ n ih =>
    intro m pc D f hpc hD hx hf hs
    obtain ⟨x, hx1, hx2⟩ := hx
    have hno : ∀ {E : List Nat}, (∀ y ∈ E, waitsB (ins L y) = false) → x ∈ E → False := fun hE hm => by rw [hE x hm] at hx2; cases hx2
    rw [scF]
    cases m with
    | zero => exact (hno hD hx1).elim
    | succ m =>
      rw [rF] at hx1
      by_cases h0 : pc = 0 ∨ pc ∈ D
      · rw [if_pos h0] at hx1; exact (hno hD hx1).elim
      · rw [if_neg h0] at hx1
        have hD1 : waitsB (ins L pc) = false → ∀ y ∈ D ++ [pc], waitsB (ins L y) = false := fun hw y hy => by
          rcases List.mem_append.1 hy with hy | hy
          · exact hD y hy
          · rw [List.mem_singleton.1 hy]; exact hw
        by_cases g3 : (ins L pc).f0 = 3
        · rw [if_pos g3]
          have hw : waitsB (ins L pc) = false := by unfold waitsB; simp [g3]
          rw [if_neg (by omega), if_neg (by omega), if_pos g3] at hx1
          by_cases hh : holds (c : Int) (ins L pc).f2 = true
          · rw [if_pos hh] at hx1
            obtain ⟨x1, x2⟩ := h.arg3 pc hpc g3
            obtain ⟨o1, o2⟩ := h.outIn pc hpc (by omega)
            obtain ⟨a, ha⟩ : ∃ a : Nat, (ins L pc).f2 = (a : Int) := ⟨(ins L pc).f2.toNat, by omega⟩
            obtain ⟨e1, e2, e3⟩ := or6 f a hf (by omega)
            have hca : c &&& a = a := by
              unfold holds at hh
              rw [ha, and6 c a hc (by omega)] at hh
              have := eq_of_beq hh
              omega
            rw [ha, e2]
            exact ih m _ (D ++ [pc]) (f ||| a) (by omega) (hD1 hw) ⟨x, hx1, hx2⟩ e3 (by rw [Nat.and_or_distrib_left, hs, hca])
          · rw [if_neg hh] at hx1; exact (hno (hD1 hw) hx1).elim
        · rw [if_neg g3]
          by_cases g5 : (ins L pc).f0 = 5
          · rw [if_neg (by omega), if_neg (by omega), if_neg g3] at hx1
            have hw : waitsB (ins L pc) = false := by unfold waitsB; simp [g5]
            exact (hno (hD1 hw) hx1).elim
          · rw [if_neg g5]
            by_cases g26 : (ins L pc).f0 = 2 ∨ (ins L pc).f0 = 6
            · rw [if_pos g26]
              rw [if_neg (by omega), if_pos g26] at hx1
              have hw : waitsB (ins L pc) = false := by unfold waitsB; rcases g26 with g | g <;> simp [g]
              obtain ⟨o1, o2⟩ := h.outIn pc hpc (by omega)
              exact ih m _ (D ++ [pc]) f (by omega) (hD1 hw) ⟨x, hx1, hx2⟩ hf hs
            · rw [if_neg g26]; exact ⟨f, rfl, hf, hs⟩

/-- Where a way that ends begins, the leading conditions hold. -/
theorem ends_lead {L : List I} {st nc most : Int} (h : PSound L st nc most) (t : Nat) (ht : t < L.length) (s : ByteArray) (fu : Nat) (last : Int) (i : Nat) (hne : endsF L s fu [t] last i ≠ []) :
    ∃ v c : Nat, scF L L.length t 0 = (v : Int) ∧ v < 64 ∧ condZ last (dec s i).1 = (c : Int) ∧ c < 64 ∧ c &&& v = v := by
  obtain ⟨c, hc, hc2⟩ := condZ_nat last (dec s i).1
  suffices hw : ∃ x ∈ reachA L (c : Int) [] [t], waitsB (ins L x) = true by
    obtain ⟨v, v1, v2, v3⟩ := lead_holds h c hc2 L.length (L.length + 1) t [] 0 ht (fun x hx => by cases hx) hw (by omega) (by simp)
    exact ⟨v, c, v1, v2, hc, hc2, v3⟩
  cases fu with
  | zero => exact absurd rfl hne
  | succ fu =>
    rw [endsF, if_neg (by simp), hc] at hne
    by_cases hM : hasM L (reachA L (c : Int) [] [t]) = true
    · unfold hasM at hM
      obtain ⟨x, h1, h2⟩ := List.any_eq_true.1 hM
      refine ⟨x, h1, ?_⟩
      have := eq_of_beq h2
      unfold waitsB; simp [this]
    · rw [if_neg hM, List.nil_append] at hne
      by_cases hk : (dec s i).2 = 0
      · rw [if_pos hk, endsF_nil] at hne; exact absurd rfl hne
      · rw [if_neg hk] at hne
        cases hl : nextP L (dec s i).1 (reachA L (c : Int) [] [t]) with
        | nil => rw [hl, endsF_nil] at hne; exact absurd rfl hne
        | cons y l =>
          have hy : y ∈ nextP L (dec s i).1 (reachA L (c : Int) [] [t]) := by rw [hl]; simp
          unfold nextP at hy
          obtain ⟨pc, h1, _⟩ := List.mem_map.1 hy
          obtain ⟨h2, h3⟩ := List.mem_filter.1 h1
          unfold goes at h3
          simp only [Bool.and_eq_true] at h3
          exact ⟨pc, h2, h3.1.2⟩
end Go.Proofs.YtiiehglfpiocmaaDoor.PgFnSyStartCond
