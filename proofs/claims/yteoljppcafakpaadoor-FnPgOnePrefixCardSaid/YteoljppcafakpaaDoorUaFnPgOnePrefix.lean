/- What is reached without a character, as a relation; the places at which ways end depend on what waits alone. No walk. -/
import Derived.Test.YteoljppcafakpaaDoorTaFnPgOnePrefix
import Derived.Test.YteoljppcafakpaaDoorPiFnPgOnePrefix
namespace Go.Proofs.YteoljppcafakpaaDoor.PgFnPgOnePrefix
open Go.RowKit Go.Proofs.YteoljppcafakpaaDoor.EvN Go.Proofs.YteoljppcafakpaaDoor.Row Go.Proofs.YteoljppcafakpaaDoor.Sf Go.Proofs.YteoljppcafakpaaDoor.PFnPgOnePrefix Go.Proofs.YteoljppcafakpaaDoorW.PrintWords Go.Proofs.YteoljppcafakpaaDoorW.PrintLast Go.Proofs.YteoljppcafakpaaDoorW.PrintMore
set_option linter.unusedSimpArgs false
set_option linter.unusedVariables false

/-- The instructions right behind one, without a character. -/
def succs (L : List I) (cond : Int) (x : Nat) : List Nat :=
  if (ins L x).f0 = 0 then [(ins L x).f1.toNat, (ins L x).f2.toNat]
  else if (ins L x).f0 = 2 ∨ (ins L x).f0 = 6 then [(ins L x).f1.toNat]
  else if (ins L x).f0 = 3 then (if holds cond (ins L x).f2 = true then [(ins L x).f1.toNat] else [])
  else []
/-- One is reached from another. -/
inductive Rch (L : List I) (cond : Int) : Nat → Nat → Prop
  | refl (x : Nat) : Rch L cond x x
  | step (x y z : Nat) : y ∈ succs L cond x → Rch L cond y z → Rch L cond x z
theorem Rch.trans {L : List I} {cond : Int} {x y z : Nat} (h : Rch L cond x y) (k : Rch L cond y z) : Rch L cond x z := by
  induction h with
  | refl x => exact k
  | step x y z hs _ ih => exact .step x y _ hs (ih k)

structure Dfs (L : List I) (cond : Int) (D : List Nat) (pc : Nat) (R : List Nat) : Prop where
  at_ : pc = 0 ∨ pc ∈ R
  sub : ∀ x ∈ D, x ∈ R
  rch : ∀ x ∈ R, x ∈ D ∨ Rch L cond pc x
  cls : ∀ x ∈ R, x ∈ D ∨ ∀ y ∈ succs L cond x, y = 0 ∨ y ∈ R
  nz : ∀ x ∈ R, x ∈ D ∨ x ≠ 0

theorem rF_dfs {L : List I} {cond : Int} (hl : Leads L) : ∀ (n : Nat) (D : List Nat) (pc : Nat), Fine L.length D → pc < L.length → L.length + 1 ≤ n + D.length → Dfs L cond D pc (rF L cond n D pc) := by
  intro n
  induction n with
  | zero => intro D pc h hp hn; have := h.len; omega
  | succ n ih =>
    intro D pc h hp hn
    rw [rF]
    by_cases h0 : pc = 0 ∨ pc ∈ D
    · rw [if_pos h0]
      exact ⟨h0, fun x hx => hx, fun x hx => .inl hx, fun x hx => .inl hx, fun x hx => .inl hx⟩
    · rw [if_neg h0]
      have hpz : pc ≠ 0 := fun e => h0 (.inl e)
      have h1 := h.add hp (fun e => h0 (.inr e))
      have hlen : (D ++ [pc]).length = D.length + 1 := by simp
      have base : succs L cond pc = [] → Dfs L cond D pc (D ++ [pc]) := fun hs => by
        refine ⟨.inr (by simp), fun x hx => by simp [hx], fun x hx => ?_, fun x hx => ?_, fun x hx => ?_⟩
        all_goals
          rcases List.mem_append.1 hx with hx | hx
          · exact .inl hx
          · simp only [List.mem_singleton] at hx; subst hx
            first | exact .inr (.refl _) | exact .inr hpz | (right; rw [hs]; intro y hy; cases hy)
      have one : ∀ o, succs L cond pc = [o] → o < L.length → Dfs L cond D pc (rF L cond n (D ++ [pc]) o) := fun o hs ho => by
        have k := ih (D ++ [pc]) o h1 ho (by omega)
        have hin : pc ∈ rF L cond n (D ++ [pc]) o := k.sub pc (by simp)
        refine ⟨.inr hin, fun x hx => k.sub x (by simp [hx]), fun x hx => ?_, fun x hx => ?_, fun x hx => ?_⟩
        · rcases k.rch x hx with e | e
          · rcases List.mem_append.1 e with e | e
            · exact .inl e
            · simp only [List.mem_singleton] at e; subst e; exact .inr (.refl _)
          · exact .inr (.step _ o _ (by rw [hs]; simp) e)
        · rcases k.cls x hx with e | e
          · rcases List.mem_append.1 e with e | e
            · exact .inl e
            · simp only [List.mem_singleton] at e; subst e
              right; rw [hs]; intro y hy; simp only [List.mem_singleton] at hy; subst hy; exact k.at_
          · exact .inr e
        · rcases k.nz x hx with e | e
          · rcases List.mem_append.1 e with e | e
            · exact .inl e
            · simp only [List.mem_singleton] at e; subst e; exact .inr hpz
          · exact .inr e
      by_cases g0 : (ins L pc).f0 = 0
      · rw [if_pos g0]
        have hs : succs L cond pc = [(ins L pc).f1.toNat, (ins L pc).f2.toNat] := by unfold succs; rw [if_pos g0]
        obtain ⟨o1, o2⟩ := hl.out pc hp (by omega)
        obtain ⟨a1, a2⟩ := hl.arg pc hp g0
        have k1 := ih (D ++ [pc]) (ins L pc).f1.toNat h1 (by omega) (by omega)
        obtain ⟨i1, i2⟩ := rF_fine hl n (D ++ [pc]) (ins L pc).f1.toNat (cond := cond) h1 (by omega)
        have k2 := ih _ (ins L pc).f2.toNat i1 (by omega) (by omega)
        have hin : pc ∈ rF L cond n (rF L cond n (D ++ [pc]) (ins L pc).f1.toNat) (ins L pc).f2.toNat := k2.sub _ (k1.sub pc (by simp))
        have back : ∀ {x}, x ∈ D ++ [pc] → x ∈ D ∨ x = pc := fun {x} e => by
          rcases List.mem_append.1 e with e | e
          · exact .inl e
          · simp only [List.mem_singleton] at e; exact .inr e
        refine ⟨.inr hin, fun x hx => k2.sub x (k1.sub x (by simp [hx])), fun x hx => ?_, fun x hx => ?_, fun x hx => ?_⟩
        · rcases k2.rch x hx with e | e
          · rcases k1.rch x e with e | e
            · rcases back e with e | rfl
              · exact .inl e
              · exact .inr (.refl _)
            · exact .inr (.step _ _ _ (by rw [hs]; simp) e)
          · exact .inr (.step _ (ins L pc).f2.toNat _ (by rw [hs]; simp) e)
        · rcases k2.cls x hx with e | e
          · rcases k1.cls x e with e | e
            · rcases back e with e | rfl
              · exact .inl e
              · right; rw [hs]; intro y hy
                simp only [List.mem_cons, List.not_mem_nil, or_false] at hy
                rcases hy with rfl | rfl
                · rcases k1.at_ with e | e
                  · exact .inl e
                  · exact .inr (k2.sub _ e)
                · exact k2.at_
            · right; intro y hy
              rcases e y hy with e | e
              · exact .inl e
              · exact .inr (k2.sub _ e)
          · exact .inr e
        · rcases k2.nz x hx with e | e
          · rcases k1.nz x e with e | e
            · rcases back e with e | rfl
              · exact .inl e
              · exact .inr hpz
            · exact .inr e
          · exact .inr e
      · rw [if_neg g0]
        by_cases g26 : (ins L pc).f0 = 2 ∨ (ins L pc).f0 = 6
        · rw [if_pos g26]
          obtain ⟨o1, o2⟩ := hl.out pc hp (by omega)
          exact one _ (by unfold succs; rw [if_neg g0, if_pos g26]) (by omega)
        · rw [if_neg g26]
          by_cases g3 : (ins L pc).f0 = 3
          · rw [if_pos g3]
            obtain ⟨o1, o2⟩ := hl.out pc hp (by omega)
            by_cases hh : holds cond (ins L pc).f2 = true
            · rw [if_pos hh]; exact one _ (by unfold succs; rw [if_neg g0, if_neg g26, if_pos g3, if_pos hh]) (by omega)
            · rw [if_neg hh]; exact base (by unfold succs; rw [if_neg g0, if_neg g26, if_pos g3, if_neg hh])
          · rw [if_neg g3]; exact base (by unfold succs; rw [if_neg g0, if_neg g26, if_neg g3])

structure DfsA (L : List I) (cond : Int) (D : List Nat) (pcs : List Nat) (R : List Nat) : Prop where
  at_ : ∀ pc ∈ pcs, pc = 0 ∨ pc ∈ R
  sub : ∀ x ∈ D, x ∈ R
  rch : ∀ x ∈ R, x ∈ D ∨ ∃ pc ∈ pcs, Rch L cond pc x
  cls : ∀ x ∈ R, x ∈ D ∨ ∀ y ∈ succs L cond x, y = 0 ∨ y ∈ R
  nz : ∀ x ∈ R, x ∈ D ∨ x ≠ 0
theorem reachA_dfs {L : List I} {cond : Int} (hl : Leads L) (pcs : List Nat) : ∀ D, Fine L.length D → (∀ pc ∈ pcs, pc < L.length) → DfsA L cond D pcs (reachA L cond D pcs) := by
  induction pcs with
  | nil => intro D h _; exact ⟨fun x hx => by simp at hx, fun _ h => h, fun _ h => Or.inl h, fun _ h => Or.inl h, fun _ h => Or.inl h⟩
  | cons pc pcs ih =>
    intro D h hp
    have k1 := rF_dfs (cond := cond) hl (L.length + 1) D pc h (hp pc (by simp)) (by omega)
    have k2 := ih _ (rF_fine (cond := cond) hl (L.length + 1) D pc h (hp pc (by simp))).1 (fun x hx => hp x (by simp [hx]))
    refine ⟨fun x hx => ?_, fun x hx => k2.sub x (k1.sub x hx), fun x hx => ?_, fun x hx => ?_, fun x hx => ?_⟩
    · rcases List.mem_cons.1 hx with rfl | hx
      · rcases k1.at_ with e | e
        · exact .inl e
        · exact .inr (k2.sub _ e)
      · exact k2.at_ x hx
    · rcases k2.rch x hx with e | ⟨q, hq, e⟩
      · rcases k1.rch x e with e | e
        · exact .inl e
        · exact .inr ⟨pc, by simp, e⟩
      · exact .inr ⟨q, by simp [hq], e⟩
    · rcases k2.cls x hx with e | e
      · rcases k1.cls x e with e | e
        · exact .inl e
        · right; intro y hy
          rcases e y hy with e | e
          · exact .inl e
          · exact .inr (k2.sub _ e)
      · exact .inr e
    · rcases k2.nz x hx with e | e
      · exact k1.nz x e
      · exact .inr e

/-- What is in the queue: what is reached. -/
theorem mem_reach {L : List I} {st nc most : Int} (h : PSound L st nc most) (cond : Int) (pcs : List Nat) (hp : ∀ pc ∈ pcs, pc < L.length) (x : Nat) : x ∈ reachA L cond [] pcs ↔ x ≠ 0 ∧ ∃ pc ∈ pcs, Rch L cond pc x := by
  have k := reachA_dfs (cond := cond) h.leads pcs [] ⟨by simp, fun _ h => by cases h⟩ hp
  constructor
  · intro hx
    refine ⟨(k.nz x hx).resolve_left (by simp), ?_⟩
    exact (k.rch x hx).resolve_left (by simp)
  · rintro ⟨hz, pc, hpc, hr⟩
    have key : ∀ a b, Rch L cond a b → (a = 0 ∨ a ∈ reachA L cond [] pcs) → (b = 0 ∨ b ∈ reachA L cond [] pcs) := by
      intro a b hab
      induction hab with
      | refl a => exact id
      | step a y b hy _ ih =>
        intro ha
        refine ih ?_
        rcases ha with rfl | ha
        · have h5 := h.first
          unfold succs at hy
          rw [if_neg (by omega), if_neg (by omega), if_neg (by omega)] at hy
          cases hy
        · exact ((k.cls a ha).resolve_left (by simp)) y hy
    exact (key pc x hr (k.at_ pc hpc)).resolve_left hz

/-- Two rows that reach the same waiting instructions. -/
def Eqv (L : List I) (cond : Int) (p q : List Nat) : Prop := ∀ x, waitsB (ins L x) = true → (x ∈ reachA L cond [] p ↔ x ∈ reachA L cond [] q)
theorem Eqv.of_set {L : List I} {st nc most : Int} (h : PSound L st nc most) (cond : Int) {p q : List Nat} (hp : ∀ pc ∈ p, pc < L.length) (hq : ∀ pc ∈ q, pc < L.length) (he : ∀ x, x ∈ p ↔ x ∈ q) : Eqv L cond p q := by
  intro x _
  rw [mem_reach h cond p hp, mem_reach h cond q hq]
  constructor
  · rintro ⟨h1, y, h2, h3⟩; exact ⟨h1, y, (he y).1 h2, h3⟩
  · rintro ⟨h1, y, h2, h3⟩; exact ⟨h1, y, (he y).2 h2, h3⟩
theorem Eqv.hasM {L : List I} {cond : Int} {p q : List Nat} (h : Eqv L cond p q) : hasM L (reachA L cond [] p) = hasM L (reachA L cond [] q) := by
  have w4 : ∀ x, ((ins L x).f0 == 4) = true → waitsB (ins L x) = true := fun x hx => by have := eq_of_beq hx; unfold waitsB; simp [this]
  unfold PgFnPgOnePrefix.hasM
  rw [Bool.eq_iff_iff, List.any_eq_true, List.any_eq_true]
  constructor
  · rintro ⟨x, h1, h2⟩; exact ⟨x, (h x (w4 x h2)).1 h1, h2⟩
  · rintro ⟨x, h1, h2⟩; exact ⟨x, (h x (w4 x h2)).2 h1, h2⟩
theorem Eqv.next {L : List I} {cond : Int} {p q : List Nat} (h : Eqv L cond p q) (c : Int) (x : Nat) : x ∈ nextP L c (reachA L cond [] p) ↔ x ∈ nextP L c (reachA L cond [] q) := by
  have wg : ∀ y, goes L c y = true → waitsB (ins L y) = true := fun y hy => by unfold goes at hy; simp only [Bool.and_eq_true] at hy; exact hy.1.2
  unfold nextP
  rw [List.mem_map, List.mem_map]
  constructor
  · rintro ⟨y, h1, h2⟩
    obtain ⟨h3, h4⟩ := List.mem_filter.1 h1
    exact ⟨y, List.mem_filter.2 ⟨(h y (wg y h4)).1 h3, h4⟩, h2⟩
  · rintro ⟨y, h1, h2⟩
    obtain ⟨h3, h4⟩ := List.mem_filter.1 h1
    exact ⟨y, List.mem_filter.2 ⟨(h y (wg y h4)).2 h3, h4⟩, h2⟩

theorem endsF_open (L : List I) (s : ByteArray) (n : Nat) (pcs : List Nat) (last : Int) (i : Nat) : endsF L s (n + 1) pcs last i =
    (if hasM L (reachA L (condZ last (dec s i).1) [] pcs) then [i] else []) ++
      endsF L s n (if (dec s i).2 = 0 then [] else nextP L (dec s i).1 (reachA L (condZ last (dec s i).1) [] pcs)) (dec s i).1 (i + (dec s i).2) := by
  by_cases h : pcs = []
  · subst h
    rw [endsF_nil]
    have e : reachA L (condZ last (dec s i).1) [] [] = [] := rfl
    rw [e]
    have e2 : nextP L (dec s i).1 [] = [] := rfl
    rw [e2]
    have e3 : hasM L [] = false := rfl
    rw [e3]
    simp [endsF_nil]
  · rw [endsF, if_neg h]
theorem next_lt {L : List I} {st nc most : Int} (h : PSound L st nc most) (c : Int) (D : List Nat) (hD : ∀ x ∈ D, x < L.length) : ∀ x ∈ nextP L c D, x < L.length := by
  intro x hx
  unfold nextP at hx
  obtain ⟨y, h1, rfl⟩ := List.mem_map.1 hx
  obtain ⟨h3, h4⟩ := List.mem_filter.1 h1
  have hy := hD y h3
  unfold goes at h4
  simp only [Bool.and_eq_true] at h4
  obtain ⟨⟨h5, h6⟩, _⟩ := h4
  have h7 : ¬ (ins L y).f0 = 4 := by simpa using h5
  have h8 : ¬ (ins L y).f0 = 5 := by intro e; unfold waitsB at h6; simp [e] at h6
  have := h.outIn y hy (by omega)
  omega
theorem reach_lt {L : List I} {st nc most : Int} (h : PSound L st nc most) (cond : Int) (pcs : List Nat) (hp : ∀ pc ∈ pcs, pc < L.length) : ∀ x ∈ reachA L cond [] pcs, x < L.length :=
  (reachA_fine h.leads pcs [] ⟨by simp, fun _ h => by cases h⟩ hp).lt
/-- The places depend on what waits alone. -/
theorem endsF_eqv {L : List I} {st nc most : Int} (h : PSound L st nc most) (s : ByteArray) : ∀ (n : Nat) (p q : List Nat) (last : Int) (i : Nat), (∀ x ∈ p, x < L.length) → (∀ x ∈ q, x < L.length) → Eqv L (condZ last (dec s i).1) p q → endsF L s n p last i = endsF L s n q last i := by
  intro n
  induction n with
  | zero => intros; rfl
  | succ n ih =>
    intro p q last i hp hq he
    rw [endsF_open, endsF_open, he.hasM]
    congr 1
    by_cases h0 : (dec s i).2 = 0
    · rw [if_pos h0, if_pos h0]
    · rw [if_neg h0, if_neg h0]
      have n1 := next_lt h (dec s i).1 _ (reach_lt h (condZ last (dec s i).1) p hp)
      have n2 := next_lt h (dec s i).1 _ (reach_lt h (condZ last (dec s i).1) q hq)
      exact ih _ _ _ _ n1 n2 (Eqv.of_set h _ n1 n2 (he.next _))
end Go.Proofs.YteoljppcafakpaaDoor.PgFnPgOnePrefix
