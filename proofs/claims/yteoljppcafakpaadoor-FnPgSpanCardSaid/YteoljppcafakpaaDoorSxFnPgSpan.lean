import Derived.Test.YteoljppcafakpaaDoorTaFnPgSpan
import Derived.Test.YteoljppcafakpaaDoorPiFnPgSpan
import Derived.Test.YteoljppcafakpaaDoorLwFnPgSpan
import Derived.Lib.MapLaws
import Derived.Lib.TrimUEq
import Derived.Lib.SpaceUEq
import Derived.Test.YteoljppcafakpaaDoorCbFnPgSpan
namespace Go.Proofs.YteoljppcafakpaaDoor.PgFnPgSpan
open Go.RowKit Go.Proofs.YteoljppcafakpaaDoor.EvN Go.Proofs.YteoljppcafakpaaDoor.Row Go.Proofs.YteoljppcafakpaaDoor.Sf Go.Proofs.YteoljppcafakpaaDoor.PFnPgSpan Go.Proofs.YteoljppcafakpaaDoorW.PrintWords Go.Proofs.YteoljppcafakpaaDoorW.PrintLast Go.Proofs.YteoljppcafakpaaDoorW.PrintMore
set_option linter.unusedSimpArgs false
set_option linter.unusedVariables false
def succs (L : List I) (cond : Int) (x : Nat) : List Nat :=
  if (ins L x).f0 = 0 then [(ins L x).f1.toNat, (ins L x).f2.toNat]
  else if (ins L x).f0 = 2 ∨ (ins L x).f0 = 6 then [(ins L x).f1.toNat]
  else if (ins L x).f0 = 3 then (if holds cond (ins L x).f2 = true then [(ins L x).f1.toNat] else [])
  else []
inductive Rch (L : List I) (cond : Int) : Nat → Nat → Prop
  | refl (x : Nat) : Rch L cond x x
  | step (x y z : Nat) : y ∈ succs L cond x → Rch L cond y z → Rch L cond x z
theorem Rch.trans {L : List I} {cond : Int} {x y z : Nat} (h : Rch L cond x y) (k : Rch L cond y z) : Rch L cond x z := by
  induction h with
  | refl x => exact k
  | step x y z hs _ ih => exact .step x y _ hs (ih k)
structure Dfs (L : List I) (cond : Int) (D : List Nat) (pc : Nat) (R : List Nat) : Prop where
  at_ : pc = 0 ∨ pc ∈ R
  sub : ∀ x ∈ D, x ∈ R
  rch : ∀ x ∈ R, x ∈ D ∨ Rch L cond pc x
  cls : ∀ x ∈ R, x ∈ D ∨ ∀ y ∈ succs L cond x, y = 0 ∨ y ∈ R
  nz : ∀ x ∈ R, x ∈ D ∨ x ≠ 0
theorem rF_dfs {L : List I} {cond : Int} (hl : Leads L) : ∀ (n : Nat) (D : List Nat) (pc : Nat), Fine L.length D → pc < L.length → L.length + 1 ≤ n + D.length → Dfs L cond D pc (rF L cond n D pc) := by
  intro n
  induction n with
  | zero => intro D pc h hp hn; have := h.len; omega
  | succ n ih =>
    intro D pc h hp hn
    rw [rF]
    by_cases h0 : pc = 0 ∨ pc ∈ D
    · rw [if_pos h0]
      exact ⟨h0, fun x hx => hx, fun x hx => .inl hx, fun x hx => .inl hx, fun x hx => .inl hx⟩
    · rw [if_neg h0]
      have hpz : pc ≠ 0 := fun e => h0 (.inl e)
      have h1 := h.add hp (fun e => h0 (.inr e))
      have hlen : (D ++ [pc]).length = D.length + 1 := by simp
      have base : succs L cond pc = [] → Dfs L cond D pc (D ++ [pc]) := fun hs => by
        refine ⟨.inr (by simp), fun x hx => by simp [hx], fun x hx => ?_, fun x hx => ?_, fun x hx => ?_⟩
        all_goals
          rcases List.mem_append.1 hx with hx | hx
          · exact .inl hx
          · simp only [List.mem_singleton] at hx; subst hx
            first | exact .inr (.refl _) | exact .inr hpz | (right; rw [hs]; intro y hy; cases hy)
      have one : ∀ o, succs L cond pc = [o] → o < L.length → Dfs L cond D pc (rF L cond n (D ++ [pc]) o) := fun o hs ho => by
        have k := ih (D ++ [pc]) o h1 ho (by omega)
        have hin : pc ∈ rF L cond n (D ++ [pc]) o := k.sub pc (by simp)
        refine ⟨.inr hin, fun x hx => k.sub x (by simp [hx]), fun x hx => ?_, fun x hx => ?_, fun x hx => ?_⟩
        · rcases k.rch x hx with e | e
          · rcases List.mem_append.1 e with e | e
            · exact .inl e
            · simp only [List.mem_singleton] at e; subst e; exact .inr (.refl _)
          · exact .inr (.step _ o _ (by rw [hs]; simp) e)
        · rcases k.cls x hx with e | e
          · rcases List.mem_append.1 e with e | e
            · exact .inl e
            · simp only [List.mem_singleton] at e; subst e
              right; rw [hs]; intro y hy; simp only [List.mem_singleton] at hy; subst hy; exact k.at_
          · exact .inr e
        · rcases k.nz x hx with e | e
          · rcases List.mem_append.1 e with e | e
            · exact .inl e
            · simp only [List.mem_singleton] at e; subst e; exact .inr hpz
          · exact .inr e
      by_cases g0 : (ins L pc).f0 = 0
      · rw [if_pos g0]
        have hs : succs L cond pc = [(ins L pc).f1.toNat, (ins L pc).f2.toNat] := by unfold succs; rw [if_pos g0]
        obtain ⟨o1, o2⟩ := hl.out pc hp (by omega)
        obtain ⟨a1, a2⟩ := hl.arg pc hp g0
        have k1 := ih (D ++ [pc]) (ins L pc).f1.toNat h1 (by omega) (by omega)
        obtain ⟨i1, i2⟩ := rF_fine hl n (D ++ [pc]) (ins L pc).f1.toNat (cond := cond) h1 (by omega)
        have k2 := ih _ (ins L pc).f2.toNat i1 (by omega) (by omega)
        have hin : pc ∈ rF L cond n (rF L cond n (D ++ [pc]) (ins L pc).f1.toNat) (ins L pc).f2.toNat := k2.sub _ (k1.sub pc (by simp))
        have back : ∀ {x}, x ∈ D ++ [pc] → x ∈ D ∨ x = pc := fun {x} e => by
          rcases List.mem_append.1 e with e | e
          · exact .inl e
          · simp only [List.mem_singleton] at e; exact .inr e
        refine ⟨.inr hin, fun x hx => k2.sub x (k1.sub x (by simp [hx])), fun x hx => ?_, fun x hx => ?_, fun x hx => ?_⟩
        · rcases k2.rch x hx with e | e
          · rcases k1.rch x e with e | e
            · rcases back e with e | rfl
              · exact .inl e
              · exact .inr (.refl _)
            · exact .inr (.step _ _ _ (by rw [hs]; simp) e)
          · exact .inr (.step _ (ins L pc).f2.toNat _ (by rw [hs]; simp) e)
        · rcases k2.cls x hx with e | e
          · rcases k1.cls x e with e | e
            · rcases back e with e | rfl
              · exact .inl e
              · right; rw [hs]; intro y hy
                simp only [List.mem_cons, List.not_mem_nil, or_false] at hy
                rcases hy with rfl | rfl
                · rcases k1.at_ with e | e
                  · exact .inl e
                  · exact .inr (k2.sub _ e)
                · exact k2.at_
            · right; intro y hy
              rcases e y hy with e | e
              · exact .inl e
              · exact .inr (k2.sub _ e)
          · exact .inr e
        · rcases k2.nz x hx with e | e
          · rcases k1.nz x e with e | e
            · rcases back e with e | rfl
              · exact .inl e
              · exact .inr hpz
            · exact .inr e
          · exact .inr e
      · rw [if_neg g0]
        by_cases g26 : (ins L pc).f0 = 2 ∨ (ins L pc).f0 = 6
        · rw [if_pos g26]
          obtain ⟨o1, o2⟩ := hl.out pc hp (by omega)
          exact one _ (by unfold succs; rw [if_neg g0, if_pos g26]) (by omega)
        · rw [if_neg g26]
          by_cases g3 : (ins L pc).f0 = 3
          · rw [if_pos g3]
            obtain ⟨o1, o2⟩ := hl.out pc hp (by omega)
            by_cases hh : holds cond (ins L pc).f2 = true
            · rw [if_pos hh]; exact one _ (by unfold succs; rw [if_neg g0, if_neg g26, if_pos g3, if_pos hh]) (by omega)
            · rw [if_neg hh]; exact base (by unfold succs; rw [if_neg g0, if_neg g26, if_pos g3, if_neg hh])
          · rw [if_neg g3]; exact base (by unfold succs; rw [if_neg g0, if_neg g26, if_neg g3])
structure DfsA (L : List I) (cond : Int) (D : List Nat) (pcs : List Nat) (R : List Nat) : Prop where
  at_ : ∀ pc ∈ pcs, pc = 0 ∨ pc ∈ R
  sub : ∀ x ∈ D, x ∈ R
  rch : ∀ x ∈ R, x ∈ D ∨ ∃ pc ∈ pcs, Rch L cond pc x
  cls : ∀ x ∈ R, x ∈ D ∨ ∀ y ∈ succs L cond x, y = 0 ∨ y ∈ R
  nz : ∀ x ∈ R, x ∈ D ∨ x ≠ 0
theorem reachA_dfs {L : List I} {cond : Int} (hl : Leads L) (pcs : List Nat) : ∀ D, Fine L.length D → (∀ pc ∈ pcs, pc < L.length) → DfsA L cond D pcs (reachA L cond D pcs) := by
  induction pcs with
  | nil => intro D h _; exact ⟨fun x hx => by simp at hx, fun _ h => h, fun _ h => Or.inl h, fun _ h => Or.inl h, fun _ h => Or.inl h⟩
  | cons pc pcs ih =>
    intro D h hp
    have k1 := rF_dfs (cond := cond) hl (L.length + 1) D pc h (hp pc (by simp)) (by omega)
    have k2 := ih _ (rF_fine (cond := cond) hl (L.length + 1) D pc h (hp pc (by simp))).1 (fun x hx => hp x (by simp [hx]))
    refine ⟨fun x hx => ?_, fun x hx => k2.sub x (k1.sub x hx), fun x hx => ?_, fun x hx => ?_, fun x hx => ?_⟩
    · rcases List.mem_cons.1 hx with rfl | hx
      · rcases k1.at_ with e | e
        · exact .inl e
        · exact .inr (k2.sub _ e)
      · exact k2.at_ x hx
    · rcases k2.rch x hx with e | ⟨q, hq, e⟩
      · rcases k1.rch x e with e | e
        · exact .inl e
        · exact .inr ⟨pc, by simp, e⟩
      · exact .inr ⟨q, by simp [hq], e⟩
    · rcases k2.cls x hx with e | e
      · rcases k1.cls x e with e | e
        · exact .inl e
        · right; intro y hy
          rcases e y hy with e | e
          · exact .inl e
          · exact .inr (k2.sub _ e)
      · exact .inr e
    · rcases k2.nz x hx with e | e
      · exact k1.nz x e
      · exact .inr e
theorem mem_reach {L : List I} {st nc most : Int} (h : PSound L st nc most) (cond : Int) (pcs : List Nat) (hp : ∀ pc ∈ pcs, pc < L.length) (x : Nat) : x ∈ reachA L cond [] pcs ↔ x ≠ 0 ∧ ∃ pc ∈ pcs, Rch L cond pc x := by
  have k := reachA_dfs (cond := cond) h.leads pcs [] ⟨by simp, fun _ h => by cases h⟩ hp
  constructor
  · intro hx
    refine ⟨(k.nz x hx).resolve_left (by simp), ?_⟩
    exact (k.rch x hx).resolve_left (by simp)
  · rintro ⟨hz, pc, hpc, hr⟩
    have key : ∀ a b, Rch L cond a b → (a = 0 ∨ a ∈ reachA L cond [] pcs) → (b = 0 ∨ b ∈ reachA L cond [] pcs) := by
      intro a b hab
      induction hab with
      | refl a => exact id
      | step a y b hy _ ih =>
        intro ha
        refine ih ?_
        rcases ha with rfl | ha
        · have h5 := h.first
          unfold succs at hy
          rw [if_neg (by omega), if_neg (by omega), if_neg (by omega)] at hy
          cases hy
        · exact ((k.cls a ha).resolve_left (by simp)) y hy
    exact (key pc x hr (k.at_ pc hpc)).resolve_left hz
def Eqv (L : List I) (cond : Int) (p q : List Nat) : Prop := ∀ x, waitsB (ins L x) = true → (x ∈ reachA L cond [] p ↔ x ∈ reachA L cond [] q)
theorem Eqv.of_set {L : List I} {st nc most : Int} (h : PSound L st nc most) (cond : Int) {p q : List Nat} (hp : ∀ pc ∈ p, pc < L.length) (hq : ∀ pc ∈ q, pc < L.length) (he : ∀ x, x ∈ p ↔ x ∈ q) : Eqv L cond p q := by
  intro x _
  rw [mem_reach h cond p hp, mem_reach h cond q hq]
  constructor
  · rintro ⟨h1, y, h2, h3⟩; exact ⟨h1, y, (he y).1 h2, h3⟩
  · rintro ⟨h1, y, h2, h3⟩; exact ⟨h1, y, (he y).2 h2, h3⟩
theorem Eqv.hasM {L : List I} {cond : Int} {p q : List Nat} (h : Eqv L cond p q) : hasM L (reachA L cond [] p) = hasM L (reachA L cond [] q) := by
  have w4 : ∀ x, ((ins L x).f0 == 4) = true → waitsB (ins L x) = true := fun x hx => by have := eq_of_beq hx; unfold waitsB; simp [this]
  unfold PgFnPgSpan.hasM
  rw [Bool.eq_iff_iff, List.any_eq_true, List.any_eq_true]
  constructor
  · rintro ⟨x, h1, h2⟩; exact ⟨x, (h x (w4 x h2)).1 h1, h2⟩
  · rintro ⟨x, h1, h2⟩; exact ⟨x, (h x (w4 x h2)).2 h1, h2⟩
theorem Eqv.next {L : List I} {cond : Int} {p q : List Nat} (h : Eqv L cond p q) (c : Int) (x : Nat) : x ∈ nextP L c (reachA L cond [] p) ↔ x ∈ nextP L c (reachA L cond [] q) := by
  have wg : ∀ y, goes L c y = true → waitsB (ins L y) = true := fun y hy => by unfold goes at hy; simp only [Bool.and_eq_true] at hy; exact hy.1.2
  unfold nextP
  rw [List.mem_map, List.mem_map]
  constructor
  · rintro ⟨y, h1, h2⟩
    obtain ⟨h3, h4⟩ := List.mem_filter.1 h1
    exact ⟨y, List.mem_filter.2 ⟨(h y (wg y h4)).1 h3, h4⟩, h2⟩
  · rintro ⟨y, h1, h2⟩
    obtain ⟨h3, h4⟩ := List.mem_filter.1 h1
    exact ⟨y, List.mem_filter.2 ⟨(h y (wg y h4)).2 h3, h4⟩, h2⟩
theorem endsF_open (L : List I) (s : ByteArray) (n : Nat) (pcs : List Nat) (last : Int) (i : Nat) : endsF L s (n + 1) pcs last i =
    (if hasM L (reachA L (condZ last (dec s i).1) [] pcs) then [i] else []) ++
      endsF L s n (if (dec s i).2 = 0 then [] else nextP L (dec s i).1 (reachA L (condZ last (dec s i).1) [] pcs)) (dec s i).1 (i + (dec s i).2) := by
  by_cases h : pcs = []
  · subst h
    rw [endsF_nil]
    have e : reachA L (condZ last (dec s i).1) [] [] = [] := rfl
    rw [e]
    have e2 : nextP L (dec s i).1 [] = [] := rfl
    rw [e2]
    have e3 : hasM L [] = false := rfl
    rw [e3]
    simp [endsF_nil]
  · rw [endsF, if_neg h]
theorem next_lt {L : List I} {st nc most : Int} (h : PSound L st nc most) (c : Int) (D : List Nat) (hD : ∀ x ∈ D, x < L.length) : ∀ x ∈ nextP L c D, x < L.length := by
  intro x hx
  unfold nextP at hx
  obtain ⟨y, h1, rfl⟩ := List.mem_map.1 hx
  obtain ⟨h3, h4⟩ := List.mem_filter.1 h1
  have hy := hD y h3
  unfold goes at h4
  simp only [Bool.and_eq_true] at h4
  obtain ⟨⟨h5, h6⟩, _⟩ := h4
  have h7 : ¬ (ins L y).f0 = 4 := by simpa using h5
  have h8 : ¬ (ins L y).f0 = 5 := by intro e; unfold waitsB at h6; simp [e] at h6
  have := h.outIn y hy (by omega)
  omega
theorem reach_lt {L : List I} {st nc most : Int} (h : PSound L st nc most) (cond : Int) (pcs : List Nat) (hp : ∀ pc ∈ pcs, pc < L.length) : ∀ x ∈ reachA L cond [] pcs, x < L.length :=
  (reachA_fine h.leads pcs [] ⟨by simp, fun _ h => by cases h⟩ hp).lt
theorem endsF_eqv {L : List I} {st nc most : Int} (h : PSound L st nc most) (s : ByteArray) : ∀ (n : Nat) (p q : List Nat) (last : Int) (i : Nat), (∀ x ∈ p, x < L.length) → (∀ x ∈ q, x < L.length) → Eqv L (condZ last (dec s i).1) p q → endsF L s n p last i = endsF L s n q last i := by
  intro n
  induction n with
  | zero => intros; rfl
  | succ n ih =>
    intro p q last i hp hq he
    rw [endsF_open, endsF_open, he.hasM]
    congr 1
    by_cases h0 : (dec s i).2 = 0
    · rw [if_pos h0, if_pos h0]
    · rw [if_neg h0, if_neg h0]
      have n1 := next_lt h (dec s i).1 _ (reach_lt h (condZ last (dec s i).1) p hp)
      have n2 := next_lt h (dec s i).1 _ (reach_lt h (condZ last (dec s i).1) q hq)
      exact ih _ _ _ _ n1 n2 (Eqv.of_set h _ n1 n2 (he.next _))
end Go.Proofs.YteoljppcafakpaaDoor.PgFnPgSpan
namespace Go.Proofs.YteoljppcafakpaaDoor.PgFnPgSpan
open Go.RowKit Go.Proofs.YteoljppcafakpaaDoor.EvN Go.Proofs.YteoljppcafakpaaDoor.Row Go.Proofs.YteoljppcafakpaaDoor.PFnPgSpan Go.Proofs.YteoljppcafakpaaDoorW.PrintWords Go.Proofs.YteoljppcafakpaaDoorW.PrintLast Go.Proofs.YteoljppcafakpaaDoorW.PrintMore
set_option linter.unusedVariables false
set_option linter.unusedSimpArgs false
theorem lt_one {L : List I} {x : Nat} (h : x < L.length) : ∀ y ∈ [x], y < L.length := by intro y hy; simp only [List.mem_singleton] at hy; omega
theorem mem_reach1 {L : List I} {st nc most : Int} (h : PSound L st nc most) (cond : Int) (pcs : List Nat) (hp : ∀ pc ∈ pcs, pc < L.length) (x : Nat) : x ∈ reachA L cond [] pcs ↔ ∃ pc ∈ pcs, x ∈ reachA L cond [] [pc] := by
  rw [mem_reach h cond pcs hp]
  constructor
  · rintro ⟨h0, pc, h1, h2⟩
    exact ⟨pc, h1, (mem_reach h cond [pc] (lt_one (hp pc h1)) x).2 ⟨h0, pc, by simp, h2⟩⟩
  · rintro ⟨pc, h1, h2⟩
    obtain ⟨h0, q, hq, hr⟩ := (mem_reach h cond [pc] (lt_one (hp pc h1)) x).1 h2
    simp only [List.mem_singleton] at hq
    subst hq
    exact ⟨h0, q, h1, hr⟩
theorem hasM_iff (L : List I) (D : List Nat) : hasM L D = true ↔ ∃ x ∈ D, (ins L x).f0 = 4 := by
  unfold hasM
  rw [List.any_eq_true]
  constructor
  · rintro ⟨x, h1, h2⟩; exact ⟨x, h1, eq_of_beq h2⟩
  · rintro ⟨x, h1, h2⟩; exact ⟨x, h1, by rw [h2]; rfl⟩
theorem mem_next (L : List I) (c : Int) (D : List Nat) (o : Nat) : o ∈ nextP L c D ↔ ∃ x ∈ D, goes L c x = true ∧ (ins L x).f1.toNat = o := by
  unfold nextP
  rw [List.mem_map]
  constructor
  · rintro ⟨x, h1, h2⟩; obtain ⟨h3, h4⟩ := List.mem_filter.1 h1; exact ⟨x, h3, h4, h2⟩
  · rintro ⟨x, h1, h2, h3⟩; exact ⟨x, List.mem_filter.2 ⟨h1, h2⟩, h3⟩
theorem ends_union {L : List I} {st nc most : Int} (h : PSound L st nc most) (s : ByteArray) : ∀ (n : Nat) (pcs : List Nat) (last : Int) (i e : Nat), (∀ x ∈ pcs, x < L.length) → (e ∈ endsF L s n pcs last i ↔ ∃ pc ∈ pcs, e ∈ endsF L s n [pc] last i) := by
  intro n
  induction n with
  | zero => intro pcs last i e _; simp [endsF]
  | succ n ih =>
    intro pcs last i e hp
    have hR := fun x => mem_reach1 h (condZ last (dec s i).1) pcs hp x
    have hl1 := next_lt h (dec s i).1 _ (reach_lt h (condZ last (dec s i).1) pcs hp)
    rw [endsF_open, List.mem_append]
    constructor
    · rintro (h1 | h1)
      · by_cases hm : hasM L (reachA L (condZ last (dec s i).1) [] pcs) = true
        · rw [if_pos hm] at h1
          obtain ⟨x, hx, h4⟩ := (hasM_iff _ _).1 hm
          obtain ⟨pc, hpc, hx2⟩ := (hR x).1 hx
          refine ⟨pc, hpc, ?_⟩
          rw [endsF_open, List.mem_append, if_pos ((hasM_iff _ _).2 ⟨x, hx2, h4⟩)]
          exact .inl h1
        · rw [if_neg hm] at h1; simp at h1
      · by_cases hw : (dec s i).2 = 0
        · rw [if_pos hw, endsF_nil] at h1; simp at h1
        · rw [if_neg hw] at h1
          obtain ⟨o, ho, he⟩ := (ih _ _ _ _ hl1).1 h1
          obtain ⟨x, hx, hg, rfl⟩ := (mem_next _ _ _ _).1 ho
          obtain ⟨pc, hpc, hx2⟩ := (hR x).1 hx
          refine ⟨pc, hpc, ?_⟩
          rw [endsF_open, List.mem_append, if_neg hw]
          right
          exact (ih _ _ _ _ (next_lt h _ _ (reach_lt h _ _ (lt_one (hp pc hpc))))).2 ⟨_, (mem_next _ _ _ _).2 ⟨x, hx2, hg, rfl⟩, he⟩
    · rintro ⟨pc, hpc, h1⟩
      rw [endsF_open, List.mem_append] at h1
      rcases h1 with h1 | h1
      · by_cases hm : hasM L (reachA L (condZ last (dec s i).1) [] [pc]) = true
        · rw [if_pos hm] at h1
          obtain ⟨x, hx, h4⟩ := (hasM_iff _ _).1 hm
          left
          rw [if_pos ((hasM_iff _ _).2 ⟨x, (hR x).2 ⟨pc, hpc, hx⟩, h4⟩)]
          exact h1
        · rw [if_neg hm] at h1; simp at h1
      · by_cases hw : (dec s i).2 = 0
        · rw [if_pos hw, endsF_nil] at h1; simp at h1
        · rw [if_neg hw] at h1 ⊢
          obtain ⟨o, ho, he⟩ := (ih _ _ _ _ (next_lt h _ _ (reach_lt h _ _ (lt_one (hp pc hpc))))).1 h1
          obtain ⟨x, hx, hg, rfl⟩ := (mem_next _ _ _ _).1 ho
          right
          exact (ih _ _ _ _ hl1).2 ⟨_, (mem_next _ _ _ _).2 ⟨x, (hR x).2 ⟨pc, hpc, hx⟩, hg, rfl⟩, he⟩
theorem waits_ne0 {L : List I} {st nc most : Int} (h : PSound L st nc most) {x : Nat} (hw : waitsB (ins L x) = true) : x ≠ 0 := fun e => by
  subst e
  have := h.first
  unfold waitsB at hw
  simp [this] at hw
theorem reach_one {L : List I} {st nc most : Int} (h : PSound L st nc most) (cond : Int) {x : Nat} (hw : waitsB (ins L x) = true) : reachA L cond [] [x] = [x] := by
  have := reachA_waits L cond [x] [] (fun y hy => by simp only [List.mem_singleton] at hy; subst hy; exact ⟨hw, waits_ne0 h hw⟩) (by simp)
  simpa using this
theorem ends_close {L : List I} {st nc most : Int} (h : PSound L st nc most) (s : ByteArray) (n o : Nat) (last : Int) (i e : Nat) (ho : o < L.length) :
    e ∈ endsF L s n [o] last i ↔ ∃ x ∈ reachA L (condZ last (dec s i).1) [] [o], waitsB (ins L x) = true ∧ e ∈ endsF L s n [x] last i := by
  have hf := reachA_fine (cond := condZ last (dec s i).1) h.leads [o] [] ⟨by simp, fun x hx => by cases hx⟩ (lt_one ho)
  have hq : ∀ x ∈ (reachA L (condZ last (dec s i).1) [] [o]).filter (fun pc => waitsB (ins L pc)), x < L.length := fun x hx => hf.lt x (List.mem_filter.1 hx).1
  have hr : reachA L (condZ last (dec s i).1) [] ((reachA L (condZ last (dec s i).1) [] [o]).filter fun pc => waitsB (ins L pc)) = (reachA L (condZ last (dec s i).1) [] [o]).filter fun pc => waitsB (ins L pc) := by
    have := reachA_waits L (condZ last (dec s i).1) ((reachA L (condZ last (dec s i).1) [] [o]).filter fun pc => waitsB (ins L pc)) [] (fun x hx => ⟨(List.mem_filter.1 hx).2, waits_ne0 h (List.mem_filter.1 hx).2⟩) (by rw [List.nil_append]; exact List.Pairwise.filter _ hf.nd)
    simpa using this
  rw [endsF_eqv h s n [o] _ last i (lt_one ho) hq (fun x hw => by rw [hr, List.mem_filter]; exact ⟨fun hx => ⟨hx, hw⟩, fun hx => hx.1⟩), ends_union h s n _ last i e hq]
  constructor
  · rintro ⟨x, hx, he⟩; obtain ⟨h1, h2⟩ := List.mem_filter.1 hx; exact ⟨x, h1, h2, he⟩
  · rintro ⟨x, h1, h2, he⟩; exact ⟨x, List.mem_filter.2 ⟨h1, h2⟩, he⟩
theorem ends_one {L : List I} {st nc most : Int} (h : PSound L st nc most) (s : ByteArray) (n x : Nat) (last : Int) (i e : Nat) (hw : waitsB (ins L x) = true) :
    e ∈ endsF L s (n + 1) [x] last i ↔ ((ins L x).f0 = 4 ∧ e = i) ∨ ((dec s i).2 ≠ 0 ∧ (ins L x).f0 ≠ 4 ∧ takesB (ins L x) (dec s i).1 = true ∧ e ∈ endsF L s n [(ins L x).f1.toNat] (dec s i).1 (i + (dec s i).2)) := by
  rw [endsF_open, reach_one h _ hw, List.mem_append]
  constructor
  · rintro (h1 | h1)
    · by_cases hm : hasM L [x] = true
      · rw [if_pos hm] at h1
        obtain ⟨y, hy, h4⟩ := (hasM_iff _ _).1 hm
        simp only [List.mem_singleton] at hy h1
        subst hy
        exact .inl ⟨h4, h1⟩
      · rw [if_neg hm] at h1; simp at h1
    · by_cases h0 : (dec s i).2 = 0
      · rw [if_pos h0, endsF_nil] at h1; simp at h1
      · rw [if_neg h0] at h1
        right
        by_cases hg : goes L (dec s i).1 x = true
        · have e1 : nextP L (dec s i).1 [x] = [(ins L x).f1.toNat] := by rw [nextP_cons, if_pos hg]; rfl
          rw [e1] at h1
          unfold goes at hg
          simp only [Bool.and_eq_true, Bool.not_eq_true', beq_eq_false_iff_ne] at hg
          exact ⟨h0, hg.1.1, hg.2, h1⟩
        · have e1 : nextP L (dec s i).1 [x] = [] := by rw [nextP_cons, if_neg hg]; rfl
          rw [e1, endsF_nil] at h1
          simp at h1
  · rintro (⟨h4, rfl⟩ | ⟨h0, h4, ht, he⟩)
    · left
      rw [if_pos ((hasM_iff _ _).2 ⟨x, by simp, h4⟩)]
      simp
    · right
      have hg : goes L (dec s i).1 x = true := by unfold goes; simp [h4, hw, ht]
      have e1 : nextP L (dec s i).1 [x] = [(ins L x).f1.toNat] := by rw [nextP_cons, if_pos hg]; rfl
      rw [if_neg h0, e1]
      exact he
end Go.Proofs.YteoljppcafakpaaDoor.PgFnPgSpan
namespace Go.Proofs.YteoljppcafakpaaDoor.Ut
open Go Go.Lib
set_option linter.unusedSimpArgs false
set_option linter.unusedVariables false
def scalar (r : Int) : Prop := 0 ≤ r ∧ r ≤ 1114111 ∧ (r < 55296 ∨ 57343 < r)
theorem last4 (t : List UInt8) (c0 c1 c2 c3 : UInt8) (h3 : 128 ≤ c3.toNat) (h2 : runeStartB c2 = false) (h1 : runeStartB c1 = false) (h0 : runeStartB c0 = true) (hd : (decodeL [c0, c1, c2, c3]).2 = 4) : decodeLastL (t ++ [c0, c1, c2, c3]) = decodeL [c0, c1, c2, c3] := by
  have g1 := getD_app_end t [c0, c1, c2, c3] 1 (by omega) (by simp)
  have g2 := getD_app_end t [c0, c1, c2, c3] 2 (by omega) (by simp)
  have g3 := getD_app_end t [c0, c1, c2, c3] 3 (by omega) (by simp)
  have g4 := getD_app_end t [c0, c1, c2, c3] 4 (by omega) (by simp)
  have hl : (t ++ [c0, c1, c2, c3]).length = t.length + 4 := by simp
  have hs : lastStart (t ++ [c0, c1, c2, c3]) = (t ++ [c0, c1, c2, c3]).length - 4 := by
    unfold lastStart
    simp only [g2, g3, g4]
    rw [if_neg (by omega)]
    simp only [List.length_cons, List.length_nil, List.getD_cons_succ, List.getD_cons_zero, Nat.reduceAdd, Nat.reduceSub, h1, h0, h2, Bool.false_eq_true, if_false, if_true]
    rw [if_neg (by omega), if_neg (by omega)]
  have hdrop := drop_app_end t [c0, c1, c2, c3]
  unfold decodeLastL
  rw [if_neg (by simp), g1, if_neg (by simp; omega), hs]
  simp only [List.length_cons, List.length_nil] at hdrop
  simp only [hdrop, hd]
  rw [if_pos (by omega)]
end Go.Proofs.YteoljppcafakpaaDoor.Ut
namespace Go.Proofs.YteoljppcafakpaaDoor.PgFnPgSpan
open Go.RowKit Go.Proofs.YteoljppcafakpaaDoor.EvN Go.Proofs.YteoljppcafakpaaDoor.Row Go.Proofs.YteoljppcafakpaaDoor.Sf Go.Proofs.YteoljppcafakpaaDoor.PFnPgSpan Go.Proofs.YteoljppcafakpaaDoorW.PrintWords Go.Proofs.YteoljppcafakpaaDoorW.PrintLast Go.Proofs.YteoljppcafakpaaDoorW.PrintMore
set_option linter.unusedSimpArgs false
set_option linter.unusedVariables false
def encs (l : List Int) : List UInt8 := l.flatMap Lib.encodeRune
theorem endsF_fuel (L : List I) (s : ByteArray) : ∀ (n m : Nat) (pcs : List Nat) (last : Int) (i : Nat), i ≤ s.size → s.size + 1 ≤ n + i → s.size + 1 ≤ m + i → endsF L s n pcs last i = endsF L s m pcs last i := by
  intro n
  induction n with
  | zero => intro m pcs last i h1 h2; omega
  | succ n ih =>
    intro m pcs last i h1 h2 h3
    obtain ⟨m, rfl⟩ : ∃ k, m = k + 1 := ⟨m - 1, by omega⟩
    rw [endsF_open, endsF_open]
    congr 1
    by_cases h0 : (dec s i).2 = 0
    · rw [if_pos h0, endsF_nil, endsF_nil]
    · rw [if_neg h0]
      exact ih _ _ _ _ (dec_le s i h1) (by omega) (by omega)
theorem Eqv.refl (L : List I) (cond : Int) (p : List Nat) : Eqv L cond p p := fun _ _ => Iff.rfl
theorem Eqv.trans {L : List I} {cond : Int} {p q r : List Nat} (h : Eqv L cond p q) (k : Eqv L cond q r) : Eqv L cond p r := fun x hx => (h x hx).trans (k x hx)
end Go.Proofs.YteoljppcafakpaaDoor.PgFnPgSpan
namespace Go.Proofs.YteoljppcafakpaaDoor.PgFnPgSpan
open Go.RowKit Go.Proofs.YteoljppcafakpaaDoor.EvN Go.Proofs.YteoljppcafakpaaDoor.Row Go.Proofs.YteoljppcafakpaaDoor.PFnPgSpan Go.Proofs.YteoljppcafakpaaDoorW.PrintWords Go.Proofs.YteoljppcafakpaaDoorW.PrintLast Go.Proofs.YteoljppcafakpaaDoorW.PrintMore
set_option linter.unusedVariables false
set_option linter.unusedSimpArgs false
def le_ (p q : Nat × Nat) : Prop := p.1 < q.1 ∨ (p.1 = q.1 ∧ q.2 ≤ p.2)
theorem le_.refl (p : Nat × Nat) : le_ p p := .inr ⟨rfl, Nat.le_refl _⟩
theorem le_.trans {p q r : Nat × Nat} (h : le_ p q) (k : le_ q r) : le_ p r := by
  unfold le_ at *
  omega
def Dm (X Y : Nat × Nat → Prop) : Prop := ∀ q, X q → ∃ p, Y p ∧ le_ p q
theorem Dm.trans {X Y Z : Nat × Nat → Prop} (h : Dm X Y) (k : Dm Y Z) : Dm X Z := fun q hq => by
  obtain ⟨p, hp, h1⟩ := h q hq
  obtain ⟨r, hr, h2⟩ := k p hp
  exact ⟨r, hr, h2.trans h1⟩
theorem Dm.sub {X Y : Nat × Nat → Prop} (h : ∀ q, X q → Y q) : Dm X Y := fun q hq => ⟨q, h q hq, le_.refl q⟩
def KL (L : List I) (s : ByteArray) (n : Nat) (last : Int) (i : Nat) (R : List Ae) (p : Nat × Nat) : Prop := ∃ x, (x, some [(p.1 : Int), -1]) ∈ R ∧ p.2 ∈ endsF L s n [x] last i
def KM (m : Bool) (M : List Int) (p : Nat × Nat) : Prop := m = true ∧ M = [(p.1 : Int), (p.2 : Int)]
def starts (R : List Ae) : List Int := R.filterMap fun a => a.2.map fun C => C.getD 0 0
theorem starts_append (R T : List Ae) : starts (R ++ T) = starts R ++ starts T := by unfold starts; rw [List.filterMap_append]
theorem starts_mem {R : List Ae} {x : Nat} {C : List Int} (h : (x, some C) ∈ R) : C.getD 0 0 ∈ starts R := by
  unfold starts
  exact List.mem_filterMap.2 ⟨_, h, rfl⟩
def XK (L : List I) (s : ByteArray) (n : Nat) (last : Int) (i : Nat) (RA A : List Ae) (m : Bool) (M : List Int) (p : Nat × Nat) : Prop :=
  KL L s (n + 1) last i RA p ∨ ((dec s i).2 ≠ 0 ∧ KL L s n (dec s i).1 (i + (dec s i).2) A p) ∨ KM m M p
theorem aF_two {L : List I} {st nc most : Int} (h : PSound L st nc most) (cond pos : Int) : ∀ (n : Nat) (D : List Nat) (pc : Nat) (C : List Int), pc < L.length → C.length = 2 → ∀ a ∈ aF L cond pos n D pc C, a.1 < L.length ∧ a.2.isSome = waitsB (ins L a.1) ∧ ∀ C', a.2 = some C' → C' = C := by
  intro n D pc C hp hC a ha
  refine ⟨?_, aF_waits L cond pos n D pc C a ha, ?_⟩
  · revert ha
    induction n generalizing D pc with
    | zero => intro ha; simp [aF] at ha
    | succ n ih =>
      intro ha
      rw [aF] at ha
      by_cases h0 : pc = 0 ∨ pc ∈ D
      · rw [if_pos h0] at ha; simp at ha
      · rw [if_neg h0] at ha
        have ho := fun hn => h.outIn pc hp hn
        by_cases g0 : (ins L pc).f0 = 0
        · rw [if_pos g0] at ha
          obtain ⟨a1, a2⟩ := h.leads.arg pc hp g0
          have := ho (by omega)
          rcases List.mem_cons.1 ha with rfl | ha
          · exact hp
          · rcases List.mem_append.1 ha with ha | ha
            · exact ih _ _ (by omega) ha
            · exact ih _ _ (by omega) ha
        · rw [if_neg g0] at ha
          by_cases g6 : (ins L pc).f0 = 6
          · rw [if_pos g6] at ha
            have := ho (by omega)
            rcases List.mem_cons.1 ha with rfl | ha
            · exact hp
            · exact ih _ _ (by omega) ha
          · rw [if_neg g6] at ha
            by_cases g2 : (ins L pc).f0 = 2
            · rw [if_pos g2] at ha
              have := ho (by omega)
              have h2 := h.arg2 pc hp g2
              rw [List.set_eq_of_length_le (by omega)] at ha
              rcases List.mem_cons.1 ha with rfl | ha
              · exact hp
              · exact ih _ _ (by omega) ha
            · rw [if_neg g2] at ha
              by_cases g3 : (ins L pc).f0 = 3
              · rw [if_pos g3] at ha
                have := ho (by omega)
                rcases List.mem_cons.1 ha with rfl | ha
                · exact hp
                · split at ha
                  · exact ih _ _ (by omega) ha
                  · simp at ha
              · rw [if_neg g3] at ha
                split at ha <;> (simp at ha; subst ha; exact hp)
  · revert ha
    induction n generalizing D pc with
    | zero => intro ha; simp [aF] at ha
    | succ n ih =>
      intro ha
      rw [aF] at ha
      by_cases h0 : pc = 0 ∨ pc ∈ D
      · rw [if_pos h0] at ha; simp at ha
      · rw [if_neg h0] at ha
        have ho := fun hn => h.outIn pc hp hn
        by_cases g0 : (ins L pc).f0 = 0
        · rw [if_pos g0] at ha
          obtain ⟨a1, a2⟩ := h.leads.arg pc hp g0
          have := ho (by omega)
          rcases List.mem_cons.1 ha with rfl | ha
          · intro C' e; cases e
          · rcases List.mem_append.1 ha with ha | ha
            · exact ih _ _ (by omega) ha
            · exact ih _ _ (by omega) ha
        · rw [if_neg g0] at ha
          by_cases g6 : (ins L pc).f0 = 6
          · rw [if_pos g6] at ha
            have := ho (by omega)
            rcases List.mem_cons.1 ha with rfl | ha
            · intro C' e; cases e
            · exact ih _ _ (by omega) ha
          · rw [if_neg g6] at ha
            by_cases g2 : (ins L pc).f0 = 2
            · rw [if_pos g2] at ha
              have := ho (by omega)
              have h2 := h.arg2 pc hp g2
              rw [List.set_eq_of_length_le (by omega)] at ha
              rcases List.mem_cons.1 ha with rfl | ha
              · intro C' e; cases e
              · exact ih _ _ (by omega) ha
            · rw [if_neg g2] at ha
              by_cases g3 : (ins L pc).f0 = 3
              · rw [if_pos g3] at ha
                have := ho (by omega)
                rcases List.mem_cons.1 ha with rfl | ha
                · intro C' e; cases e
                · split at ha
                  · exact ih _ _ (by omega) ha
                  · simp at ha
              · rw [if_neg g3] at ha
                split at ha
                · simp at ha; subst ha; intro C' e; cases e
                · simp at ha; subst ha; intro C' e; cases e; rfl
structure SInv (L : List I) (i : Nat) (cond2 : Int) (RA A : List Ae) (m : Bool) (M : List Int) : Prop where
  wR : ∀ a ∈ RA, a.1 < L.length ∧ a.2.isSome = waitsB (ins L a.1)
  wA : ∀ a ∈ A, a.1 < L.length ∧ a.2.isSome = waitsB (ins L a.1)
  fR : ∀ a ∈ A ++ RA, ∀ C, a.2 = some C → ∃ t : Nat, C = [(t : Int), -1] ∧ t ≤ i
  so : (starts A ++ starts RA).Pairwise (· ≤ ·)
  oA : ∃ outs, (∀ x ∈ outs, x < L.length) ∧ A.map Prod.fst = reachA L cond2 [] outs
  mM : m = true → ∃ s0 e0 : Nat, M = [(s0 : Int), (e0 : Int)] ∧ s0 ≤ i ∧ e0 ≤ i ∧ (e0 = i → ∀ t ∈ starts RA, (s0 : Int) ≤ t)
theorem starts_none (x : Nat) (r : List Ae) : starts ((x, none) :: r) = starts r := by unfold starts; rw [List.filterMap_cons]; rfl
theorem starts_some (x : Nat) (C : List Int) (r : List Ae) : starts ((x, some C) :: r) = C.getD 0 0 :: starts r := by unfold starts; rw [List.filterMap_cons]; rfl
theorem kl_none {L : List I} {s : ByteArray} {n : Nat} {last : Int} {i x : Nat} {r : List Ae} {p : Nat × Nat} : KL L s n last i ((x, none) :: r) p ↔ KL L s n last i r p := by
  unfold KL
  constructor
  · rintro ⟨y, h, he⟩
    rcases List.mem_cons.1 h with h | h
    · cases h
    · exact ⟨y, h, he⟩
  · rintro ⟨y, h, he⟩; exact ⟨y, by simp [h], he⟩
theorem kl_some {L : List I} {s : ByteArray} {n : Nat} {last : Int} {i x : Nat} {C : List Int} {r : List Ae} {p : Nat × Nat} : KL L s n last i ((x, some C) :: r) p ↔ (C = [(p.1 : Int), -1] ∧ p.2 ∈ endsF L s n [x] last i) ∨ KL L s n last i r p := by
  unfold KL
  constructor
  · rintro ⟨y, h, he⟩
    rcases List.mem_cons.1 h with h | h
    · cases h; exact .inl ⟨rfl, he⟩
    · exact .inr ⟨y, h, he⟩
  · rintro (⟨rfl, he⟩ | ⟨y, h, he⟩)
    · exact ⟨x, by simp, he⟩
    · exact ⟨y, by simp [h], he⟩
theorem step_dm {L : List I} {st nc most : Int} (h : PSound L st nc most) (s : ByteArray) (n i : Nat) (last np : Int) : ∀ (RA A : List Ae) (m : Bool) (M : List Int), SInv L i (condZ (dec s i).1 (dec s (i + (dec s i).2)).1) RA A m M →
    Dm (XK L s n last i RA A m M) (XK L s n last i [] (stepF L true 2 (dec s i).1 (condZ (dec s i).1 (dec s (i + (dec s i).2)).1) i np RA (A, m, M)).1 (stepF L true 2 (dec s i).1 (condZ (dec s i).1 (dec s (i + (dec s i).2)).1) i np RA (A, m, M)).2.1 (stepF L true 2 (dec s i).1 (condZ (dec s i).1 (dec s (i + (dec s i).2)).1) i np RA (A, m, M)).2.2) ∧
    Dm (XK L s n last i [] (stepF L true 2 (dec s i).1 (condZ (dec s i).1 (dec s (i + (dec s i).2)).1) i np RA (A, m, M)).1 (stepF L true 2 (dec s i).1 (condZ (dec s i).1 (dec s (i + (dec s i).2)).1) i np RA (A, m, M)).2.1 (stepF L true 2 (dec s i).1 (condZ (dec s i).1 (dec s (i + (dec s i).2)).1) i np RA (A, m, M)).2.2) (XK L s n last i RA A m M) ∧
    SInv L i (condZ (dec s i).1 (dec s (i + (dec s i).2)).1) [] (stepF L true 2 (dec s i).1 (condZ (dec s i).1 (dec s (i + (dec s i).2)).1) i np RA (A, m, M)).1 (stepF L true 2 (dec s i).1 (condZ (dec s i).1 (dec s (i + (dec s i).2)).1) i np RA (A, m, M)).2.1 (stepF L true 2 (dec s i).1 (condZ (dec s i).1 (dec s (i + (dec s i).2)).1) i np RA (A, m, M)).2.2 := by
  intro RA
  induction RA with
  | nil => intro A m M hI; exact ⟨Dm.sub fun _ h => h, Dm.sub fun _ h => h, hI⟩
  | cons a r ih =>
    intro A m M hI
    obtain ⟨x, o⟩ := a
    cases o with
    | none =>
      rw [stepF]
      have hI2 : SInv L i (condZ (dec s i).1 (dec s (i + (dec s i).2)).1) r A m M := ⟨fun a ha => hI.wR a (by simp [ha]), hI.wA, fun a ha => hI.fR a (by rcases List.mem_append.1 ha with h | h <;> simp [h]), by have := hI.so; rwa [starts_none] at this, hI.oA, fun hm => by
        obtain ⟨s0, e0, h1, h2, h3, h4⟩ := hI.mM hm
        exact ⟨s0, e0, h1, h2, h3, fun e t ht => h4 e t (by rw [starts_none]; exact ht)⟩⟩
      obtain ⟨d1, d2, d3⟩ := ih A m M hI2
      exact ⟨(Dm.sub fun q hq => hq.imp (fun k => kl_none.1 k) id).trans d1, d2.trans (Dm.sub fun q hq => hq.imp (fun k => kl_none.2 k) id), d3⟩
    | some C =>
      obtain ⟨t, rfl, hti⟩ := hI.fR (x, some C) (by simp) C rfl
      obtain ⟨hxl, hxw⟩ := hI.wR (x, some [(t : Int), -1]) (by simp)
      have hw : waitsB (ins L x) = true := hxw.symm
      have hso := hI.so
      rw [starts_some] at hso
      have hst : starts A ++ starts r = (starts A ++ starts r) := rfl
      have hsr : ∀ t' ∈ starts r, (t : Int) ≤ t' := by
        have := (List.pairwise_append.1 hso).2.1
        exact (List.pairwise_cons.1 this).1
      have hsa : ∀ t' ∈ starts A, t' ≤ (t : Int) := fun t' ht' => (List.pairwise_append.1 hso).2.2 t' ht' _ (by simp)
      have hso2 : (starts A ++ starts r).Pairwise (· ≤ ·) := by
        refine List.pairwise_append.2 ⟨(List.pairwise_append.1 hso).1, (List.pairwise_cons.1 (List.pairwise_append.1 hso).2.1).2, fun a ha b hb => (List.pairwise_append.1 hso).2.2 a ha b (by simp [hb])⟩
      have hbase : ∀ m' M', (m' = true → ∃ s0 e0 : Nat, M' = [(s0 : Int), (e0 : Int)] ∧ s0 ≤ i ∧ e0 ≤ i ∧ (e0 = i → ∀ t ∈ starts r, (s0 : Int) ≤ t)) → SInv L i (condZ (dec s i).1 (dec s (i + (dec s i).2)).1) r A m' M' := fun m' M' hm' =>
        ⟨fun a ha => hI.wR a (by simp [ha]), hI.wA, fun a ha => hI.fR a (by rcases List.mem_append.1 ha with h | h <;> simp [h]), hso2, hI.oA, hm'⟩
      have hmr : m = true → ∃ s0 e0 : Nat, M = [(s0 : Int), (e0 : Int)] ∧ s0 ≤ i ∧ e0 ≤ i ∧ (e0 = i → ∀ t ∈ starts r, (s0 : Int) ≤ t) := fun hm => by
        obtain ⟨s0, e0, h1, h2, h3, h4⟩ := hI.mM hm
        exact ⟨s0, e0, h1, h2, h3, fun e t ht => h4 e t (by rw [starts_some]; simp [ht])⟩
      have hcd : (true && m && (decide (0 < 2) && decide (M.getD 0 0 < [(t : Int), -1].getD 0 0))) = (m && decide (M.getD 0 0 < (t : Int))) := by simp
      rw [stepF, hcd]
      by_cases hskip : (m && decide (M.getD 0 0 < (t : Int))) = true
      · rw [if_pos hskip]
        rw [Bool.and_eq_true, decide_eq_true_eq] at hskip
        obtain ⟨s0, e0, rfl, h2, h3, h4⟩ := hI.mM hskip.1
        have hlt : s0 < t := by have := hskip.2; simp at this; omega
        obtain ⟨d1, d2, d3⟩ := ih A m _ (hbase m _ hmr)
        refine ⟨Dm.trans (fun q hq => ?_) d1, d2.trans (Dm.sub fun q hq => ?_), d3⟩
        · rcases hq with hq | hq | hq
          · rcases kl_some.1 hq with ⟨e, he⟩ | hq
            · have : q.1 = t := by simp at e; omega
              exact ⟨(s0, e0), .inr (.inr ⟨hskip.1, rfl⟩), .inl (by rw [this]; exact hlt)⟩
            · exact ⟨q, .inl hq, le_.refl q⟩
          · exact ⟨q, .inr (.inl hq), le_.refl q⟩
          · exact ⟨q, .inr (.inr hq), le_.refl q⟩
        · rcases hq with hq | hq
          · exact .inl (kl_some.2 (.inr hq))
          · exact .inr hq
      · rw [if_neg hskip]
        by_cases h4 : (ins L x).f0 = 4
        · rw [if_pos h4, if_pos rfl]
          have hend : ∀ e, e ∈ endsF L s (n + 1) [x] last i ↔ e = i := fun e => by
            rw [ends_one h s n x last i e hw]
            constructor
            · rintro (⟨_, h⟩ | ⟨_, h, _⟩)
              · exact h
              · exact absurd h4 h
            · intro h; exact .inl ⟨h4, h⟩
          have hc2 : (decide (0 < 2) && (!true || (!m || decide (M.getD 1 0 < (i : Int))))) = (!m || decide (M.getD 1 0 < (i : Int))) := by simp
          rw [hc2]
          by_cases hup : (!m || decide (M.getD 1 0 < (i : Int))) = true
          · rw [if_pos hup]
            have e1 : [(t : Int), -1].set 1 (i : Int) = [(t : Int), (i : Int)] := rfl
            rw [e1]
            obtain ⟨d1, d2, d3⟩ := ih A true [(t : Int), (i : Int)] (hbase true _ fun _ => ⟨t, i, rfl, hti, Nat.le_refl _, fun _ => hsr⟩)
            refine ⟨Dm.trans (fun q hq => ?_) d1, d2.trans (Dm.sub fun q hq => ?_), d3⟩
            · rcases hq with hq | hq | hq
              · rcases kl_some.1 hq with ⟨e, he⟩ | hq
                · have h1 : q.1 = t := by simp at e; omega
                  have h2 := (hend q.2).1 he
                  exact ⟨(t, i), .inr (.inr ⟨rfl, rfl⟩), .inr ⟨h1.symm, by rw [h2]; exact Nat.le_refl _⟩⟩
                · exact ⟨q, .inl hq, le_.refl q⟩
              · exact ⟨q, .inr (.inl hq), le_.refl q⟩
              · obtain ⟨hm, hM⟩ := hq
                obtain ⟨s0, e0, h1, h2, h3, h5⟩ := hI.mM hm
                rw [hM] at h1
                have hq1 : q.1 = s0 := by simp at h1; omega
                have hq2 : q.2 = e0 := by simp at h1; omega
                rw [hm, hM] at hskip
                have : ¬ (q.1 : Int) < (t : Int) := by simpa using hskip
                refine ⟨(t, i), .inr (.inr ⟨rfl, rfl⟩), ?_⟩
                unfold le_
                simp only
                omega
            · rcases hq with hq | hq | hq
              · exact .inl (kl_some.2 (.inr hq))
              · exact .inr (.inl hq)
              · obtain ⟨_, hM⟩ := hq
                simp only [List.cons.injEq, Int.natCast_inj, and_true] at hM
                exact .inl (kl_some.2 (.inl ⟨by rw [hM.1], (hend _).2 hM.2.symm⟩))
          · rw [if_neg hup]
            have hm : m = true := by cases m with | true => rfl | false => simp at hup
            subst hm
            obtain ⟨s0, e0, rfl, h2, h3, h5⟩ := hI.mM rfl
            have he0 : e0 = i := by
              have : ¬ (e0 : Int) < (i : Int) := by simpa using hup
              omega
            have hst0 : s0 = t := by
              have h6 := h5 he0 t (by rw [starts_some]; simp)
              have : ¬ (s0 : Int) < (t : Int) := by simpa using hskip
              omega
            obtain ⟨d1, d2, d3⟩ := ih A true _ (hbase true _ hmr)
            refine ⟨Dm.trans (fun q hq => ?_) d1, d2.trans (Dm.sub fun q hq => ?_), d3⟩
            · rcases hq with hq | hq
              · rcases kl_some.1 hq with ⟨e, he⟩ | hq
                · have h1 : q.1 = t := by simp at e; omega
                  have h2 := (hend q.2).1 he
                  refine ⟨(s0, e0), .inr (.inr ⟨rfl, rfl⟩), ?_⟩
                  unfold le_
                  simp only
                  omega
                · exact ⟨q, .inl hq, le_.refl q⟩
              · exact ⟨q, .inr hq, le_.refl q⟩
            · rcases hq with hq | hq
              · exact .inl (kl_some.2 (.inr hq))
              · exact .inr hq
        · rw [if_neg h4]
          by_cases ht : takesB (ins L x) (dec s i).1 = true
          · rw [if_pos ht]
            have h5 : (ins L x).f0 ≠ 5 := fun e => by unfold waitsB at hw; simp [e] at hw
            obtain ⟨o1, o2⟩ := h.outIn x hxl (by omega)
            obtain ⟨o, ho⟩ : ∃ o : Nat, (ins L x).f1.toNat = o := ⟨_, rfl⟩
            have hol : o < L.length := by omega
            rw [ho]
            obtain ⟨outs, hou, hoA⟩ := hI.oA
            have hnew := aF_two h (condZ (dec s i).1 (dec s (i + (dec s i).2)).1) np (L.length + 1) (A.map Prod.fst) o [(t : Int), -1] hol rfl
            have hA1 : (A ++ aF L (condZ (dec s i).1 (dec s (i + (dec s i).2)).1) np (L.length + 1) (A.map Prod.fst) o [(t : Int), -1]).map Prod.fst = reachA L (condZ (dec s i).1 (dec s (i + (dec s i).2)).1) [] (outs ++ [o]) := by
              rw [List.map_append, aF_rF, reachA_append, ← hoA]; rfl
            have hou2 : ∀ y ∈ outs ++ [o], y < L.length := fun y hy => by
              rcases List.mem_append.1 hy with hy | hy
              · exact hou y hy
              · simp only [List.mem_singleton] at hy; omega
            have hnd := (reachA_fine (cond := condZ (dec s i).1 (dec s (i + (dec s i).2)).1) h.leads (outs ++ [o]) [] ⟨by simp, fun y hy => by cases hy⟩ hou2).nd
            rw [← hA1, List.map_append] at hnd
            generalize aF L (condZ (dec s i).1 (dec s (i + (dec s i).2)).1) np (L.length + 1) (A.map Prod.fst) o [(t : Int), -1] = W at *
            have hsW : ∀ t' ∈ starts W, t' = (t : Int) := fun t' ht' => by
              unfold starts at ht'
              obtain ⟨a, ha, he⟩ := List.mem_filterMap.1 ht'
              cases hq : a.2 with
              | none => rw [hq] at he; cases he
              | some C' =>
                have hC' := (hnew a ha).2.2 C' hq
                rw [hq, hC'] at he
                simp at he
                exact he.symm
            have hI2 : SInv L i (condZ (dec s i).1 (dec s (i + (dec s i).2)).1) r (A ++ W) m M := by
              refine ⟨fun a ha => hI.wR a (by simp [ha]), fun a ha => ?_, fun a ha C hC => ?_, ?_, ⟨outs ++ [o], hou2, hA1⟩, hmr⟩
              · rcases List.mem_append.1 ha with ha | ha
                · exact hI.wA a ha
                · exact ⟨(hnew a ha).1, (hnew a ha).2.1⟩
              · rcases List.mem_append.1 ha with ha | ha
                · rcases List.mem_append.1 ha with ha | ha
                  · exact hI.fR a (by simp [ha]) C hC
                  · exact ⟨t, (hnew a ha).2.2 C hC, hti⟩
                · exact hI.fR a (by simp [ha]) C hC
              · rw [starts_append]
                refine List.pairwise_append.2 ⟨List.pairwise_append.2 ⟨(List.pairwise_append.1 hso).1, ?_, fun a ha b hb => ?_⟩, (List.pairwise_append.1 hso2).2.1, fun a ha b hb => ?_⟩
                · exact List.pairwise_iff_getElem.2 fun j k hj hk hjk => by rw [hsW _ (List.getElem_mem hj), hsW _ (List.getElem_mem hk)]; exact Int.le_refl _
                · rw [hsW b hb]; exact hsa a ha
                · rcases List.mem_append.1 ha with ha | ha
                  · exact Int.le_trans (hsa a ha) (hsr b hb)
                  · rw [hsW a ha]; exact hsr b hb
            obtain ⟨d1, d2, d3⟩ := ih (A ++ W) m M hI2
            have hR1 := mem_reach1 h (condZ (dec s i).1 (dec s (i + (dec s i).2)).1) (outs ++ [o]) hou2
            refine ⟨Dm.trans (fun q hq => ?_) d1, d2.trans (Dm.sub fun q hq => ?_), d3⟩
            · rcases hq with hq | hq | hq
              · rcases kl_some.1 hq with ⟨e, he⟩ | hq
                · have h1 : q.1 = t := by simp at e; omega
                  rcases (ends_one h s n x last i q.2 hw).1 he with ⟨k, _⟩ | ⟨k0, _, _, k3⟩
                  · exact absurd k h4
                  · rw [ho] at k3
                    obtain ⟨y, hy, hyw, hye⟩ := (ends_close h s n o _ _ q.2 hol).1 k3
                    have hyA : y ∈ (A ++ W).map Prod.fst := by rw [hA1]; exact (hR1 y).2 ⟨o, by simp, hy⟩
                    obtain ⟨a, ha, rfl⟩ := List.mem_map.1 hyA
                    have hsm := (hI2.wA a ha).2
                    rw [hyw] at hsm
                    obtain ⟨C', hC'⟩ := Option.isSome_iff_exists.1 hsm
                    obtain ⟨t', rfl, _⟩ := hI2.fR a (by simp only [List.mem_append]; exact .inl (by simpa using ha)) C' hC'
                    have hle : (t' : Int) ≤ (t : Int) := by
                      have hms : (t' : Int) ∈ starts (A ++ W) := by
                        have := starts_mem (R := A ++ W) (x := a.1) (C := [(t' : Int), -1]) (by rw [← hC']; exact ha)
                        simpa using this
                      rw [starts_append] at hms
                      rcases List.mem_append.1 hms with hms | hms
                      · exact hsa _ hms
                      · rw [hsW _ hms]; exact Int.le_refl _
                    refine ⟨(t', q.2), .inr (.inl ⟨k0, a.1, ?_, hye⟩), ?_⟩
                    · rw [← hC']; exact ha
                    · unfold le_
                      simp only
                      omega
                · exact ⟨q, .inl hq, le_.refl q⟩
              · obtain ⟨k0, y, hy, hye⟩ := hq
                exact ⟨q, .inr (.inl ⟨k0, y, by simp [hy], hye⟩), le_.refl q⟩
              · exact ⟨q, .inr (.inr hq), le_.refl q⟩
            · rcases hq with hq | hq | hq
              · exact .inl (kl_some.2 (.inr hq))
              · obtain ⟨k0, y, hy, hye⟩ := hq
                rcases List.mem_append.1 hy with hy | hy
                · exact .inr (.inl ⟨k0, y, hy, hye⟩)
                · have hC' := (hnew _ hy).2.2 _ rfl
                  have hyA : y ∈ (A ++ W).map Prod.fst := List.mem_map.2 ⟨_, by simp only [List.mem_append]; exact .inr hy, rfl⟩
                  have hyn : y ∉ A.map Prod.fst := fun e => (List.nodup_append.1 hnd).2.2 y e y (List.mem_map.2 ⟨_, hy, rfl⟩) rfl
                  rw [hA1] at hyA
                  obtain ⟨pc, hpc, hyr⟩ := (hR1 y).1 hyA
                  have hpo : pc = o := by
                    rcases List.mem_append.1 hpc with hpc | hpc
                    · exfalso
                      apply hyn
                      rw [hoA]
                      exact (mem_reach1 h _ outs hou y).2 ⟨pc, hpc, hyr⟩
                    · simpa using hpc
                  subst hpo
                  have hyw : waitsB (ins L y) = true := (hnew _ hy).2.1.symm
                  refine .inl (kl_some.2 (.inl ⟨hC'.symm, (ends_one h s n x last i q.2 hw).2 (.inr ⟨k0, h4, ht, ?_⟩)⟩))
                  rw [ho]
                  exact (ends_close h s n pc _ _ q.2 hol).2 ⟨y, hyr, hyw, hye⟩
              · exact .inr (.inr hq)
          · rw [if_neg ht]
            obtain ⟨d1, d2, d3⟩ := ih A m M (hbase m M hmr)
            refine ⟨Dm.trans (Dm.sub fun q hq => ?_) d1, d2.trans (Dm.sub fun q hq => ?_), d3⟩
            · rcases hq with hq | hq
              · rcases kl_some.1 hq with ⟨e, he⟩ | hq
                · rcases (ends_one h s n x last i q.2 hw).1 he with ⟨k, _⟩ | ⟨_, _, k, _⟩
                  · exact absurd k h4
                  · exact absurd k ht
                · exact .inl hq
              · exact .inr hq
            · rcases hq with hq | hq
              · exact .inl (kl_some.2 (.inr hq))
              · exact .inr hq
end Go.Proofs.YteoljppcafakpaaDoor.PgFnPgSpan
namespace Go.Proofs.YteoljppcafakpaaDoor.PgFnPgSpan
open Go.RowKit Go.Proofs.YteoljppcafakpaaDoor.EvN Go.Proofs.YteoljppcafakpaaDoor.Row Go.Proofs.YteoljppcafakpaaDoor.PFnPgSpan Go.Proofs.YteoljppcafakpaaDoorW.PrintWords Go.Proofs.YteoljppcafakpaaDoorW.PrintLast Go.Proofs.YteoljppcafakpaaDoorW.PrintMore
set_option linter.unusedVariables false
set_option linter.unusedSimpArgs false
def mLoop (L : List I) (st : Nat) (long anch : Bool) (s : ByteArray) : Nat → Int → Nat → List Ae → Bool → List Int → Bool × List Int
  | 0, _, _, _, b, M => (b, M)
  | k + 1, last, i, A, b, M =>
    if A = [] ∧ ((anch = true ∧ i ≠ 0) ∨ b = true) then (b, M) else
    let M1 := if b = true then M else M.set 0 (i : Int)
    let A1 := if b = true then A else A ++ aF L (condZ last (dec s i).1) (i : Int) (L.length + 1) (A.map Prod.fst) st M1
    let r := stepF L long M.length (dec s i).1 (condZ (dec s i).1 (dec s (i + (dec s i).2)).1) (i : Int) ((i + (dec s i).2 : Nat) : Int) A1 ([], b, M1)
    if (dec s i).2 = 0 then r.2 else if M.length = 0 ∧ r.2.1 = true then r.2 else mLoop L st long anch s k (dec s i).1 (i + (dec s i).2) r.1 r.2.1 r.2.2
def Lat (L : List I) (st : Nat) (s : ByteArray) : Nat → Int → Nat → (Nat × Nat) → Prop
  | 0, _, _, _ => False
  | k + 1, last, i, p => (p.1 = i ∧ p.2 ∈ endsF L s (k + 1) [st] last i) ∨ ((dec s i).2 ≠ 0 ∧ Lat L st s k (dec s i).1 (i + (dec s i).2) p)
theorem Lat.ge {L : List I} {st : Nat} {s : ByteArray} : ∀ {k : Nat} {last : Int} {i : Nat} {p : Nat × Nat}, Lat L st s k last i p → i ≤ p.1
  | 0, _, _, _, h => h.elim
  | k + 1, last, i, p, h => by
    rcases h with ⟨h, _⟩ | ⟨_, h⟩
    · omega
    · have := Lat.ge h; omega
theorem stepF_none (L : List I) (n : Nat) (c cond pos np : Int) : ∀ (RA A : List Ae) (m : Bool) (M : List Int), (stepF L true n c cond pos np RA (A, m, M)).2.1 = false → m = false ∧ (stepF L true n c cond pos np RA (A, m, M)).2.2 = M := by
  intro RA
  induction RA with
  | nil => intro A m M h; exact ⟨h, rfl⟩
  | cons a r ih =>
    intro A m M h
    obtain ⟨x, o⟩ := a
    cases o with
    | none => rw [stepF] at h ⊢; exact ih A m M h
    | some C =>
      rw [stepF] at h ⊢
      split at h
      · rename_i h1; rw [if_pos h1]; exact ih A m M h
      · rename_i h1
        rw [if_neg h1]
        split at h
        · rename_i h2
          rw [if_pos h2, if_pos rfl]
          rw [if_pos rfl] at h
          have := (ih _ _ _ h).1
          cases this
        · rename_i h2
          rw [if_neg h2]
          split at h
          · rename_i h3; rw [if_pos h3]; exact ih _ m M h
          · rename_i h3; rw [if_neg h3]; exact ih A m M h
structure LI (L : List I) (s : ByteArray) (last : Int) (i : Nat) (A : List Ae) (b : Bool) (M : List Int) : Prop where
  wR : ∀ a ∈ A, a.1 < L.length ∧ a.2.isSome = waitsB (ins L a.1)
  fR : ∀ a ∈ A, ∀ C, a.2 = some C → ∃ t : Nat, C = [(t : Int), -1] ∧ t ≤ i
  so : (starts A).Pairwise (· ≤ ·)
  oA : ∃ outs, (∀ x ∈ outs, x < L.length) ∧ A.map Prod.fst = reachA L (condZ last (dec s i).1) [] outs
  mM : b = true → ∃ s0 e0 : Nat, M = [(s0 : Int), (e0 : Int)] ∧ s0 < i ∧ e0 < i
  nM : b = false → ∃ x : Int, M = [x, -1]
theorem LI.len {L : List I} {s : ByteArray} {last : Int} {i : Nat} {A : List Ae} {b : Bool} {M : List Int} (h : LI L s last i A b M) : M.length = 2 := by
  cases b with
  | true => obtain ⟨s0, e0, rfl, _⟩ := h.mM rfl; rfl
  | false => obtain ⟨x, rfl⟩ := h.nM rfl; rfl
def TK (L : List I) (st : Nat) (s : ByteArray) (k : Nat) (last : Int) (i : Nat) (A : List Ae) (b : Bool) (M : List Int) (p : Nat × Nat) : Prop :=
  KL L s k last i A p ∨ KM b M p ∨ (b = false ∧ Lat L st s k last i p)
theorem starts_le {L : List I} {s : ByteArray} {last : Int} {i : Nat} {A : List Ae} {b : Bool} {M : List Int} (h : LI L s last i A b M) : ∀ t ∈ starts A, t ≤ (i : Int) := fun t ht => by
  unfold starts at ht
  obtain ⟨a, ha, he⟩ := List.mem_filterMap.1 ht
  cases hq : a.2 with
  | none => rw [hq] at he; cases he
  | some C =>
    obtain ⟨t0, rfl, h2⟩ := h.fR a ha C hq
    rw [hq] at he
    simp at he
    omega
theorem put_dm {L : List I} {stI nc most : Int} (h : PSound L stI nc most) (s : ByteArray) (st k : Nat) (hst : st < L.length) (last : Int) (i : Nat) (A : List Ae) (b : Bool) (M : List Int) (hI : LI L s last i A b M) :
    ∃ A1 M1, M1 = (if b = true then M else M.set 0 (i : Int)) ∧ A1 = (if b = true then A else A ++ aF L (condZ last (dec s i).1) (i : Int) (L.length + 1) (A.map Prod.fst) st M1) ∧
      SInv L i (condZ (dec s i).1 (dec s (i + (dec s i).2)).1) A1 [] b M1 ∧ (b = false → M1 = [(i : Int), -1]) ∧
      (∀ q, TK L st s (k + 1) last i A b M q → ∃ p, (XK L s k last i A1 [] b M1 p ∨ (b = false ∧ (dec s i).2 ≠ 0 ∧ Lat L st s k (dec s i).1 (i + (dec s i).2) p)) ∧ le_ p q) ∧
      (∀ p, (XK L s k last i A1 [] b M1 p ∨ (b = false ∧ (dec s i).2 ≠ 0 ∧ Lat L st s k (dec s i).1 (i + (dec s i).2) p)) → TK L st s (k + 1) last i A b M p) := by
  refine ⟨_, _, rfl, rfl, ?_⟩
  cases b with
  | true =>
    rw [if_pos rfl, if_pos rfl]
    obtain ⟨s0, e0, h1, h2, h3⟩ := hI.mM rfl
    refine ⟨⟨hI.wR, fun a ha => (by cases ha), fun a ha => hI.fR a (by simpa using ha), by simpa [starts] using hI.so, ⟨[], by simp, rfl⟩, fun _ => ⟨s0, e0, h1, by omega, by omega, fun e => by omega⟩⟩, fun e => (by cases e), fun q hq => ?_, fun p hp => ?_⟩
    · rcases hq with hq | hq | ⟨hq, _⟩
      · exact ⟨q, .inl (.inl hq), le_.refl q⟩
      · exact ⟨q, .inl (.inr (.inr hq)), le_.refl q⟩
      · cases hq
    · rcases hp with (hp | ⟨_, x, hx, _⟩ | hp) | ⟨hp, _⟩
      · exact .inl hp
      · cases hx
      · exact .inr (.inl hp)
      · cases hp
  | false =>
    rw [if_neg (by decide), if_neg (by decide)]
    obtain ⟨x0, rfl⟩ := hI.nM rfl
    have e1 : [x0, (-1 : Int)].set 0 (i : Int) = [(i : Int), -1] := rfl
    rw [e1]
    obtain ⟨outs, hou, hoA⟩ := hI.oA
    have hnew := aF_two h (condZ last (dec s i).1) (i : Int) (L.length + 1) (A.map Prod.fst) st [(i : Int), -1] hst rfl
    have hA1 : (A ++ aF L (condZ last (dec s i).1) (i : Int) (L.length + 1) (A.map Prod.fst) st [(i : Int), -1]).map Prod.fst = reachA L (condZ last (dec s i).1) [] (outs ++ [st]) := by
      rw [List.map_append, aF_rF, reachA_append, ← hoA]; rfl
    have hou2 : ∀ y ∈ outs ++ [st], y < L.length := fun y hy => by
      rcases List.mem_append.1 hy with hy | hy
      · exact hou y hy
      · simp only [List.mem_singleton] at hy; omega
    have hnd := (reachA_fine (cond := condZ last (dec s i).1) h.leads (outs ++ [st]) [] ⟨by simp, fun y hy => by cases hy⟩ hou2).nd
    rw [← hA1, List.map_append] at hnd
    generalize aF L (condZ last (dec s i).1) (i : Int) (L.length + 1) (A.map Prod.fst) st [(i : Int), -1] = W at *
    have hsW : ∀ t' ∈ starts W, t' = (i : Int) := fun t' ht' => by
      unfold starts at ht'
      obtain ⟨a, ha, he⟩ := List.mem_filterMap.1 ht'
      cases hq : a.2 with
      | none => rw [hq] at he; cases he
      | some C' =>
        have hC' := (hnew a ha).2.2 C' hq
        rw [hq, hC'] at he
        simp at he
        exact he.symm
    have hwA : ∀ a ∈ A ++ W, a.1 < L.length ∧ a.2.isSome = waitsB (ins L a.1) := fun a ha => by
      rcases List.mem_append.1 ha with ha | ha
      · exact hI.wR a ha
      · exact ⟨(hnew a ha).1, (hnew a ha).2.1⟩
    have hfA : ∀ a ∈ A ++ W, ∀ C, a.2 = some C → ∃ t : Nat, C = [(t : Int), -1] ∧ t ≤ i := fun a ha C hC => by
      rcases List.mem_append.1 ha with ha | ha
      · exact hI.fR a ha C hC
      · exact ⟨i, (hnew a ha).2.2 C hC, Nat.le_refl _⟩
    have hR1 := mem_reach1 h (condZ last (dec s i).1) (outs ++ [st]) hou2
    refine ⟨⟨hwA, fun a ha => (by cases ha), fun a ha => hfA a (by simpa using ha), ?_, ⟨[], by simp, rfl⟩, fun e => (by cases e)⟩, fun _ => rfl, fun q hq => ?_, fun p hp => ?_⟩
    · have : starts [] ++ starts (A ++ W) = starts A ++ starts W := by rw [starts_append]; rfl
      rw [this]
      refine List.pairwise_append.2 ⟨hI.so, List.pairwise_iff_getElem.2 fun j k hj hk hjk => by rw [hsW _ (List.getElem_mem hj), hsW _ (List.getElem_mem hk)]; exact Int.le_refl _, fun a ha b hb => ?_⟩
      rw [hsW b hb]
      exact starts_le hI a ha
    · rcases hq with ⟨x, hx, he⟩ | ⟨hq, _⟩ | ⟨_, hq⟩
      · exact ⟨q, .inl (.inl ⟨x, by simp [hx], he⟩), le_.refl q⟩
      · cases hq
      · rcases hq with ⟨h1, he⟩ | ⟨h0, hq⟩
        · obtain ⟨y, hy, hyw, hye⟩ := (ends_close h s (k + 1) st _ _ q.2 hst).1 he
          have hyA : y ∈ (A ++ W).map Prod.fst := by rw [hA1]; exact (hR1 y).2 ⟨st, by simp, hy⟩
          obtain ⟨a, ha, rfl⟩ := List.mem_map.1 hyA
          have hsm := (hwA a ha).2
          rw [hyw] at hsm
          obtain ⟨C', hC'⟩ := Option.isSome_iff_exists.1 hsm
          obtain ⟨t', rfl, ht'⟩ := hfA a ha C' hC'
          refine ⟨(t', q.2), .inl (.inl ⟨a.1, ?_, hye⟩), ?_⟩
          · rw [← hC']; exact ha
          · unfold le_; simp only; omega
        · exact ⟨q, .inr ⟨rfl, h0, hq⟩, le_.refl q⟩
    · rcases hp with (⟨y, hy, hye⟩ | ⟨_, x, hx, _⟩ | ⟨hp, _⟩) | ⟨_, h0, hp⟩
      · rcases List.mem_append.1 hy with hy | hy
        · exact .inl ⟨y, hy, hye⟩
        · have hC' := (hnew _ hy).2.2 _ rfl
          have hyA : y ∈ (A ++ W).map Prod.fst := List.mem_map.2 ⟨_, by simp only [List.mem_append]; exact .inr hy, rfl⟩
          have hyn : y ∉ A.map Prod.fst := fun e => (List.nodup_append.1 hnd).2.2 y e y (List.mem_map.2 ⟨_, hy, rfl⟩) rfl
          rw [hA1] at hyA
          obtain ⟨pc, hpc, hyr⟩ := (hR1 y).1 hyA
          have hpo : pc = st := by
            rcases List.mem_append.1 hpc with hpc | hpc
            · exfalso
              apply hyn
              rw [hoA]
              exact (mem_reach1 h _ outs hou y).2 ⟨pc, hpc, hyr⟩
            · simpa using hpc
          subst hpo
          have hyw : waitsB (ins L y) = true := (hnew _ hy).2.1.symm
          refine .inr (.inr ⟨rfl, .inl ⟨?_, (ends_close h s (k + 1) pc _ _ p.2 hst).2 ⟨y, hyr, hyw, hye⟩⟩⟩)
          simp at hC'
          omega
      · cases hx
      · cases hp
      · exact .inr (.inr ⟨rfl, .inr ⟨h0, hp⟩⟩)
theorem loop_dm {L : List I} {stI nc most : Int} (h : PSound L stI nc most) (s : ByteArray) (st : Nat) (hst : st < L.length) (anch : Bool) : ∀ (k : Nat) (last : Int) (i : Nat) (A : List Ae) (b : Bool) (M : List Int), LI L s last i A b M →
    (anch = true → ∀ p, Lat L st s k last i p → p.1 = 0) →
    Dm (TK L st s k last i A b M) (KM (mLoop L st true anch s k last i A b M).1 (mLoop L st true anch s k last i A b M).2) ∧
    Dm (KM (mLoop L st true anch s k last i A b M).1 (mLoop L st true anch s k last i A b M).2) (TK L st s k last i A b M) := by
  intro k
  induction k with
  | zero =>
    intro last i A b M hI ha
    refine ⟨Dm.sub fun p hp => ?_, Dm.sub fun p hp => .inr (.inl hp)⟩
    rcases hp with ⟨x, _, he⟩ | hp | ⟨_, hp⟩
    · simp [endsF] at he
    · exact hp
    · exact hp.elim
  | succ k ih =>
    intro last i A b M hI ha
    rw [mLoop]
    by_cases hbr : A = [] ∧ ((anch = true ∧ i ≠ 0) ∨ b = true)
    · rw [if_pos hbr]
      obtain ⟨rfl, hbr⟩ := hbr
      refine ⟨Dm.sub fun p hp => ?_, Dm.sub fun p hp => .inr (.inl hp)⟩
      rcases hp with ⟨x, hx, _⟩ | hp | ⟨hb, hp⟩
      · cases hx
      · exact hp
      · rcases hbr with ⟨h1, h2⟩ | h1
        · have h3 := ha h1 p hp
          have h4 := hp.ge
          omega
        · rw [h1] at hb; cases hb
    · rw [if_neg hbr]
      have hlen := hI.len
      obtain ⟨A1, M1, hM1, hA1, hS, hn1, t1, t2⟩ := put_dm h s st k hst last i A b M hI
      simp only [← hM1]
      rw [← hA1, hlen]
      obtain ⟨d1, d2, d3⟩ := step_dm h s k i last ((i + (dec s i).2 : Nat) : Int) A1 [] b M1 hS
      have hnn := stepF_none L 2 (dec s i).1 (condZ (dec s i).1 (dec s (i + (dec s i).2)).1) (i : Int) ((i + (dec s i).2 : Nat) : Int) A1 [] b M1
      generalize stepF L true 2 (dec s i).1 (condZ (dec s i).1 (dec s (i + (dec s i).2)).1) (i : Int) ((i + (dec s i).2 : Nat) : Int) A1 ([], b, M1) = r at *
      obtain ⟨A2, m2, M2⟩ := r
      simp only at *
      have hx : ∀ p, XK L s k last i [] A2 m2 M2 p ↔ ((dec s i).2 ≠ 0 ∧ KL L s k (dec s i).1 (i + (dec s i).2) A2 p) ∨ KM m2 M2 p := fun p => by
        unfold XK
        constructor
        · rintro (⟨x, hx, _⟩ | hp)
          · cases hx
          · exact hp
        · exact .inr
      by_cases hw : (dec s i).2 = 0
      · rw [if_pos hw]
        refine ⟨fun q hq => ?_, fun q hq => ?_⟩
        · obtain ⟨p, hp | ⟨_, h0, _⟩, hle⟩ := t1 q hq
          · obtain ⟨p2, hp2, hle2⟩ := d1 p hp
            rcases (hx p2).1 hp2 with ⟨h0, _⟩ | hp2
            · exact absurd hw h0
            · exact ⟨p2, hp2, hle2.trans hle⟩
          · exact absurd hw h0
        · obtain ⟨p, hp, hle⟩ := d2 q ((hx q).2 (.inr hq))
          exact ⟨p, t2 p (.inl hp), hle⟩
      · rw [if_neg hw, if_neg (by omega)]
        have hI2 : LI L s (dec s i).1 (i + (dec s i).2) A2 m2 M2 := by
          refine ⟨d3.wA, fun a ha' C hC => ?_, (by simpa [starts] using d3.so), d3.oA, fun hm => ?_, fun hm => ?_⟩
          · obtain ⟨t, h1, h2⟩ := d3.fR a (by simpa using ha') C hC
            exact ⟨t, h1, by omega⟩
          · obtain ⟨s0, e0, h1, h2, h3, _⟩ := d3.mM hm
            exact ⟨s0, e0, h1, by omega, by omega⟩
          · obtain ⟨hb, hM⟩ := hnn hm
            exact ⟨_, hM.trans (hn1 hb)⟩
        obtain ⟨e1, e2⟩ := ih (dec s i).1 (i + (dec s i).2) A2 m2 M2 hI2 (fun h1 p hp => ha h1 p (.inr ⟨hw, hp⟩))
        refine ⟨Dm.trans (fun q hq => ?_) e1, e2.trans fun q hq => ?_⟩
        · obtain ⟨p, hp | ⟨hb, h0, hp⟩, hle⟩ := t1 q hq
          · obtain ⟨p2, hp2, hle2⟩ := d1 p hp
            refine ⟨p2, ?_, hle2.trans hle⟩
            rcases (hx p2).1 hp2 with ⟨_, hp2⟩ | hp2
            · exact .inl hp2
            · exact .inr (.inl hp2)
          · cases hm : m2 with
            | false => rw [hm] at *; exact ⟨p, .inr (.inr ⟨rfl, hp⟩), hle⟩
            | true =>
              obtain ⟨s0, e0, h1, h2, h3, _⟩ := d3.mM hm
              refine ⟨(s0, e0), .inr (.inl ⟨rfl, h1⟩), le_.trans (.inl ?_) hle⟩
              have := hp.ge
              simp only
              omega
        · rcases hq with hq | hq | ⟨hm, hq⟩
          · obtain ⟨p, hp, hle⟩ := d2 q ((hx q).2 (.inl ⟨hw, hq⟩))
            exact ⟨p, t2 p (.inl hp), hle⟩
          · obtain ⟨p, hp, hle⟩ := d2 q ((hx q).2 (.inr hq))
            exact ⟨p, t2 p (.inl hp), hle⟩
          · exact ⟨q, t2 q (.inr ⟨(hnn hm).1, hw, hq⟩), le_.refl q⟩
end Go.Proofs.YteoljppcafakpaaDoor.PgFnPgSpan
