import Derived.Test.YtmccgfjhmbioeaaDoorJxFnPgThreads
import Derived.Test.YtmccgfjhmbioeaaDoorNxFnPgThreads
import Derived.Test.YtmccgfjhmbioeaaDoorKaFnPgThreads
import Derived.Test.YtmccgfjhmbioeaaDoorWaFnPgThreads
import Derived.Lib.MapLaws
import Derived.Lib.TrimUEq
import Derived.Lib.SpaceUEq
import Derived.Test.YtmccgfjhmbioeaaDoorCbFnPgThreads
namespace Go.Proofs.YtmccgfjhmbioeaaDoor.PgFnPgThreads
open Go.RowKit Go.Proofs.YtmccgfjhmbioeaaDoor.EvN Go.Proofs.YtmccgfjhmbioeaaDoor.Row Go.Proofs.YtmccgfjhmbioeaaDoor.Sf Go.Proofs.YtmccgfjhmbioeaaDoor.PFnPgThreads Go.Proofs.YtmccgfjhmbioeaaDoorW.PrintWords Go.Proofs.YtmccgfjhmbioeaaDoorW.PrintLast Go.Proofs.YtmccgfjhmbioeaaDoorW.PrintMore
set_option linter.unusedSimpArgs false
set_option linter.unusedVariables false
def succs (L : List I) (cond : Int) (x : Nat) : List Nat :=
  if (ins L x).f0 = 0 then [(ins L x).f1.toNat, (ins L x).f2.toNat]
  else if (ins L x).f0 = 2 ∨ (ins L x).f0 = 6 then [(ins L x).f1.toNat]
  else if (ins L x).f0 = 3 then (if holds cond (ins L x).f2 = true then [(ins L x).f1.toNat] else [])
  else []
inductive Rch (L : List I) (cond : Int) : Nat → Nat → Prop
  | refl (x : Nat) : Rch L cond x x
  | step (x y z : Nat) : y ∈ succs L cond x → Rch L cond y z → Rch L cond x z
theorem Rch.trans {L : List I} {cond : Int} {x y z : Nat} (h : Rch L cond x y) (k : Rch L cond y z) : Rch L cond x z := by
  induction h with
  | refl x => exact k
  | step x y z hs _ ih => exact .step x y _ hs (ih k)
structure Dfs (L : List I) (cond : Int) (D : List Nat) (pc : Nat) (R : List Nat) : Prop where
  at_ : pc = 0 ∨ pc ∈ R
  sub : ∀ x ∈ D, x ∈ R
  rch : ∀ x ∈ R, x ∈ D ∨ Rch L cond pc x
  cls : ∀ x ∈ R, x ∈ D ∨ ∀ y ∈ succs L cond x, y = 0 ∨ y ∈ R
  nz : ∀ x ∈ R, x ∈ D ∨ x ≠ 0
structure DfsA (L : List I) (cond : Int) (D : List Nat) (pcs : List Nat) (R : List Nat) : Prop where
  at_ : ∀ pc ∈ pcs, pc = 0 ∨ pc ∈ R
  sub : ∀ x ∈ D, x ∈ R
  rch : ∀ x ∈ R, x ∈ D ∨ ∃ pc ∈ pcs, Rch L cond pc x
  cls : ∀ x ∈ R, x ∈ D ∨ ∀ y ∈ succs L cond x, y = 0 ∨ y ∈ R
  nz : ∀ x ∈ R, x ∈ D ∨ x ≠ 0
def Eqv (L : List I) (cond : Int) (p q : List Nat) : Prop := ∀ x, waitsB (ins L x) = true → (x ∈ reachA L cond [] p ↔ x ∈ reachA L cond [] q)
theorem Eqv.hasM {L : List I} {cond : Int} {p q : List Nat} (h : Eqv L cond p q) : hasM L (reachA L cond [] p) = hasM L (reachA L cond [] q) := by
  have w4 : ∀ x, ((ins L x).f0 == 4) = true → waitsB (ins L x) = true := fun x hx => by have := eq_of_beq hx; unfold waitsB; simp [this]
  unfold PgFnPgThreads.hasM
  rw [Bool.eq_iff_iff, List.any_eq_true, List.any_eq_true]
  constructor
  · rintro ⟨x, h1, h2⟩; exact ⟨x, (h x (w4 x h2)).1 h1, h2⟩
  · rintro ⟨x, h1, h2⟩; exact ⟨x, (h x (w4 x h2)).2 h1, h2⟩
theorem Eqv.next {L : List I} {cond : Int} {p q : List Nat} (h : Eqv L cond p q) (c : Int) (x : Nat) : x ∈ nextP L c (reachA L cond [] p) ↔ x ∈ nextP L c (reachA L cond [] q) := by
  have wg : ∀ y, goes L c y = true → waitsB (ins L y) = true := fun y hy => by unfold goes at hy; simp only [Bool.and_eq_true] at hy; exact hy.1.2
  unfold nextP
  rw [List.mem_map, List.mem_map]
  constructor
  · rintro ⟨y, h1, h2⟩
    obtain ⟨h3, h4⟩ := List.mem_filter.1 h1
    exact ⟨y, List.mem_filter.2 ⟨(h y (wg y h4)).1 h3, h4⟩, h2⟩
  · rintro ⟨y, h1, h2⟩
    obtain ⟨h3, h4⟩ := List.mem_filter.1 h1
    exact ⟨y, List.mem_filter.2 ⟨(h y (wg y h4)).2 h3, h4⟩, h2⟩
end Go.Proofs.YtmccgfjhmbioeaaDoor.PgFnPgThreads
namespace Go.Proofs.YtmccgfjhmbioeaaDoor.PgFnPgThreads
open Go.RowKit Go.Proofs.YtmccgfjhmbioeaaDoor.EvN Go.Proofs.YtmccgfjhmbioeaaDoor.Row Go.Proofs.YtmccgfjhmbioeaaDoor.Sf Go.Proofs.YtmccgfjhmbioeaaDoor.PFnPgThreads Go.Proofs.YtmccgfjhmbioeaaDoorW.PrintWords Go.Proofs.YtmccgfjhmbioeaaDoorW.PrintLast Go.Proofs.YtmccgfjhmbioeaaDoorW.PrintMore
set_option linter.unusedSimpArgs false
set_option linter.unusedVariables false
def outK (L : List I) (outs : List Nat) (j : Nat) (D : List Nat) : List Nat := outs ++ (if hasM L D = true then [j] else [])
def nextK (L : List I) (c : Int) (kk : Nat) (D : List Nat) : List Nat := if kk = 0 then [] else nextP L c D
theorem own_below {a b : World} {B n : Nat} {e : TypeId} {v : Value} {xs : List Value} (h : a.ownsRow B e 1 v n xs) (hb : Below a.heap.size a b) : b.ownsRow B e 1 v n xs :=
  h.kept (Row.grown_of_below hb none) (by cases v.ownBlock <;> simp)
abbrev iv (l : List Nat) : List Value := l.map fun x : Nat => Value.int .i64 (x : Int)
structure Inn (L : List I) (outs : List Nat) (j : Nat) (ch : Int) (kk : Nat) (D : List Nat) (w1 w2 w3 : World) (k : Nat) (wr : World) (v7 v8 : Value) : Prop where
  bl : Below w1.heap.size w1 wr
  fr : ∀ b, w2.heap.size ≤ b → b < w3.heap.size → wr.heap[b]? = w3.heap[b]?
  sz : w3.heap.size ≤ wr.heap.size
  oo : wr.ownsRow w1.heap.size 3 1 v7 (outK L outs j (D.take k)).length (iv (outK L outs j (D.take k)))
  np : wr.ownsRow w3.heap.size 3 1 v8 (nextK L ch kk (D.take k)).length (iv (nextK L ch kk (D.take k)))
  ob : ∀ b, v7.ownBlock = some b → b < w2.heap.size ∨ w3.heap.size ≤ b
  ap : v7.ownBlock = none ∨ v7.ownBlock ≠ v8.ownBlock
section
variable {L : List I} {outs : List Nat} {j : Nat} {ch : Int} {kk : Nat} {D : List Nat} {w1 w2 w3 wr W W' : World} {k : Nat} {v7 v8 : Value}
theorem Inn.below (h : Inn L outs j ch kk D w1 w2 w3 k wr v7 v8) (hb : Below wr.heap.size wr W) : Inn L outs j ch kk D w1 w2 w3 k W v7 v8 :=
  ⟨below_step h.bl hb, fun b h1 h2 => (hb.block b (by have := h.sz; omega)).trans (h.fr b h1 h2), Nat.le_trans h.sz hb.size, own_below h.oo hb, own_below h.np hb, h.ob, h.ap⟩
theorem Inn.skip (h : Inn L outs j ch kk D w1 w2 w3 k wr v7 v8) (e1 : outK L outs j (D.take (k + 1)) = outK L outs j (D.take k)) (e2 : nextK L ch kk (D.take (k + 1)) = nextK L ch kk (D.take k)) : Inn L outs j ch kk D w1 w2 w3 (k + 1) wr v7 v8 :=
  ⟨h.bl, h.fr, h.sz, by rw [e1]; exact h.oo, by rw [e2]; exact h.np, h.ob, h.ap⟩
end
end Go.Proofs.YtmccgfjhmbioeaaDoor.PgFnPgThreads
namespace Go.Proofs.YtmccgfjhmbioeaaDoor.PgFnPgThreads
open Go.RowKit Go.Proofs.YtmccgfjhmbioeaaDoor.EvN Go.Proofs.YtmccgfjhmbioeaaDoor.Row Go.Proofs.YtmccgfjhmbioeaaDoor.PFnPgThreads Go.Proofs.YtmccgfjhmbioeaaDoorW.PrintWords Go.Proofs.YtmccgfjhmbioeaaDoorW.PrintLast Go.Proofs.YtmccgfjhmbioeaaDoorW.PrintMore
set_option linter.unusedVariables false
set_option linter.unusedSimpArgs false
theorem dec_rng (s : ByteArray) (i : Nat) : -1 ≤ (dec s i).1 ∧ (dec s i).1 ≤ 1114111 := by
  unfold dec
  split
  · simp
  · have := Lib.rune_le s i
    simp only
    omega
end Go.Proofs.YtmccgfjhmbioeaaDoor.PgFnPgThreads
namespace Go.Proofs.YtmccgfjhmbioeaaDoor.PgFnPgThreads
open Go.RowKit Go.Proofs.YtmccgfjhmbioeaaDoor.EvN Go.Proofs.YtmccgfjhmbioeaaDoor.Row Go.Proofs.YtmccgfjhmbioeaaDoor.PFnPgThreads Go.Proofs.YtmccgfjhmbioeaaDoorW.PrintWords Go.Proofs.YtmccgfjhmbioeaaDoorW.PrintLast Go.Proofs.YtmccgfjhmbioeaaDoorW.PrintMore
set_option linter.unusedVariables false
set_option linter.unusedSimpArgs false
end Go.Proofs.YtmccgfjhmbioeaaDoor.PgFnPgThreads
namespace Go.Proofs.YtmccgfjhmbioeaaDoor.Ut
open Go Go.Lib
set_option linter.unusedSimpArgs false
set_option linter.unusedVariables false
def scalar (r : Int) : Prop := 0 ≤ r ∧ r ≤ 1114111 ∧ (r < 55296 ∨ 57343 < r)
theorem last4 (t : List UInt8) (c0 c1 c2 c3 : UInt8) (h3 : 128 ≤ c3.toNat) (h2 : runeStartB c2 = false) (h1 : runeStartB c1 = false) (h0 : runeStartB c0 = true) (hd : (decodeL [c0, c1, c2, c3]).2 = 4) : decodeLastL (t ++ [c0, c1, c2, c3]) = decodeL [c0, c1, c2, c3] := by
  have g1 := getD_app_end t [c0, c1, c2, c3] 1 (by omega) (by simp)
  have g2 := getD_app_end t [c0, c1, c2, c3] 2 (by omega) (by simp)
  have g3 := getD_app_end t [c0, c1, c2, c3] 3 (by omega) (by simp)
  have g4 := getD_app_end t [c0, c1, c2, c3] 4 (by omega) (by simp)
  have hl : (t ++ [c0, c1, c2, c3]).length = t.length + 4 := by simp
  have hs : lastStart (t ++ [c0, c1, c2, c3]) = (t ++ [c0, c1, c2, c3]).length - 4 := by
    unfold lastStart
    simp only [g2, g3, g4]
    rw [if_neg (by omega)]
    simp only [List.length_cons, List.length_nil, List.getD_cons_succ, List.getD_cons_zero, Nat.reduceAdd, Nat.reduceSub, h1, h0, h2, Bool.false_eq_true, if_false, if_true]
    rw [if_neg (by omega), if_neg (by omega)]
  have hdrop := drop_app_end t [c0, c1, c2, c3]
  unfold decodeLastL
  rw [if_neg (by simp), g1, if_neg (by simp; omega), hs]
  simp only [List.length_cons, List.length_nil] at hdrop
  simp only [hdrop, hd]
  rw [if_pos (by omega)]
end Go.Proofs.YtmccgfjhmbioeaaDoor.Ut
namespace Go.Proofs.YtmccgfjhmbioeaaDoor.PgFnPgThreads
open Go.RowKit Go.Proofs.YtmccgfjhmbioeaaDoor.EvN Go.Proofs.YtmccgfjhmbioeaaDoor.Row Go.Proofs.YtmccgfjhmbioeaaDoor.Sf Go.Proofs.YtmccgfjhmbioeaaDoor.PFnPgThreads Go.Proofs.YtmccgfjhmbioeaaDoorW.PrintWords Go.Proofs.YtmccgfjhmbioeaaDoorW.PrintLast Go.Proofs.YtmccgfjhmbioeaaDoorW.PrintMore
set_option linter.unusedSimpArgs false
set_option linter.unusedVariables false
def encs (l : List Int) : List UInt8 := l.flatMap Lib.encodeRune
theorem Eqv.refl (L : List I) (cond : Int) (p : List Nat) : Eqv L cond p p := fun _ _ => Iff.rfl
theorem Eqv.trans {L : List I} {cond : Int} {p q r : List Nat} (h : Eqv L cond p q) (k : Eqv L cond q r) : Eqv L cond p r := fun x hx => (h x hx).trans (k x hx)
end Go.Proofs.YtmccgfjhmbioeaaDoor.PgFnPgThreads
namespace Go.Proofs.YtmccgfjhmbioeaaDoor.PgFnPgThreads
open Go.RowKit Go.Proofs.YtmccgfjhmbioeaaDoor.EvN Go.Proofs.YtmccgfjhmbioeaaDoor.Row Go.Proofs.YtmccgfjhmbioeaaDoor.PFnPgThreads Go.Proofs.YtmccgfjhmbioeaaDoorW.PrintWords Go.Proofs.YtmccgfjhmbioeaaDoorW.PrintLast Go.Proofs.YtmccgfjhmbioeaaDoorW.PrintMore
set_option linter.unusedVariables false
set_option linter.unusedSimpArgs false
def le_ (p q : Nat × Nat) : Prop := p.1 < q.1 ∨ (p.1 = q.1 ∧ q.2 ≤ p.2)
theorem le_.refl (p : Nat × Nat) : le_ p p := .inr ⟨rfl, Nat.le_refl _⟩
theorem le_.trans {p q r : Nat × Nat} (h : le_ p q) (k : le_ q r) : le_ p r := by
  unfold le_ at *
  omega
def Dm (X Y : Nat × Nat → Prop) : Prop := ∀ q, X q → ∃ p, Y p ∧ le_ p q
theorem Dm.trans {X Y Z : Nat × Nat → Prop} (h : Dm X Y) (k : Dm Y Z) : Dm X Z := fun q hq => by
  obtain ⟨p, hp, h1⟩ := h q hq
  obtain ⟨r, hr, h2⟩ := k p hp
  exact ⟨r, hr, h2.trans h1⟩
theorem Dm.sub {X Y : Nat × Nat → Prop} (h : ∀ q, X q → Y q) : Dm X Y := fun q hq => ⟨q, h q hq, le_.refl q⟩
def starts (R : List Ae) : List Int := R.filterMap fun a => a.2.map fun C => C.getD 0 0
theorem starts_append (R T : List Ae) : starts (R ++ T) = starts R ++ starts T := by unfold starts; rw [List.filterMap_append]
theorem starts_mem {R : List Ae} {x : Nat} {C : List Int} (h : (x, some C) ∈ R) : C.getD 0 0 ∈ starts R := by
  unfold starts
  exact List.mem_filterMap.2 ⟨_, h, rfl⟩
structure SInv (L : List I) (i : Nat) (cond2 : Int) (RA A : List Ae) (m : Bool) (M : List Int) : Prop where
  wR : ∀ a ∈ RA, a.1 < L.length ∧ a.2.isSome = waitsB (ins L a.1)
  wA : ∀ a ∈ A, a.1 < L.length ∧ a.2.isSome = waitsB (ins L a.1)
  fR : ∀ a ∈ A ++ RA, ∀ C, a.2 = some C → ∃ t : Nat, C = [(t : Int), -1] ∧ t ≤ i
  so : (starts A ++ starts RA).Pairwise (· ≤ ·)
  oA : ∃ outs, (∀ x ∈ outs, x < L.length) ∧ A.map Prod.fst = reachA L cond2 [] outs
  mM : m = true → ∃ s0 e0 : Nat, M = [(s0 : Int), (e0 : Int)] ∧ s0 ≤ i ∧ e0 ≤ i ∧ (e0 = i → ∀ t ∈ starts RA, (s0 : Int) ≤ t)
theorem starts_none (x : Nat) (r : List Ae) : starts ((x, none) :: r) = starts r := by unfold starts; rw [List.filterMap_cons]; rfl
end Go.Proofs.YtmccgfjhmbioeaaDoor.PgFnPgThreads
namespace Go.Proofs.YtmccgfjhmbioeaaDoor.PgFnPgThreads
open Go.RowKit Go.Proofs.YtmccgfjhmbioeaaDoor.EvN Go.Proofs.YtmccgfjhmbioeaaDoor.Row Go.Proofs.YtmccgfjhmbioeaaDoor.PFnPgThreads Go.Proofs.YtmccgfjhmbioeaaDoorW.PrintWords Go.Proofs.YtmccgfjhmbioeaaDoorW.PrintLast Go.Proofs.YtmccgfjhmbioeaaDoorW.PrintMore
set_option linter.unusedVariables false
set_option linter.unusedSimpArgs false
def mLoop (L : List I) (st : Nat) (long anch : Bool) (s : ByteArray) : Nat → Int → Nat → List Ae → Bool → List Int → Bool × List Int
  | 0, _, _, _, b, M => (b, M)
  | k + 1, last, i, A, b, M =>
    if A = [] ∧ ((anch = true ∧ i ≠ 0) ∨ b = true) then (b, M) else
    let M1 := if b = true then M else M.set 0 (i : Int)
    let A1 := if b = true then A else A ++ aF L (condZ last (dec s i).1) (i : Int) (L.length + 1) (A.map Prod.fst) st M1
    let r := stepF L long M.length (dec s i).1 (condZ (dec s i).1 (dec s (i + (dec s i).2)).1) (i : Int) ((i + (dec s i).2 : Nat) : Int) A1 ([], b, M1)
    if (dec s i).2 = 0 then r.2 else if M.length = 0 ∧ r.2.1 = true then r.2 else mLoop L st long anch s k (dec s i).1 (i + (dec s i).2) r.1 r.2.1 r.2.2
def Lat (L : List I) (st : Nat) (s : ByteArray) : Nat → Int → Nat → (Nat × Nat) → Prop
  | 0, _, _, _ => False
  | k + 1, last, i, p => (p.1 = i ∧ p.2 ∈ endsF L s (k + 1) [st] last i) ∨ ((dec s i).2 ≠ 0 ∧ Lat L st s k (dec s i).1 (i + (dec s i).2) p)
theorem Lat.ge {L : List I} {st : Nat} {s : ByteArray} : ∀ {k : Nat} {last : Int} {i : Nat} {p : Nat × Nat}, Lat L st s k last i p → i ≤ p.1
  | 0, _, _, _, h => h.elim
  | k + 1, last, i, p, h => by
    rcases h with ⟨h, _⟩ | ⟨_, h⟩
    · omega
    · have := Lat.ge h; omega
structure LI (L : List I) (s : ByteArray) (last : Int) (i : Nat) (A : List Ae) (b : Bool) (M : List Int) : Prop where
  wR : ∀ a ∈ A, a.1 < L.length ∧ a.2.isSome = waitsB (ins L a.1)
  fR : ∀ a ∈ A, ∀ C, a.2 = some C → ∃ t : Nat, C = [(t : Int), -1] ∧ t ≤ i
  so : (starts A).Pairwise (· ≤ ·)
  oA : ∃ outs, (∀ x ∈ outs, x < L.length) ∧ A.map Prod.fst = reachA L (condZ last (dec s i).1) [] outs
  mM : b = true → ∃ s0 e0 : Nat, M = [(s0 : Int), (e0 : Int)] ∧ s0 < i ∧ e0 < i
  nM : b = false → ∃ x : Int, M = [x, -1]
theorem LI.len {L : List I} {s : ByteArray} {last : Int} {i : Nat} {A : List Ae} {b : Bool} {M : List Int} (h : LI L s last i A b M) : M.length = 2 := by
  cases b with
  | true => obtain ⟨s0, e0, rfl, _⟩ := h.mM rfl; rfl
  | false => obtain ⟨x, rfl⟩ := h.nM rfl; rfl
end Go.Proofs.YtmccgfjhmbioeaaDoor.PgFnPgThreads
