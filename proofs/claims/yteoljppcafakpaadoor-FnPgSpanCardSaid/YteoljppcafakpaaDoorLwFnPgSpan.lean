import Derived.Test.YteoljppcafakpaaDoorKaFnPgSpan
import Derived.Test.YteoljppcafakpaaDoorWaFnPgSpan
import Derived.Test.YteoljppcafakpaaDoorTcFnPgSpan
namespace Go.Proofs.YteoljppcafakpaaDoor.PgFnPgSpan
open Go.RowKit Go.Proofs.YteoljppcafakpaaDoor.EvN Go.Proofs.YteoljppcafakpaaDoor.Row Go.Proofs.YteoljppcafakpaaDoor.PFnPgSpan Go.Proofs.YteoljppcafakpaaDoorW.PrintWords Go.Proofs.YteoljppcafakpaaDoorW.PrintLast Go.Proofs.YteoljppcafakpaaDoorW.PrintMore
set_option linter.unusedVariables false
set_option linter.unusedSimpArgs false
theorem reachA_append (L : List I) (cond : Int) (D p q : List Nat) : reachA L cond D (p ++ q) = reachA L cond (reachA L cond D p) q := by unfold reachA; rw [List.foldl_append]
theorem nextP_cons (L : List I) (c : Int) (pc : Nat) (D : List Nat) : nextP L c (pc :: D) = (if goes L c pc = true then [(ins L pc).f1.toNat] else []) ++ nextP L c D := by
  unfold nextP
  rw [List.filter_cons]
  split <;> simp
theorem rF_wait (L : List I) (cond : Int) (n : Nat) (D : List Nat) (pc : Nat) (h0 : pc ≠ 0) (hD : pc ∉ D) (hw : waitsB (ins L pc) = true) : rF L cond (n + 1) D pc = D ++ [pc] := by
  unfold waitsB at hw
  simp only [Bool.not_eq_true', Bool.or_eq_false_iff, decide_eq_false_iff_not] at hw
  obtain ⟨⟨⟨⟨w0, w2⟩, w6⟩, w3⟩, w5⟩ := hw
  rw [rF, if_neg (fun e => e.elim h0 hD), if_neg w0, if_neg (fun e => e.elim w2 w6), if_neg w3]
theorem reachA_waits (L : List I) (cond : Int) : ∀ (l D : List Nat), (∀ x ∈ l, waitsB (ins L x) = true ∧ x ≠ 0) → (D ++ l).Nodup → reachA L cond D l = D ++ l := by
  intro l
  induction l with
  | nil => intro D _ _; simp [reachA]
  | cons x l ih =>
    intro D h hd
    obtain ⟨h1, h2⟩ := h x (by simp)
    have hx : x ∉ D := fun e => by
      rw [List.nodup_append] at hd
      exact hd.2.2 x e x (by simp) rfl
    have : reachA L cond D (x :: l) = reachA L cond (rF L cond (L.length + 1) D x) l := rfl
    rw [this, rF_wait L cond _ D x h2 hx h1, ih (D ++ [x]) (fun y hy => h y (by simp [hy])) (by simpa using hd)]
    simp
theorem endsF_len (L : List I) (s : ByteArray) : ∀ (n : Nat) (pcs : List Nat) (last : Int) (i : Nat), (endsF L s n pcs last i).length ≤ n := by
  intro n
  induction n with
  | zero => intro pcs last i; simp [endsF]
  | succ n ih =>
    intro pcs last i
    rw [endsF]
    split
    · simp
    · rw [List.length_append]
      have := ih (if (dec s i).2 = 0 then [] else nextP L (dec s i).1 (reachA L (condZ last (dec s i).1) [] pcs)) (dec s i).1 (i + (dec s i).2)
      split <;> simp <;> omega
theorem dec_rng (s : ByteArray) (i : Nat) : -1 ≤ (dec s i).1 ∧ (dec s i).1 ≤ 1114111 := by
  unfold dec
  split
  · simp
  · have := Lib.rune_le s i
    simp only
    omega
def bordF (s : ByteArray) : Nat → Nat → List Nat
  | 0, i => [i]
  | n + 1, i => if s.size ≤ i then [i] else i :: bordF s n (i + (dec s i).2)
theorem dec_pos (s : ByteArray) (i : Nat) (h : i < s.size) : 0 < (dec s i).2 := by
  have := dec_w s i
  omega
end Go.Proofs.YteoljppcafakpaaDoor.PgFnPgSpan
