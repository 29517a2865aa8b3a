/- With rounds enough a printed function ends so; small facts on what is read. No walk, no function. -/
import Derived.Test.YtkcnodkojllobaaDoorWz
import Derived.RowKit
import Derived.WalkKit
namespace Go.Proofs.YtkcnodkojllobaaDoor.EvN
open Go.RowKit Go.Proofs.YtkcnodkojllobaaDoorW.PrintWords Go.Proofs.YtkcnodkojllobaaDoorW.PrintMore

/-- With rounds enough a function ends so. -/
def Evn {α : Type} (f : Nat → Option α) (v : α) : Prop := ∃ K, ∀ k, K ≤ k → f k = some v
theorem Evn.const {α : Type} (v : α) : Evn (fun _ => some v) v := ⟨0, fun _ _ => rfl⟩
theorem Evn.succ {α : Type} {f : Nat → Option α} {v : α} (h : Evn (fun k => f (k + 1)) v) : Evn f v := by
  obtain ⟨K, h⟩ := h
  refine ⟨K + 1, fun k hk => ?_⟩
  obtain ⟨j, rfl⟩ : ∃ j, k = j + 1 := ⟨k - 1, by omega⟩
  exact h j (by omega)
theorem Evn.bind {α β : Type} {f : Nat → Option α} {g : Nat → α → Option β} {a : α} {v : β} (h : Evn f a) (h2 : Evn (fun k => g k a) v) : Evn (fun k => (f k).bind (g k)) v := by
  obtain ⟨K, h⟩ := h
  obtain ⟨L, h2⟩ := h2
  refine ⟨max K L, fun k hk => ?_⟩
  show (f k).bind (g k) = some v
  rw [h k (by omega)]
  exact h2 k (by omega)
theorem Evn.congr {α : Type} {f g : Nat → Option α} {v : α} (h : Evn g v) (e : ∀ k, f k = g k) : Evn f v := by
  obtain ⟨K, h⟩ := h
  exact ⟨K, fun k hk => (e k).trans (h k hk)⟩
theorem Evn.get {α : Type} {f : Nat → Option α} {v : α} (h : Evn f v) : ∃ k, f k = some v := by
  obtain ⟨K, h⟩ := h
  exact ⟨K, h K (Nat.le_refl _)⟩

theorem wrap_nat (i j : Nat) (h : i + j ≤ 4611686018427387904) : wrap64 ((i : Int) + (j : Int)) = ((i + j : Nat) : Int) := by unfold wrap64; omega
theorem rd_nat (l : List Int) (i : Nat) (h : i < l.length) : rd l (i : Int) = l[i] := by
  unfold rd
  rw [List.getD_eq_getElem?_getD, Int.toNat_natCast, List.getElem?_eq_getElem h]; rfl
theorem and_low (a b m : Nat) (n : Nat) (hm : m < 2 ^ n) (h : a % 2 ^ n = b % 2 ^ n) : a &&& m = b &&& m := by
  apply Nat.eq_of_testBit_eq
  intro i
  rw [Nat.testBit_and, Nat.testBit_and]
  by_cases hi : i < n
  · have h1 := congrArg (fun x => x.testBit i) h
    simp only [Nat.testBit_mod_two_pow, hi, decide_true, Bool.true_and] at h1
    rw [h1]
  · rw [Nat.testBit_lt_two_pow (Nat.lt_of_lt_of_le hm (Nat.pow_le_pow_right (by omega) (by omega)))]
    simp
end Go.Proofs.YtkcnodkojllobaaDoor.EvN
