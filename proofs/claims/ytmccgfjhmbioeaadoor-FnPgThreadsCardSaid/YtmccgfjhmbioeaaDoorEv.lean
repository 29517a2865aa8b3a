import Derived.Test.YtmccgfjhmbioeaaDoorWz
import Derived.RowKit
import Derived.WalkKit
namespace Go.Proofs.YtmccgfjhmbioeaaDoor.EvN
open Go.RowKit Go.Proofs.YtmccgfjhmbioeaaDoorW.PrintWords Go.Proofs.YtmccgfjhmbioeaaDoorW.PrintMore
def Evn {α : Type} (f : Nat → Option α) (v : α) : Prop := ∃ K, ∀ k, K ≤ k → f k = some v
theorem Evn.const {α : Type} (v : α) : Evn (fun _ => some v) v := ⟨0, fun _ _ => rfl⟩
theorem Evn.succ {α : Type} {f : Nat → Option α} {v : α} (h : Evn (fun k => f (k + 1)) v) : Evn f v := by
  obtain ⟨K, h⟩ := h
  refine ⟨K + 1, fun k hk => ?_⟩
  obtain ⟨j, rfl⟩ : ∃ j, k = j + 1 := ⟨k - 1, by omega⟩
  exact h j (by omega)
theorem Evn.bind {α β : Type} {f : Nat → Option α} {g : Nat → α → Option β} {a : α} {v : β} (h : Evn f a) (h2 : Evn (fun k => g k a) v) : Evn (fun k => (f k).bind (g k)) v := by
  obtain ⟨K, h⟩ := h
  obtain ⟨L, h2⟩ := h2
  refine ⟨max K L, fun k hk => ?_⟩
  show (f k).bind (g k) = some v
  rw [h k (by omega)]
  exact h2 k (by omega)
theorem Evn.congr {α : Type} {f g : Nat → Option α} {v : α} (h : Evn g v) (e : ∀ k, f k = g k) : Evn f v := by
  obtain ⟨K, h⟩ := h
  exact ⟨K, fun k hk => (e k).trans (h k hk)⟩
theorem Evn.get {α : Type} {f : Nat → Option α} {v : α} (h : Evn f v) : ∃ k, f k = some v := by
  obtain ⟨K, h⟩ := h
  exact ⟨K, h K (Nat.le_refl _)⟩
theorem wrap_nat (i j : Nat) (h : i + j ≤ 4611686018427387904) : wrap64 ((i : Int) + (j : Int)) = ((i + j : Nat) : Int) := by unfold wrap64; omega
theorem rd_nat (l : List Int) (i : Nat) (h : i < l.length) : rd l (i : Int) = l[i] := by
  unfold rd
  rw [List.getD_eq_getElem?_getD, Int.toNat_natCast, List.getElem?_eq_getElem h]; rfl
end Go.Proofs.YtmccgfjhmbioeaaDoor.EvN
