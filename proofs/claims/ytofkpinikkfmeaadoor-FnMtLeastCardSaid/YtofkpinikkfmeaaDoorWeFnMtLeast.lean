/- The walk of weigh, over trees that are sound and small enough. -/
import Derived.Test.YtofkpinikkfmeaaDoorTrFnMtLeast
import Derived.Test.YtofkpinikkfmeaaDoorBase
import Derived.Test.YtofkpinikkfmeaaDoorPimFnMtLeast
namespace Go.Proofs.YtofkpinikkfmeaaDoor.TrFnMtLeast
open Go.RowKit Go.Proofs.YtofkpinikkfmeaaDoor.PFnMtLeast Go.Proofs.YtofkpinikkfmeaaDoorW.PrintWords Go.Proofs.YtofkpinikkfmeaaDoorW.PrintLast

abbrev T := S25

mutual
def cnt : T → Nat
  | ⟨_, _, _, _, _, _, _, l⟩ => cntL l + 1
def cntL : List T → Nat
  | [] => 0
  | t :: r => cnt t + cntL r
end
mutual
def dep : T → Nat
  | ⟨_, _, _, _, _, _, _, l⟩ => depL l
def depL : List T → Nat
  | [] => 0
  | t :: r => max (dep t + 1) (depL r)
end
/-- How often a node's parts count. -/
def mul (t : T) : Int := if t.f0 = 17 then max (max t.f4 t.f3) 1 else 1
mutual
def cop : T → Int
  | ⟨a, b, c, mn, mx, d, e, l⟩ => (1 + copL l) * mul ⟨a, b, c, mn, mx, d, e, l⟩
def copL : List T → Int
  | [] => 0
  | t :: r => cop t + copL r
end
theorem cnt_eq (t : T) : cnt t = cntL t.f7 + 1 := by cases t; rw [cnt]
theorem dep_eq (t : T) : dep t = depL t.f7 := by cases t; rw [dep]
theorem cop_eq (t : T) : cop t = (1 + copL t.f7) * mul t := by cases t; rw [cop]
theorem mul_pos (t : T) : 1 ≤ mul t := by unfold mul; split <;> omega

theorem cop_pos (t : T) : 1 ≤ cop t := by
  refine tree_ind (p := fun t => 1 ≤ cop t) ?_ t
  intro t ih
  have hL : ∀ l : List T, (∀ s ∈ l, 1 ≤ cop s) → 0 ≤ copL l := by
    intro l
    induction l with
    | nil => intro _; rw [copL]; omega
    | cons a l ihl =>
      intro h
      rw [copL]
      have := h a (by simp)
      have := ihl fun s hs => h s (by simp [hs])
      omega
  have h0 := hL _ ih
  rw [cop_eq]
  have h1 := mul_pos t
  have := Int.mul_le_mul (show (1 : Int) ≤ 1 + copL t.f7 by omega) h1 (by omega) (by omega)
  omega

theorem copL_pos (l : List T) : 0 ≤ copL l := by
  induction l with
  | nil => rw [copL]; omega
  | cons a l ih => rw [copL]; have := cop_pos a; omega

theorem cntL_take (l : List T) (k : Nat) (h : k < l.length) : cntL (l.take (k + 1)) = cntL (l.take k) + cnt l[k] := by
  induction l generalizing k with
  | nil => simp at h
  | cons a l ih =>
    cases k with
    | zero => simp [cntL]
    | succ k =>
      simp only [List.take_succ_cons, cntL, List.getElem_cons_succ]
      rw [ih k (by simpa using h)]; omega
theorem copL_take (l : List T) (k : Nat) (h : k < l.length) : copL (l.take (k + 1)) = copL (l.take k) + cop l[k] := by
  induction l generalizing k with
  | nil => simp at h
  | cons a l ih =>
    cases k with
    | zero => simp [copL]
    | succ k =>
      simp only [List.take_succ_cons, copL, List.getElem_cons_succ]
      rw [ih k (by simpa using h)]; omega
theorem cntL_le (l : List T) (k : Nat) : cntL (l.take k) ≤ cntL l := by
  induction l generalizing k with
  | nil => simp
  | cons a l ih =>
    cases k with
    | zero => simp [cntL]
    | succ k => simp only [List.take_succ_cons, cntL]; have := ih k; omega
theorem copL_le (l : List T) (k : Nat) : copL (l.take k) ≤ copL l := by
  induction l generalizing k with
  | nil => simp
  | cons a l ih =>
    cases k with
    | zero => rw [List.take_zero]; have := copL_pos (a :: l); simp only [copL] at *; omega
    | succ k => simp only [List.take_succ_cons, copL]; have := ih k; omega
theorem depL_mem (l : List T) (s : T) (h : s ∈ l) : dep s + 1 ≤ depL l := by
  induction l with
  | nil => cases h
  | cons a l ih =>
    rw [depL]
    rcases List.mem_cons.1 h with rfl | h
    · omega
    · have := ih h; omega
theorem copL_mem (l : List T) (s : T) (h : s ∈ l) : cop s ≤ copL l := by
  induction l with
  | nil => cases h
  | cons a l ih =>
    rw [copL]
    rcases List.mem_cons.1 h with rfl | h
    · have := copL_pos l; omega
    · have := ih h; have := cop_pos a; omega

theorem copL_le_cop (t : T) : 1 + copL t.f7 ≤ cop t := by
  rw [cop_eq]
  have h1 := mul_pos t
  have h2 := copL_pos t.f7
  have := Int.mul_le_mul_of_nonneg_left h1 (show (0 : Int) ≤ 1 + copL t.f7 by omega)
  omega

/-- Every node is none that is refused. -/
inductive AllS : T → Prop
  | mk (t : T) (h : ∃ k, impl_sound.f k t.f0 t.f1 t.f2 t.f3 t.f4 t.f5 t.f6 t.f7 = some true) (hs : ∀ s ∈ t.f7, AllS s) : AllS t

theorem grown_trans {a b c : World} {r : Option Nat} (h : a.grownBy b r) (k : b.grownBy c r) : a.grownBy c r :=
  ⟨k.os.trans h.os, k.tape.trans h.tape, k.output.trans h.output, Nat.le_trans h.size k.size, fun i hi hne => (k.block i (Nat.lt_of_lt_of_le hi h.size) hne).trans (h.block i hi hne)⟩
theorem grown_refl (a : World) (r : Option Nat) : a.grownBy a r := ⟨rfl, rfl, rfl, Nat.le_refl _, fun _ _ _ => rfl⟩
theorem grown_alloc {a b : World} {r : Option Nat} (h : a.grownBy b r) (o : Obj) : a.grownBy (b.alloc o) r :=
  grown_trans h ⟨rfl, rfl, rfl, by simp, fun i hi _ => Below.heap_alloc _ _ _ hi⟩
theorem grown_below {a b : World} {B r : Nat} (h : a.grownBy b (some r)) (hr : B ≤ r) (hB : B ≤ a.heap.size) : Below B a b :=
  ⟨h.os, h.tape, h.output, h.size, fun i hi => h.block i (by omega) (fun e => by cases e; omega)⟩
theorem grown_of_below {a b : World} (h : Below a.heap.size a b) (r : Option Nat) : a.grownBy b r :=
  ⟨h.os, h.tape, h.output, h.size, fun i hi _ => h.block i hi⟩
theorem grown_set {a b : World} {r : Nat} (h : a.grownBy b (some r)) (j : Nat) (v : Value) : a.grownBy (b.setCell ⟨r, j, none⟩ v) (some r) :=
  grown_trans h ⟨rfl, rfl, rfl, by simp [World.setCell], fun i _ hne => Below.heap_setCell _ _ _ _ (fun e => hne (by rw [e]))⟩

end Go.Proofs.YtofkpinikkfmeaaDoor.TrFnMtLeast
