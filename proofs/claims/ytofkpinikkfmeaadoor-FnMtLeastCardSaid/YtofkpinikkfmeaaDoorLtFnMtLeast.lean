/- The least length of a tree's matches, and sets of places that lie so far behind others. No walk. -/
import Derived.Test.YtofkpinikkfmeaaDoorPvFnMtLeast
namespace Go.Proofs.YtofkpinikkfmeaaDoor.TrFnMtLeast
open Go.RowKit Go.Proofs.YtofkpinikkfmeaaDoor.PFnMtLeast Go.Proofs.YtofkpinikkfmeaaDoorW.PrintWords Go.Proofs.YtofkpinikkfmeaaDoorW.PrintLast
set_option linter.unusedSimpArgs false
set_option linter.unusedVariables false

/-- utf8.RuneLen. -/
def rlen (c : Int) : Int := if c < 0 then -1 else if c ≤ 127 then 1 else if c ≤ 2047 then 2 else if 55296 ≤ c ∧ c ≤ 57343 then -1 else if c ≤ 65535 then 3 else if c ≤ 1114111 then 4 else -1
/-- The least bytes of a literal's character. -/
def rl (c : Int) : Int := if c = 65533 then 1 else rlen c
def litL : List Int → Int
  | [] => 0
  | c :: l => rl c + litL l
theorem rl_le (c : Int) : -1 ≤ rl c ∧ rl c ≤ 4 := by unfold rl rlen; repeat' split <;> omega
/-- A character that is none of the surrogates. -/
def okC (c : Int) : Prop := 0 ≤ c ∧ c ≤ 1114111 ∧ ¬ (55296 ≤ c ∧ c ≤ 57343)
theorem rl_pos {c : Int} (h : okC c) : 1 ≤ rl c := by
  unfold okC at h
  unfold rl rlen
  repeat' split
  all_goals omega
theorem rl_mono {c d : Int} (hc : okC c) (hd : okC d) (h : c ≤ d) (h2 : d ≠ 65533) : rl c ≤ rlen d := by
  unfold okC at hc hd
  unfold rl rlen
  repeat' split
  all_goals omega
theorem litL_append (a b : List Int) : litL (a ++ b) = litL a + litL b := by
  induction a with
  | nil => simp [litL]
  | cons c a ih => rw [List.cons_append, litL, litL, ih]; omega
theorem litL_le : ∀ l : List Int, (∀ c ∈ l, okC c) → 0 ≤ litL l ∧ litL l ≤ 4 * (l.length : Int)
  | [], _ => by simp [litL]
  | c :: l, h => by
    have h1 := rl_pos (h c (by simp))
    have h2 := rl_le c
    have h3 := litL_le l fun x hx => h x (by simp [hx])
    rw [litL, List.length_cons]
    push_cast
    omega

mutual
def minL : T → Int
  | ⟨a, b, c, d, e, f, g, l⟩ => if a = 3 then litL c else if a = 4 ∨ a = 5 ∨ a = 6 then 1 else if a = 13 ∨ a = 15 then minH l else if a = 17 then d * minH l else if a = 18 then minS l else if a = 19 then minB l else 0
def minH : List T → Int
  | [] => 0
  | t :: _ => minL t
def minS : List T → Int
  | [] => 0
  | t :: r => minL t + minS r
def minB : List T → Int
  | [] => 0
  | t :: r => minA (minL t) r
def minA : Int → List T → Int
  | m, [] => m
  | m, t :: r => minA (if minL t < m then minL t else m) r
end
theorem minL_eq (t : T) : minL t = if t.f0 = 3 then litL t.f2 else if t.f0 = 4 ∨ t.f0 = 5 ∨ t.f0 = 6 then 1 else if t.f0 = 13 ∨ t.f0 = 15 then minH t.f7 else if t.f0 = 17 then t.f3 * minH t.f7 else if t.f0 = 18 then minS t.f7 else if t.f0 = 19 then minB t.f7 else 0 := by cases t; rw [minL]
theorem minS_append (a : List T) (s : T) : minS (a ++ [s]) = minS a + minL s := by
  induction a with
  | nil => simp [minS]
  | cons t a ih => rw [List.cons_append, minS, minS, ih]; omega
theorem minA_le : ∀ (l : List T) (m : Int), minA m l ≤ m ∧ ∀ s ∈ l, minA m l ≤ minL s
  | [], m => ⟨by rw [minA]; omega, fun s hs => by cases hs⟩
  | t :: r, m => by
    obtain ⟨h1, h2⟩ := minA_le r (if minL t < m then minL t else m)
    rw [minA]
    refine ⟨by split at h1 <;> split <;> omega, fun s hs => ?_⟩
    rcases List.mem_cons.1 hs with rfl | hs
    · split at h1 <;> split <;> omega
    · exact h2 s hs
theorem minA_ge (B : Int) : ∀ (l : List T) (m : Int), B ≤ m → (∀ s ∈ l, B ≤ minL s) → B ≤ minA m l
  | [], m, h, _ => by rw [minA]; exact h
  | t :: r, m, h, hs => by
    rw [minA]
    exact minA_ge B r _ (by have := hs t (by simp); split <;> omega) fun s h => hs s (by simp [h])
theorem minB_le (l : List T) (s : T) (h : s ∈ l) : minB l ≤ minL s := by
  cases l with
  | nil => cases h
  | cons t r =>
    rw [minB]
    obtain ⟨h1, h2⟩ := minA_le r (minL t)
    rcases List.mem_cons.1 h with rfl | h
    · exact h1
    · exact h2 s h

/-- Every place of b lies m or more behind one of a. -/
def Lo (m : Int) (a b : List Bool) : Prop := ∀ k : Nat, b[k]? = some true → ∃ i : Nat, a[i]? = some true ∧ (i : Int) + m ≤ k
theorem Lo.refl (a : List Bool) : Lo 0 a a := fun k h => ⟨k, h, by omega⟩
theorem Lo.mono {m n : Int} {a b : List Bool} (h : Lo m a b) (hn : n ≤ m) : Lo n a b := fun k hk => by
  obtain ⟨i, h1, h2⟩ := h k hk
  exact ⟨i, h1, by omega⟩
theorem Lo.trans {m n : Int} {a b c : List Bool} (h : Lo m a b) (k : Lo n b c) : Lo (m + n) a c := fun j hj => by
  obtain ⟨i, h1, h2⟩ := k j hj
  obtain ⟨i0, h3, h4⟩ := h i h1
  exact ⟨i0, h3, by omega⟩
theorem Lo.none (m : Int) (a b : List Bool) (h : ∀ k : Nat, b[k]? ≠ some true) : Lo m a b := fun k hk => absurd hk (h k)
end Go.Proofs.YtofkpinikkfmeaaDoor.TrFnMtLeast
