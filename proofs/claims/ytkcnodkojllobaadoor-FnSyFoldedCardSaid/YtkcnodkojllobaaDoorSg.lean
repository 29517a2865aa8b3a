/- Simple folding: what the tables' trees tell; every orbit closes within four steps. No walk. -/
import Derived.Test.YtkcnodkojllobaaDoorSf
namespace Go.Proofs.YtkcnodkojllobaaDoor.Sf
open Go
set_option linter.unusedVariables false
set_option linter.unusedSimpArgs false

theorem blt_iff {a b : Nat} : Nat.blt a b = true ↔ a < b := by rw [Nat.blt_eq]
theorem ble_iff {a b : Nat} : Nat.ble a b = true ↔ a ≤ b := by rw [Nat.ble_eq]
theorem T.get_some : ∀ (t : T) (k : Nat) (x : Row), t.get k = some x → x ∈ t.list ∧ x.1 ≤ k ∧ k ≤ x.2.1
  | .e, k, x, h => by simp [T.get] at h
  | .n l y r, k, x, h => by
    rw [T.get] at h
    cases h1 : Nat.blt k y.1 with
    | true =>
      rw [h1, cond_true] at h
      obtain ⟨a, b⟩ := T.get_some l k x h
      exact ⟨by simp [T.list, a], b⟩
    | false =>
      rw [h1, cond_false] at h
      cases h2 : Nat.blt y.2.1 k with
      | true =>
        rw [h2, cond_true] at h
        obtain ⟨a, b⟩ := T.get_some r k x h
        exact ⟨by simp [T.list, a], b⟩
      | false =>
        rw [h2, cond_false] at h
        cases h
        have a1 : ¬ k < y.1 := fun a => by have := blt_iff.2 a; rw [h1] at this; cases this
        have a2 : ¬ y.2.1 < k := fun a => by have := blt_iff.2 a; rw [h2] at this; cases this
        exact ⟨by simp [T.list], by omega, by omega⟩
theorem sortB_cons {b : Nat} {x : Row} {r : List Row} (h : sortB b (x :: r) = true) : b ≤ x.1 ∧ x.1 ≤ x.2.1 ∧ sortB (x.2.1 + 1) r = true := by
  unfold sortB at h
  rw [Bool.and_eq_true, Bool.and_eq_true] at h
  exact ⟨Nat.le_of_ble_eq_true h.1.1, Nat.le_of_ble_eq_true h.1.2, h.2⟩
theorem sortB_lo : ∀ {l : List Row} {b : Nat}, sortB b l = true → ∀ y ∈ l, b ≤ y.1 ∧ y.1 ≤ y.2.1
  | [], _, _, y, hy => by cases hy
  | x :: r, b, h, y, hy => by
    obtain ⟨h1, h2, h3⟩ := sortB_cons h
    rcases List.mem_cons.1 hy with rfl | hy
    · exact ⟨h1, h2⟩
    · have := sortB_lo h3 y hy
      exact ⟨by omega, this.2⟩
theorem sortB_lt : ∀ {l : List Row} {b : Nat}, sortB b l = true → ∀ (i j : Nat) (hj : j < l.length) (hij : i < j), (l[i]'(by omega)).2.1 < l[j].1
  | [], _, _, i, j, hj, _ => by simp at hj
  | x :: r, b, h, i, j, hj, hij => by
    obtain ⟨h1, h2, h3⟩ := sortB_cons h
    obtain ⟨j, rfl⟩ : ∃ j', j = j' + 1 := ⟨j - 1, by omega⟩
    cases i with
    | zero =>
      have := sortB_lo h3 (r[j]'(by simp at hj; omega)) (List.getElem_mem _)
      simp only [List.getElem_cons_zero, List.getElem_cons_succ]
      omega
    | succ i =>
      simp only [List.getElem_cons_succ]
      exact sortB_lt h3 i j (by simp at hj; omega) (by omega)
theorem sortB_append : ∀ {l : List Row} {b : Nat} {x : Row} {r : List Row}, sortB b (l ++ x :: r) = true → sortB b l = true ∧ (∀ y ∈ l, y.2.1 < x.1) ∧ x.1 ≤ x.2.1 ∧ sortB (x.2.1 + 1) r = true
  | [], b, x, r, h => by
    obtain ⟨_, h2, h3⟩ := sortB_cons h
    exact ⟨rfl, (fun y hy => by cases hy), h2, h3⟩
  | y :: l, b, x, r, h => by
    obtain ⟨h1, h2, h3⟩ := sortB_cons (r := l ++ x :: r) h
    obtain ⟨k1, k2, k3, k4⟩ := sortB_append h3
    refine ⟨?_, fun z hz => ?_, k3, k4⟩
    · unfold sortB
      rw [Bool.and_eq_true, Bool.and_eq_true]
      exact ⟨⟨ble_iff.2 h1, ble_iff.2 h2⟩, k1⟩
    · rcases List.mem_cons.1 hz with rfl | hz
      · have := sortB_lo h3 x (by simp)
        omega
      · exact k2 z hz
theorem T.get_mem : ∀ (t : T) (b k : Nat) (x : Row), sortB b t.list = true → x ∈ t.list → x.1 ≤ k → k ≤ x.2.1 → t.get k = some x
  | .e, b, k, x, _, h, _, _ => by cases h
  | .n l y r, b, k, x, hs, h, h1, h2 => by
    obtain ⟨s1, s2, s3, s4⟩ := sortB_append (l := l.list) hs
    rw [T.list] at h
    rw [T.get]
    rcases List.mem_append.1 h with h | h
    · have := s2 x h
      have e : Nat.blt k y.1 = true := blt_iff.2 (by omega)
      rw [e, cond_true]
      exact T.get_mem l b k x s1 h h1 h2
    · rcases List.mem_cons.1 h with rfl | h
      · have e : Nat.blt k x.1 = false := by cases e : Nat.blt k x.1 with | false => rfl | true => have := blt_iff.1 e; omega
        have e2 : Nat.blt x.2.1 k = false := by cases e : Nat.blt x.2.1 k with | false => rfl | true => have := blt_iff.1 e; omega
        rw [e, e2, cond_false, cond_false]
      · have := sortB_lo s4 x h
        have e : Nat.blt k y.1 = false := by cases e : Nat.blt k y.1 with | false => rfl | true => have := blt_iff.1 e; omega
        have e2 : Nat.blt y.2.1 k = true := blt_iff.2 (by omega)
        rw [e, e2, cond_false, cond_true]
        exact T.get_mem r _ k x s4 h h1 h2
theorem T.get_none (t : T) (b k : Nat) (hs : sortB b t.list = true) (h : t.get k = none) : ∀ x ∈ t.list, ¬ (x.1 ≤ k ∧ k ≤ x.2.1) := by
  intro x hx ⟨h1, h2⟩
  rw [T.get_mem t b k x hs hx h1 h2] at h; cases h

theorem rangeB_get : ∀ (n lo : Nat), rangeB n lo = true → ∀ r, lo ≤ r → r < lo + n → chk r = true
  | 0, lo, _, r, h1, h2 => by omega
  | n + 1, lo, h, r, h1, h2 => by
    rw [rangeB, Bool.and_eq_true] at h
    by_cases e : r = lo
    · subst e; exact h.1
    · exact rangeB_get n (lo + 1) h.2 r (by omega) (by omega)
theorem chk_all (r : Nat) (hr : r ≤ 1114111) : chk r = true := by
  by_cases h0 : r < 128
  · exact rangeB_get 128 0 chk_asc r (by omega) (by omega)
  · cases h1 : orbT.get r with
    | some x =>
      obtain ⟨hx, h2, h3⟩ := T.get_some _ _ _ h1
      rw [orb_list] at hx
      obtain ⟨p, hp, rfl⟩ := List.mem_map.1 hx
      have := List.all_eq_true.1 chk_orb p hp
      have e : r = p.1 := by simp only at h2 h3; omega
      rw [e]; exact this
    | none =>
      cases h2 : caseT.get r with
      | some row =>
        obtain ⟨hx, h3, h4⟩ := T.get_some _ _ _ h2
        have := List.all_eq_true.1 chk_rows row hx
        exact rangeB_get _ _ this r h3 (by omega)
      | none =>
        have e : sfN r = r := by
          have h5 : Nat.blt r 128 = false := by cases e : Nat.blt r 128 with | false => rfl | true => have := blt_iff.1 e; omega
          unfold sfN
          rw [h5, cond_false, h1, h2]
        unfold chk
        rw [goB, e]
        simp [Nat.beq_refl, hr]
/-- The n-th one. -/
def it : Nat → Nat → Nat
  | 0, r => r
  | n + 1, r => sfN (it n r)
theorem it_succ (n r : Nat) : it (n + 1) r = it n (sfN r) := by
  induction n with
  | zero => rfl
  | succ n ih => rw [it, ih]; rfl
theorem goB_says : ∀ (n r x : Nat), goB n r x = true → ∃ m, 1 ≤ m ∧ m ≤ n ∧ it m x = r ∧ (∀ j, j < m → it j x ≤ 1114111) ∧ ∀ j, 1 ≤ j → j < m → it j x ≠ r
  | 0, r, x, h => by simp [goB] at h
  | n + 1, r, x, h => by
    rw [goB, Bool.and_eq_true] at h
    have hx := Nat.le_of_ble_eq_true h.1
    by_cases e : sfN x = r
    · exact ⟨1, Nat.le_refl _, by omega, e, fun j hj => by rw [show j = 0 by omega]; exact hx, fun j h1 h2 => by omega⟩
    · have h2 : goB n r (sfN x) = true := by
        rcases Bool.or_eq_true_iff.1 h.2 with h | h
        · exact absurd (Nat.eq_of_beq_eq_true h) e
        · exact h
      obtain ⟨m, m1, m2, m3, m4, m5⟩ := goB_says n r (sfN x) h2
      refine ⟨m + 1, by omega, by omega, by rw [it_succ]; exact m3, fun j hj => ?_, fun j h1 h2 => ?_⟩
      · cases j with
        | zero => exact hx
        | succ j => rw [it_succ]; exact m4 j (by omega)
      · obtain ⟨j, rfl⟩ : ∃ j', j = j' + 1 := ⟨j - 1, by omega⟩
        rw [it_succ]
        cases j with
        | zero => exact e
        | succ j => exact m5 (j + 1) (by omega) (by omega)
/-- Every orbit closes within four steps. -/
theorem orbit (r : Nat) (hr : r ≤ 1114111) : ∃ m, 1 ≤ m ∧ m ≤ 4 ∧ it m r = r ∧ (∀ j, j < m → it j r ≤ 1114111) ∧ ∀ j, 1 ≤ j → j < m → it j r ≠ r := goB_says 4 r r (chk_all r hr)
theorem sfN_le (r : Nat) (hr : r ≤ 1114111) : sfN r ≤ 1114111 := by
  obtain ⟨m, m1, m2, m3, m4, _⟩ := orbit r hr
  by_cases e : m = 1
  · subst e; rw [show sfN r = it 1 r from rfl, m3]; exact hr
  · exact m4 1 (by omega)
theorem it_le (r : Nat) (hr : r ≤ 1114111) (n : Nat) : it n r ≤ 1114111 := by
  induction n with
  | zero => exact hr
  | succ n ih => exact sfN_le _ ih
theorem sf_nat (r : Nat) (hr : r ≤ 1114111) : sf (r : Int) = (sfN r : Int) := by
  unfold sf
  rw [if_neg (by omega), Int.toNat_natCast]
end Go.Proofs.YtkcnodkojllobaaDoor.Sf
