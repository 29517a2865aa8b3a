import Derived.Test.YteoljppcafakpaaDoorTbFnPgSpan
namespace Go.Proofs.YteoljppcafakpaaDoor.PgFnPgSpan
open Go.RowKit Go.Proofs.YteoljppcafakpaaDoor.EvN Go.Proofs.YteoljppcafakpaaDoor.Row Go.Proofs.YteoljppcafakpaaDoor.Sf Go.Proofs.YteoljppcafakpaaDoor.PFnPgSpan Go.Proofs.YteoljppcafakpaaDoorW.PrintWords Go.Proofs.YteoljppcafakpaaDoorW.PrintLast Go.Proofs.YteoljppcafakpaaDoorW.PrintMore
set_option linter.unusedSimpArgs false
set_option linter.unusedVariables false
def lo_ (l : List Int) (k : Nat) : Int := l.getD (2 * k) 0
def hi_ (l : List Int) (k : Nat) : Int := l.getD (2 * k + 1) 0
theorem lo_cons (a b : Int) (r : List Int) (k : Nat) : lo_ (a :: b :: r) (k + 1) = lo_ r k := by
  unfold lo_; rw [show 2 * (k + 1) = 2 * k + 1 + 1 by omega]; simp
theorem hi_cons (a b : Int) (r : List Int) (k : Nat) : hi_ (a :: b :: r) (k + 1) = hi_ r k := by
  unfold hi_; rw [show 2 * (k + 1) + 1 = (2 * k + 1) + 1 + 1 by omega]; simp
theorem inCls_iff : ∀ (l : List Int) (c : Int), inCls l c = true ↔ ∃ k, 2 * k + 1 < l.length ∧ lo_ l k ≤ c ∧ c ≤ hi_ l k
  | [], c => by simp [inCls]
  | [a], c => by simp [inCls]
  | a :: b :: r, c => by
    rw [inCls, Bool.or_eq_true, Bool.and_eq_true, decide_eq_true_eq, decide_eq_true_eq, inCls_iff r c]
    constructor
    · rintro (h | ⟨k, h1, h2, h3⟩)
      · exact ⟨0, by simp, h.1, h.2⟩
      · exact ⟨k + 1, by simp; omega, by rw [lo_cons]; exact h2, by rw [hi_cons]; exact h3⟩
    · rintro ⟨k, h1, h2, h3⟩
      cases k with
      | zero => exact .inl ⟨h2, h3⟩
      | succ k =>
        rw [lo_cons] at h2
        rw [hi_cons] at h3
        simp at h1
        exact .inr ⟨k, by omega, h2, h3⟩
structure Asc (l : List Int) : Prop where
  even : l.length % 2 = 0
  le : ∀ k, 2 * k + 1 < l.length → lo_ l k ≤ hi_ l k
  lt : ∀ k, 2 * (k + 1) + 1 < l.length → hi_ l k < lo_ l (k + 1)
theorem asc_clsF : ∀ (l : List Int) (last : Int), l.length % 2 = 0 → clsF last l = true → Asc l ∧ (0 < l.length → last < lo_ l 0)
  | [], last, he, h => ⟨⟨he, fun k hk => by simp at hk, fun k hk => by simp at hk⟩, fun h => by simp at h⟩
  | [a], last, he, h => by simp at he
  | a :: b :: r, last, he, h => by
    rw [clsF] at h
    by_cases h1 : a ≤ last
    · rw [if_pos h1] at h; cases h
    · by_cases h2 : a > b
      · rw [if_neg h1, if_pos h2] at h; cases h
      · by_cases h3 : b > 1114111
        · rw [if_neg h1, if_neg h2, if_pos h3] at h; cases h
        · rw [if_neg h1, if_neg h2, if_neg h3] at h
          have he2 : r.length % 2 = 0 := by simp at he; omega
          obtain ⟨i1, i2⟩ := asc_clsF r b he2 h
          refine ⟨⟨he, fun k hk => ?_, fun k hk => ?_⟩, fun _ => by show last < a; omega⟩
          · cases k with
            | zero => show a ≤ b; omega
            | succ k => rw [lo_cons, hi_cons]; exact i1.le k (by simp at hk; omega)
          · cases k with
            | zero =>
              rw [lo_cons]
              exact i2 (by simp at hk; omega)
            | succ k => rw [lo_cons, hi_cons]; exact i1.lt k (by simp at hk; omega)
theorem asc_of {l : List Int} (h : cls l = true) : Asc l := by
  unfold cls at h
  by_cases he : (l.length : Int) % 2 = 0
  · rw [if_pos he] at h
    exact (asc_clsF l (-1) (by omega) h).1
  · rw [if_neg he] at h; cases h
theorem Asc.apart {l : List Int} (h : Asc l) : ∀ (d j : Nat), 2 * (j + 1 + d) + 1 < l.length → hi_ l j < lo_ l (j + 1 + d) := by
  intro d
  induction d with
  | zero => intro j hj; exact h.lt j hj
  | succ d ih =>
    intro j hj
    have h1 := ih j (by omega)
    have h2 := h.le (j + 1 + d) (by omega)
    have h3 := h.lt (j + 1 + d) (by omega)
    rw [show j + 1 + (d + 1) = j + 1 + d + 1 by omega]
    omega
theorem Asc.sep {l : List Int} (h : Asc l) {j k : Nat} (hjk : j < k) (hk : 2 * k + 1 < l.length) : hi_ l j < lo_ l k := by
  obtain ⟨d, rfl⟩ : ∃ d, k = j + 1 + d := ⟨k - (j + 1), by omega⟩
  exact h.apart d j hk
theorem Asc.found {l : List Int} {c : Int} {k : Nat} (hk : 2 * k + 1 < l.length) (h1 : lo_ l k ≤ c) (h2 : c ≤ hi_ l k) : inCls l c = true := (inCls_iff l c).2 ⟨k, hk, h1, h2⟩
theorem Asc.none {l : List Int} {c : Int} {k : Nat} (h1 : ∀ i, i < k → 2 * i + 1 < l.length → hi_ l i < c) (h2 : ∀ i, k ≤ i → 2 * i + 1 < l.length → c < lo_ l i) : inCls l c = false := by
  rw [← Bool.not_eq_true, inCls_iff]
  rintro ⟨i, hi, a, b⟩
  by_cases e : i < k
  · have := h1 i e hi; omega
  · have := h2 i (by omega) hi; omega
theorem Asc.below {l : List Int} (h : Asc l) {c : Int} {m : Nat} (hm : 2 * m + 1 < l.length) (h1 : hi_ l m < c) : ∀ i, i < m + 1 → 2 * i + 1 < l.length → hi_ l i < c := by
  intro i hi h2
  by_cases e : i = m
  · rw [e]; exact h1
  · have := h.sep (show i < m by omega) hm
    have := h.le m hm
    omega
theorem Asc.above {l : List Int} (h : Asc l) {c : Int} {m : Nat} (hm : 2 * m + 1 < l.length) (h1 : c < lo_ l m) : ∀ i, m ≤ i → 2 * i + 1 < l.length → c < lo_ l i := by
  intro i hi h2
  by_cases e : i = m
  · rw [e]; exact h1
  · have := h.sep (show m < i by omega) h2
    have := h.le m hm
    omega
structure Tak7 (i : I) : Prop where
  op : i.f0 = 7
  one : i.f3.length = 1 → i.f2 = 1 ∧ ∃ a : Nat, i.f3.getD 0 0 = (a : Int) ∧ a ≤ 1114111
  cls : ¬ i.f3.length = 1 → i.f2 = 0 ∧ Asc i.f3
theorem PSound.tak7 {L : List I} {st nc most : Int} (h : PSound L st nc most) (pc : Nat) (hpc : pc < L.length) (h7 : (ins L pc).f0 = 7) : Tak7 (ins L pc) := by
  have ht := h.tak pc hpc (by unfold waitsB; simp [h7]) (by omega)
  have h1 := h.inst pc hpc
  have h2 := h.outIn pc hpc (by omega)
  unfold instB at h1
  rw [if_neg (by omega), if_neg (fun e => e h2), if_neg (by omega), if_neg (by omega), if_neg (by omega), if_neg (by omega), if_neg (by omega), if_neg (by omega), if_neg (by omega), if_pos h7] at h1
  simp only [Bool.and_eq_true, Bool.or_eq_true, decide_eq_true_eq] at h1
  refine ⟨h7, fun h => ⟨?_, ht.fold h7 h⟩, fun h => ?_⟩
  · rcases h1 with ⟨⟨a, b⟩, c⟩ | ⟨a, b⟩
    · exact a
    · exfalso
      have := (asc_of b).even
      omega
  · rcases h1 with ⟨⟨a, b⟩, c⟩ | ⟨a, b⟩
    · exact absurd (by omega) h
    · exact ⟨a, asc_of b⟩
theorem takes7_cls {i : I} (h : Tak7 i) (h1 : ¬ i.f3.length = 1) (c : Int) : takesB i c = inCls i.f3 c := by
  unfold takesB
  have := h.op
  rw [if_neg (by omega), if_neg (by omega), if_neg (by omega), if_neg h1]
theorem takes7_one {i : I} (h : Tak7 i) (h1 : i.f3.length = 1) (a : Nat) (ha : i.f3.getD 0 0 = (a : Int)) (c : Int) : takesB i c = foldsB a c := by
  unfold takesB
  have := h.op
  rw [if_neg (by omega), if_neg (by omega), if_neg (by omega), if_pos h1, ha, (h.one h1).1, Int.toNat_natCast]
  by_cases e : c = (a : Int)
  · subst e; simp [foldsB]
  · have : (c == (a : Int)) = false := by rw [beq_eq_false_iff_ne]; exact e
    rw [this]; simp
end Go.Proofs.YteoljppcafakpaaDoor.PgFnPgSpan
