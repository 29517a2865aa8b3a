/- Walks for FnSyRepeat: parseRepeat. -/
import Derived.Test.YtaogbmljadaplaaRb
namespace Go.Proofs.Ytaogbmljadaplaa.Rp
open Go.RowKit My

theorem cons_facts (u : ByteArray) (c : Int) (l : List Int) (h : nums u = c :: l) :
    ∃ h0 : 0 < u.size, (u[0].toNat : Int) = c ∧ nums (u.extract 1 u.size) = l ∧ (¬ u.toList = []) ∧ u.toList.isEmpty = false := by
  have hl := congrArg List.length h
  rw [nums_length] at hl
  have h0 : 0 < u.size := by simp at hl; omega
  refine ⟨h0, ?_, ?_, ne_list u h0, ne_empty u h0⟩
  · rw [← nums_get u 0 h0]; simp [h]
  · rw [nums_ext, h]; rfl
theorem nil_facts (u : ByteArray) (h : nums u = []) : u = ⟨#[]⟩ := empty_of u (by have := congrArg List.length h; rw [nums_length] at this; simpa using this)

theorem okInt_cons (c : Int) (l : List Int) : okInt (c :: l) = (isd c && !((match l with | [] => false | d :: _ => isd d) && c == 48)) := by
  unfold okInt digs
  cases hc : isd c
  · simp [hc]
  · cases l with
    | nil => simp [hc]
    | cons d l =>
      cases hd : isd d
      · simp [hc, hd]
      · simp [hc, hd]

theorem int_calls (p : Option Addr) (u : ByteArray) (hu : u.size ≤ 1000) (w : World) :
    Calls Try.prog 61 #[.pointer p, .string u] w fun e w' => (okInt (nums u) = true ∧ e = .returned (.tuple #[.int .i64 (valL 0 (digs (nums u))), .string (u.extract (digs (nums u)).length u.size), .bool true]) ∨
      okInt (nums u) = false ∧ e = .returned (.tuple #[.int .i64 0, .string ⟨#[]⟩, .bool false])) ∧ w = w' := by
  cases hl : nums u with
  | nil =>
    refine (int_no p u hu (.inl (by have := congrArg List.length hl; rw [nums_length] at this; simpa using this)) w).mono ?_
    rintro e w' ⟨rfl, rfl⟩
    exact ⟨.inr ⟨rfl, rfl⟩, rfl⟩
  | cons c l =>
    obtain ⟨h0, hc, hl1, _, _⟩ := cons_facts u c l hl
    have hsz := congrArg List.length hl
    rw [nums_length] at hsz
    have h1 : ∀ h : 1 < u.size, ∃ d l2, l = d :: l2 ∧ (u[1].toNat : Int) = d := fun h => by
      cases l with
      | nil => simp at hsz; omega
      | cons d l2 =>
        refine ⟨d, l2, rfl, ?_⟩
        rw [← nums_get u 1 h]; simp [hl]
    cases hok : okInt (c :: l)
    · have hst : Stops u := by
        rw [okInt_cons] at hok
        cases hd : isd c
        · refine .inr (.inl ⟨h0, ?_⟩)
          unfold isd at hd
          have := of_decide_eq_false hd
          omega
        · rw [hd] at hok
          cases l with
          | nil => simp at hok
          | cons d l2 =>
            simp at hok
            have h11 : 1 < u.size := by simp at hsz; omega
            obtain ⟨d', l2', e, hd'⟩ := h1 h11
            cases e
            refine .inr (.inr ⟨h11, by omega, ?_⟩)
            have := hok.1
            unfold isd at this
            have := of_decide_eq_true this
            omega
      refine (int_no p u hu hst w).mono ?_
      rintro e w' ⟨rfl, rfl⟩
      exact ⟨.inr ⟨rfl, rfl⟩, rfl⟩
    · rw [okInt_cons] at hok
      simp only [Bool.and_eq_true, Bool.not_eq_true', Bool.and_eq_false_iff] at hok
      have hd := hok.1
      unfold isd at hd
      have hd := of_decide_eq_true hd
      rw [← hl]
      refine (int_yes p u hu h0 (by omega) (by omega) (fun h hh => ?_) w).mono ?_
      · obtain ⟨d, l2, rfl, hd'⟩ := h1 h
        rcases hok.2 with h2 | h2
        · unfold isd at h2
          have := of_decide_eq_false h2
          omega
        · have : c ≠ 48 := by simpa using h2
          omega
      · rintro e w' ⟨rfl, rfl⟩
        exact ⟨.inl ⟨rfl, rfl⟩, rfl⟩

/-- What a counted repetition at the beginning says: the numbers and what stands behind. -/
def prB (n m : Int) : List Int → Option (Int × Int × List Int)
  | [] => none
  | d :: r => if d = 125 then some (if m < 0 then -1 else n, m, r) else none
def pr3 (n : Int) (l : List Int) : Option (Int × Int × List Int) := if okInt l = true then prB n (valL 0 (digs l)) (l.drop (digs l).length) else none
def pr2 (n : Int) : List Int → Option (Int × Int × List Int)
  | [] => none
  | c :: r => if c = 125 then some (n, -1, r) else pr3 n (c :: r)
def prA (n : Int) : List Int → Option (Int × Int × List Int)
  | [] => none
  | d :: l => if d = 44 then pr2 n l else if d = 125 then some (n, n, l) else none
def pr1 (l : List Int) : Option (Int × Int × List Int) := if okInt l = true then prA (valL 0 (digs l)) (l.drop (digs l).length) else none
def pr : List Int → Option (Int × Int × List Int)
  | [] => none
  | c :: l => if c = 123 then pr1 l else none
theorem pr_cons (c : Int) (l : List Int) : pr (c :: l) = if c = 123 then pr1 l else none := rfl
theorem prA_cons (n d : Int) (l : List Int) : prA n (d :: l) = if d = 44 then pr2 n l else if d = 125 then some (n, n, l) else none := rfl
theorem pr2_cons (n c : Int) (r : List Int) : pr2 n (c :: r) = if c = 125 then some (n, -1, r) else pr3 n (c :: r) := rfl
theorem prB_cons (n m d : Int) (r : List Int) : prB n m (d :: r) = if d = 125 then some (if m < 0 then -1 else n, m, r) else none := rfl

def RepPost (l : List Int) (w : World) (e : Ending) (w' : World) : Prop :=
  w = w' ∧ ∃ a b rest ok, e = .returned (.tuple #[.int .i64 a, .int .i64 b, .string rest, .bool ok]) ∧ ok = (pr l).isSome ∧ ∀ x y r, pr l = some (x, y, r) → a = x ∧ b = y ∧ nums rest = r

theorem rep_none {l : List Int} {w : World} {a b : Int} {rest : ByteArray} (h : pr l = none) : RepPost l w (.returned (.tuple #[.int .i64 a, .int .i64 b, .string rest, .bool false])) w :=
  ⟨rfl, a, b, rest, false, rfl, by rw [h]; rfl, fun x y r e => by rw [h] at e; cases e⟩
theorem rep_some {l : List Int} {w : World} {a b : Int} {rest : ByteArray} {r : List Int} (h : pr l = some (a, b, r)) (hr : nums rest = r) : RepPost l w (.returned (.tuple #[.int .i64 a, .int .i64 b, .string rest, .bool true])) w :=
  ⟨rfl, a, b, rest, true, rfl, by rw [h]; rfl, fun x y r' e => by rw [h] at e; cases e; exact ⟨rfl, rfl, hr⟩⟩

end Go.Proofs.Ytaogbmljadaplaa.Rp
