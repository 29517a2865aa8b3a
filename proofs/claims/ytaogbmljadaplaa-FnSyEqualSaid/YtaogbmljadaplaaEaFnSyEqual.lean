/- Two trees of identical structure: the reference ends with `same`; what `same` is like. No walk. -/
import Derived.Test.YtaogbmljadaplaaQsFnSyEqual
import Derived.Test.YtaogbmljadaplaaPFnSyEqualx6
namespace Go.Proofs.Ytaogbmljadaplaa.TrFnSyEqual
open Go.RowKit Go.Proofs.Ytaogbmljadaplaa.PFnSyEqual Go.Proofs.YtaogbmljadaplaaW.PrintWords Go.Proofs.YtaogbmljadaplaaW.PrintLast Go.Proofs.YtaogbmljadaplaaW.PrintMore

theorem and_low (a b m : Nat) (n : Nat) (hm : m < 2 ^ n) (h : a % 2 ^ n = b % 2 ^ n) : a &&& m = b &&& m := by
  apply Nat.eq_of_testBit_eq
  intro i
  rw [Nat.testBit_and, Nat.testBit_and]
  by_cases hi : i < n
  · have h1 := congrArg (fun x => x.testBit i) h
    simp only [Nat.testBit_mod_two_pow, hi, decide_true, Bool.true_and] at h1
    rw [h1]
  · rw [Nat.testBit_lt_two_pow (Nat.lt_of_lt_of_le hm (Nat.pow_le_pow_right (by omega) (by omega)))]
    simp

theorem bits_u16 (a : Int) (m : Nat) (hm : m < 65536) : Go.bits .and .u16 (IntKind.u16.wrap a) (m : Int) = Go.bits .and .i64 a (m : Int) := by
  have e1 : (BitVec.ofInt 16 (IntKind.u16.wrap a) &&& BitVec.ofInt 16 (m : Int)).toNat = (BitVec.ofInt 64 a &&& BitVec.ofInt 64 (m : Int)).toNat := by
    rw [BitVec.toNat_and, BitVec.toNat_and, BitVec.toNat_ofInt, BitVec.toNat_ofInt, BitVec.toNat_ofInt, BitVec.toNat_ofInt]
    have h1 : ((m : Int) % (2 ^ 16 : Nat)).toNat = m := by omega
    have h2 : ((m : Int) % (2 ^ 64 : Nat)).toNat = m := by omega
    rw [h1, h2]
    refine and_low _ _ m 16 (by omega) ?_
    have h3 : IntKind.u16.wrap a = a % 65536 := by unfold IntKind.wrap; simp [IntKind.bits, IntKind.signed]
    rw [h3]
    omega
  have hlt : (BitVec.ofInt 64 a &&& BitVec.ofInt 64 (m : Int)).toNat < 65536 := by
    rw [BitVec.toNat_and]
    refine Nat.lt_of_le_of_lt Nat.and_le_right ?_
    rw [BitVec.toNat_ofInt]; omega
  show IntKind.u16.wrap _ = IntKind.i64.wrap _
  simp only
  show IntKind.u16.wrap ((BitVec.ofInt 16 (IntKind.u16.wrap a) &&& BitVec.ofInt 16 (m : Int)).toNat : Int) = IntKind.i64.wrap ((BitVec.ofInt 64 a &&& BitVec.ofInt 64 (m : Int)).toNat : Int)
  rw [e1]
  generalize (BitVec.ofInt 64 a &&& BitVec.ofInt 64 (m : Int)).toNat = q at hlt
  unfold IntKind.wrap
  simp [IntKind.bits, IntKind.signed]
  omega

theorem ev_eqL (a b : List Int) (hl : a.length ≤ 4611686018427387000) (hab : a.length = b.length) : ∀ (n i : Nat), a.length = i + n →
    Ev (fun k => slices_Equal_rune_rune.l0 k a b (a.length : Int) (i : Int)) (decide (a.drop i = b.drop i)) := by
  intro n
  induction n with
  | zero =>
    intro i hi
    refine Ev.succ (Ev.congr (Ev.const _) fun k => ?_)
    simp only [slices_Equal_rune_rune.l0]
    rw [if_neg (by omega), List.drop_eq_nil_of_le (by omega), List.drop_eq_nil_of_le (by omega)]; simp
  | succ n ih =>
    intro i hi
    have e1 : wrap64 ((i : Int) + 1) = ((i + 1 : Nat) : Int) := wrap_nat i 1 (by omega)
    rw [List.drop_eq_getElem_cons (show i < a.length by omega), List.drop_eq_getElem_cons (show i < b.length by omega)]
    refine Ev.succ ?_
    simp only [slices_Equal_rune_rune.l0, e1, rd_nat a i (by omega), rd_nat b i (by omega)]
    have q1 : (i : Int) < (a.length : Int) := by omega
    have q2 : (0 : Int) ≤ (i : Int) := by omega
    have q3 : (i : Int) < (b.length : Int) := by omega
    simp only [if_pos q1, if_pos q2, if_pos q3]
    by_cases h1 : a[i]'(by omega) = b[i]'(by omega)
    · simp only [if_pos h1]
      have e : decide (a[i]'(by omega) :: a.drop (i + 1) = b[i]'(by omega) :: b.drop (i + 1)) = decide (a.drop (i + 1) = b.drop (i + 1)) := by simp only [h1, List.cons.injEq, true_and]
      rw [e]
      exact ih (i + 1) (by omega)
    · simp only [if_neg h1]
      have e : decide (a[i]'(by omega) :: a.drop (i + 1) = b[i]'(by omega) :: b.drop (i + 1)) = false := by simp only [h1, List.cons.injEq, false_and, decide_false]
      rw [e]; exact Ev.const _

theorem ev_slEq (a b : List Int) (hl : a.length ≤ 4611686018427387000) : Ev (fun k => slices_Equal_rune_rune.f k a b) (decide (a = b)) := by
  by_cases h : (a.length : Int) = (b.length : Int)
  · have := ev_eqL a b hl (by omega) a.length 0 (by omega)
    refine Ev.congr (g := fun k => slices_Equal_rune_rune.l0 k a b (a.length : Int) 0) this fun k => by simp only [slices_Equal_rune_rune.f]; rw [if_pos h]
  · have : decide (a = b) = false := by simp; intro e; exact h (by rw [e])
    rw [this]
    refine Ev.congr (Ev.const _) fun k => ?_
    simp only [slices_Equal_rune_rune.f]; rw [if_neg h]

theorem syL_eq : ∀ k a b m i, spec_syRunes.l0 k a b m i = slices_Equal_rune_rune.l0 k a b m i := by
  intro k
  induction k with
  | zero => intros; rfl
  | succ k ih => intro a b m i; simp only [spec_syRunes.l0, slices_Equal_rune_rune.l0, ih]
theorem ev_syRunes (a b : List Int) (hl : a.length ≤ 4611686018427387000) : Ev (fun k => spec_syRunes.f k a b) (decide (a = b)) :=
  Ev.congr (ev_slEq a b hl) fun k => by simp only [spec_syRunes.f, slices_Equal_rune_rune.f, syL_eq]

set_option maxHeartbeats 2000000 in
theorem ev_same (x : T) : ∀ y : T, TW x → Ev (fun k => spec_SySame.f k x.f0 x.f1 x.f2 x.f3 x.f4 x.f5 x.f6 x.f7 y.f0 y.f1 y.f2 y.f3 y.f4 y.f5 y.f6 y.f7) (same x y) := by
  refine tree_ind (p := fun x => ∀ y : T, TW x → Ev (fun k => spec_SySame.f k x.f0 x.f1 x.f2 x.f3 x.f4 x.f5 x.f6 x.f7 y.f0 y.f1 y.f2 y.f3 y.f4 y.f5 y.f6 y.f7) (same x y)) ?_ x
  intro x ih y hT
  have hl2 := hT.l2
  have hl7 := hT.l7
  -- the loop over the parts
  have hL : x.f7.length = y.f7.length → ∀ (n i : Nat), x.f7.length = i + n → ∀ b : Bool,
      Ev (fun k => spec_SySame.l0 k b (i : Int) x.f0 x.f1 x.f2 x.f3 x.f4 x.f5 x.f6 x.f7 y.f0 y.f1 y.f2 y.f3 y.f4 y.f5 y.f6 y.f7) (if b = true then sameL (x.f7.drop i) (y.f7.drop i) else false) := by
    intro hxy n
    induction n with
    | zero =>
      intro i hi b
      refine Ev.succ (Ev.congr (Ev.const _) fun k => ?_)
      simp only [spec_SySame.l0]
      rw [if_neg (show ¬ (i : Int) < (x.f7.length : Int) by omega), List.drop_eq_nil_of_le (by omega), sameL]
      cases b <;> rfl
    | succ n ihn =>
      intro i hi b
      have e1 : wrap64 ((i : Int) + 1) = ((i + 1 : Nat) : Int) := wrap_nat i 1 (by omega)
      refine Ev.succ ?_
      cases b
      · simp only [spec_SySame.l0, Bool.false_eq_true, if_false]; exact Ev.const _
      · have q1 : (i : Int) < (x.f7.length : Int) := by omega
        have q2 : (0 : Int) ≤ (i : Int) := by omega
        have q3 : (i : Int) < (y.f7.length : Int) := by omega
        simp only [spec_SySame.l0, e1, rd_eq x.f7 i (by omega), rd_eq y.f7 i (by omega), if_true, if_pos q1, if_pos q2, if_pos q3]
        rw [List.drop_eq_getElem_cons (show i < x.f7.length by omega), List.drop_eq_getElem_cons (show i < y.f7.length by omega), sameL]
        refine Ev.bind (ih _ (List.getElem_mem (show i < x.f7.length by omega)) _ (hT.sub _ (List.getElem_mem _))) ?_
        exact ihn (i + 1) (by omega) _
  have h3 : x.f7.length = y.f7.length → ∀ b : Bool, Ev (fun k => spec_SySame.j3 k b x.f0 x.f1 x.f2 x.f3 x.f4 x.f5 x.f6 x.f7 y.f0 y.f1 y.f2 y.f3 y.f4 y.f5 y.f6 y.f7) (if b = true then sameL x.f7 y.f7 else false) := by
    intro hxy b
    refine Ev.succ ?_
    simp only [spec_SySame.j3]
    exact hL hxy x.f7.length 0 (by omega) b
  by_cases h0 : x.f0 = y.f0
  · by_cases h7 : x.f7.length = y.f7.length
    · have hs : same x y = if nodeEq x y = true then sameL x.f7 y.f7 else false := by
        rw [same_eq]
        by_cases hn : nodeEq x y = true
        · rw [if_pos ⟨h0, h7, hn⟩, if_pos hn]
        · rw [if_neg (fun e => hn e.2.2), if_neg hn]
      rw [hs]
      refine Ev.succ ?_
      have hb : ((x.f7.length : Int) != (y.f7.length : Int)) = false := by simp; omega
      simp only [spec_SySame.f, if_pos h0, hb]
      refine Ev.succ ?_
      simp only [spec_SySame.j0, Bool.false_eq_true, if_false]
      by_cases e10 : x.f0 = 10
      · have hn : nodeEq x y = bitEq x.f1 y.f1 256 := by unfold nodeEq; rw [if_pos e10]
        simp only [if_pos e10, spec_syBits.f, Option.bind_some, hn]
        exact h3 h7 _
      · simp only [if_neg e10]
        have hj2 : ∀ b : Bool, (b = true ↔ (x.f0 = 14 ∨ x.f0 = 15 ∨ x.f0 = 16)) → x.f0 ≠ 3 → x.f0 ≠ 4 → Ev (fun k => spec_SySame.j2 k true x.f0 b x.f0 x.f1 x.f2 x.f3 x.f4 x.f5 x.f6 x.f7 y.f0 y.f1 y.f2 y.f3 y.f4 y.f5 y.f6 y.f7) (if nodeEq x y = true then sameL x.f7 y.f7 else false) := by
          intro b hb n3 n4
          refine Ev.succ ?_
          simp only [spec_SySame.j2]
          have n34 : ¬ (x.f0 = 3 ∨ x.f0 = 4) := by omega
          by_cases e : b = true
          · have hn : nodeEq x y = bitEq x.f1 y.f1 32 := by unfold nodeEq; rw [if_neg e10, if_neg n34, if_pos (hb.1 e)]
            simp only [if_pos e, spec_syBits.f, Option.bind_some, hn]
            exact h3 h7 _
          · have ne : ¬ (x.f0 = 14 ∨ x.f0 = 15 ∨ x.f0 = 16) := fun h => e (hb.2 h)
            simp only [if_neg e]
            by_cases e17 : x.f0 = 17
            · have hn : nodeEq x y = (bitEq x.f1 y.f1 32 && decide (x.f3 = y.f3) && decide (x.f4 = y.f4)) := by unfold nodeEq; rw [if_neg e10, if_neg n34, if_neg ne, if_pos e17]
              simp only [if_pos e17, spec_syBits.f, Option.bind_some, hn]
              cases hbt : bitEq x.f1 y.f1 32
              · have hbt' : (Go.bits .and .i64 x.f1 32 == Go.bits .and .i64 y.f1 32) = false := hbt
                simp only [hbt', Bool.false_eq_true, if_false, Bool.false_and]; exact h3 h7 _
              · have hbt' : (Go.bits .and .i64 x.f1 32 == Go.bits .and .i64 y.f1 32) = true := hbt
                simp only [hbt', if_true, Bool.true_and]
                by_cases e3 : x.f3 = y.f3
                · simp only [if_pos e3, decide_eq_true e3, Bool.true_and]
                  exact h3 h7 _
                · simp only [if_neg e3, decide_eq_false e3, Bool.false_and]
                  exact h3 h7 _
            · simp only [if_neg e17]
              by_cases e13 : x.f0 = 13
              · have hn : nodeEq x y = (decide (x.f5 = y.f5) && (x.f6.toList == y.f6.toList)) := by unfold nodeEq; rw [if_neg e10, if_neg n34, if_neg ne, if_neg e17, if_pos e13]
                simp only [if_pos e13, hn]
                by_cases e5 : x.f5 = y.f5
                · simp only [if_pos e5, decide_eq_true e5, Bool.true_and]; exact h3 h7 _
                · simp only [if_neg e5, decide_eq_false e5, Bool.false_and]; exact h3 h7 _
              · have hn : nodeEq x y = true := by unfold nodeEq; rw [if_neg e10, if_neg n34, if_neg ne, if_neg e17, if_neg e13]
                simp only [if_neg e13, hn]
                exact h3 h7 _
        have hj1 : ∀ b : Bool, (b = true ↔ (x.f0 = 3 ∨ x.f0 = 4)) → Ev (fun k => spec_SySame.j1 k true x.f0 b x.f0 x.f1 x.f2 x.f3 x.f4 x.f5 x.f6 x.f7 y.f0 y.f1 y.f2 y.f3 y.f4 y.f5 y.f6 y.f7) (if nodeEq x y = true then sameL x.f7 y.f7 else false) := by
          intro b hb
          refine Ev.succ ?_
          simp only [spec_SySame.j1]
          by_cases e : b = true
          · have hn : nodeEq x y = (bitEq x.f1 y.f1 1 && decide (x.f2 = y.f2)) := by unfold nodeEq; rw [if_neg e10, if_pos (hb.1 e)]
            simp only [if_pos e, spec_syBits.f, Option.bind_some, hn]
            cases hbt : bitEq x.f1 y.f1 1
            · have hbt' : (Go.bits .and .i64 x.f1 1 == Go.bits .and .i64 y.f1 1) = false := hbt
              simp only [hbt', Bool.false_eq_true, if_false, Bool.false_and]; exact h3 h7 _
            · have hbt' : (Go.bits .and .i64 x.f1 1 == Go.bits .and .i64 y.f1 1) = true := hbt
              simp only [hbt', if_true, Bool.true_and]
              refine Ev.bind (ev_syRunes x.f2 y.f2 hl2) ?_
              exact h3 h7 _
          · have ne : ¬ (x.f0 = 3 ∨ x.f0 = 4) := fun h => e (hb.2 h)
            simp only [if_neg e]
            by_cases e14 : x.f0 = 14
            · simp only [if_pos e14]; exact hj2 _ (by rw [beq_iff_eq]; omega) (by omega) (by omega)
            · by_cases e15 : x.f0 = 15
              · simp only [if_neg e14, if_pos e15]; exact hj2 _ (by rw [beq_iff_eq]; omega) (by omega) (by omega)
              · simp only [if_neg e14, if_neg e15]; exact hj2 _ (by rw [beq_iff_eq]; omega) (by omega) (by omega)
        by_cases e3 : x.f0 = 3
        · simp only [if_pos e3]; exact hj1 _ (by rw [beq_iff_eq]; omega)
        · simp only [if_neg e3]; exact hj1 _ (by rw [beq_iff_eq]; omega)
    · have hs : same x y = false := by rw [same_eq, if_neg (fun e => h7 e.2.1)]
      have hb : ((x.f7.length : Int) != (y.f7.length : Int)) = true := by simp; omega
      rw [hs]
      refine Ev.succ ?_
      simp only [spec_SySame.f, if_pos h0, hb]
      refine Ev.succ ?_
      simp only [spec_SySame.j0, if_true]
      exact Ev.const _
  · have hs : same x y = false := by rw [same_eq, if_neg (fun e => h0 e.1)]
    rw [hs]
    refine Ev.succ ?_
    simp only [spec_SySame.f, if_neg h0]
    refine Ev.succ ?_
    simp only [spec_SySame.j0, if_true]
    exact Ev.const _

theorem bitEq_comm (a b m : Int) : bitEq a b m = bitEq b a m := by unfold bitEq; rw [Bool.eq_iff_iff]; simp; exact eq_comm
theorem list_comm {α : Type} [BEq α] [LawfulBEq α] (a b : List α) : (a == b) = (b == a) := by rw [Bool.eq_iff_iff]; simp; exact eq_comm
theorem dec_comm {α : Type} [DecidableEq α] (a b : α) : decide (a = b) = decide (b = a) := by rw [Bool.eq_iff_iff]; simp; exact eq_comm

theorem nodeEq_comm (x y : T) (h : x.f0 = y.f0) : nodeEq x y = nodeEq y x := by
  unfold nodeEq
  rw [h, bitEq_comm x.f1 y.f1 256, bitEq_comm x.f1 y.f1 1, bitEq_comm x.f1 y.f1 32, dec_comm x.f2, dec_comm x.f3, dec_comm x.f4, dec_comm x.f5, list_comm x.f6.toList]
theorem nodeEq_self (x : T) : nodeEq x x = true := by unfold nodeEq; simp

theorem same_self (x : T) : same x x = true := by
  refine tree_ind (p := fun x => same x x = true) ?_ x
  intro x ih
  rw [same_eq, if_pos ⟨rfl, rfl, nodeEq_self x⟩]
  have : ∀ l : List T, (∀ s ∈ l, same s s = true) → sameL l l = true := by
    intro l
    induction l with
    | nil => intro _; rw [sameL]
    | cons a l ihl => intro h; rw [sameL, if_pos (h a (by simp))]; exact ihl fun s hs => h s (by simp [hs])
  exact this _ ih

theorem same_comm (x : T) : ∀ y, same x y = same y x := by
  refine tree_ind (p := fun x => ∀ y, same x y = same y x) ?_ x
  intro x ih y
  rw [same_eq, same_eq]
  by_cases h0 : x.f0 = y.f0
  · by_cases h7 : x.f7.length = y.f7.length
    · rw [nodeEq_comm x y h0]
      have : ∀ l m : List T, l.length = m.length → (∀ s ∈ l, ∀ y, same s y = same y s) → sameL l m = sameL m l := by
        intro l
        induction l with
        | nil => intro m hm _; cases m with
          | nil => rfl
          | cons a m => simp at hm
        | cons a l ihl =>
          intro m hm h
          cases m with
          | nil => simp at hm
          | cons b m => rw [sameL, sameL, h a (by simp) b, ihl m (by simpa using hm) fun s hs => h s (by simp [hs])]
      rw [this _ _ h7 ih]
      by_cases hn : nodeEq y x = true
      · rw [if_pos ⟨h0, h7, hn⟩, if_pos ⟨h0.symm, h7.symm, hn⟩]
      · rw [if_neg (fun e => hn e.2.2), if_neg (fun e => hn e.2.2)]
    · rw [if_neg (fun e => h7 e.2.1), if_neg (fun e => h7 e.2.1.symm)]
  · rw [if_neg (fun e => h0 e.1), if_neg (fun e => h0 e.1.symm)]

theorem sameL_take (l m : List T) (k : Nat) (h : k < l.length) (h' : k < m.length) : sameL (l.take (k + 1)) (m.take (k + 1)) = (sameL (l.take k) (m.take k) && same l[k] m[k]) := by
  induction l generalizing k m with
  | nil => simp at h
  | cons a l ih =>
    cases m with
    | nil => simp at h'
    | cons b m =>
      cases k with
      | zero => simp [sameL]
      | succ k =>
        simp only [List.take_succ_cons, sameL, List.getElem_cons_succ]
        rw [ih m k (by simpa using h) (by simpa using h')]
        cases same a b <;> simp
theorem sameL_no (l m : List T) (hlm : l.length = m.length) (k : Nat) (h : k < l.length) (h' : k < m.length) (e : same l[k] m[k] = false) : sameL l m = false := by
  induction l generalizing k m with
  | nil => simp at h
  | cons a l ih =>
    cases m with
    | nil => simp at h'
    | cons b m =>
      rw [sameL]
      cases k with
      | zero => simp only [List.getElem_cons_zero] at e; rw [e]; simp
      | succ k =>
        simp only [List.getElem_cons_succ] at e
        rw [ih m (by simpa using hlm) k (by simpa using h) (by simpa using h') e]; simp

/-- What kind of node, and how many parts. -/
def Shp (t : T) : Prop := ((1 ≤ t.f0 ∧ t.f0 ≤ 12 ∧ t.f7.length = 0) ∨ (13 ≤ t.f0 ∧ t.f0 ≤ 17 ∧ t.f7.length = 1) ∨ t.f0 = 18 ∨ t.f0 = 19) ∧ t.f2.length ≤ 4611686018427387000
theorem Shp.none {t : T} (h : Shp t) (h12 : t.f0 ≤ 12) : t.f7 = [] := List.eq_nil_of_length_eq_zero (by unfold Shp at h; omega)
theorem Shp.one {t : T} (h : Shp t) (h1 : 13 ≤ t.f0) (h2 : t.f0 ≤ 17) : ∃ s, t.f7 = [s] := by
  have hl : t.f7.length = 1 := by unfold Shp at h; omega
  match t.f7, hl with
  | [s], _ => exact ⟨s, rfl⟩
theorem same_lit {x y : T} (h0 : x.f0 = y.f0) (hx : Shp x) (hy : Shp y) (h : x.f0 = 3 ∨ x.f0 = 4) : same x y = (bitEq x.f1 y.f1 1 && decide (x.f2 = y.f2)) := by
  have hn : nodeEq x y = (bitEq x.f1 y.f1 1 && decide (x.f2 = y.f2)) := by unfold nodeEq; rw [if_neg (by omega), if_pos h]
  rw [same_eq, hx.none (by omega), hy.none (by omega), sameL, hn]
  generalize (bitEq x.f1 y.f1 1 && decide (x.f2 = y.f2)) = b
  cases b <;> simp [h0]
theorem same_seq {x y : T} (h0 : x.f0 = y.f0) (h : x.f0 = 18 ∨ x.f0 = 19) : same x y = if x.f7.length = y.f7.length then sameL x.f7 y.f7 else false := by
  have hn : nodeEq x y = true := by unfold nodeEq; rw [if_neg (by omega), if_neg (by omega), if_neg (by omega), if_neg (by omega), if_neg (by omega)]
  rw [same_eq]
  by_cases hl : x.f7.length = y.f7.length
  · rw [if_pos ⟨h0, hl, hn⟩, if_pos hl]
  · rw [if_neg (fun e => hl e.2.1), if_neg hl]
theorem same_sub {x y : T} (h0 : x.f0 = y.f0) {s t : T} (hx : x.f7 = [s]) (hy : y.f7 = [t]) : same x y = (nodeEq x y && same s t) := by
  rw [same_eq, hx, hy, sameL, sameL]
  by_cases hn : nodeEq x y = true
  · rw [if_pos ⟨h0, rfl, hn⟩, hn]; cases same s t <;> simp
  · rw [if_neg (fun e => hn e.2.2)]; simp [hn]
theorem same_loop {x y : T} (h0 : x.f0 = y.f0) {s t : T} (hx : x.f7 = [s]) (hy : y.f7 = [t]) (h : x.f0 = 14 ∨ x.f0 = 15 ∨ x.f0 = 16) : same x y = (bitEq x.f1 y.f1 32 && same s t) := by
  rw [same_sub h0 hx hy]
  have hn : nodeEq x y = bitEq x.f1 y.f1 32 := by unfold nodeEq; rw [if_neg (by omega), if_neg (by omega), if_pos h]
  rw [hn]
theorem same_rep {x y : T} (h0 : x.f0 = y.f0) {s t : T} (hx : x.f7 = [s]) (hy : y.f7 = [t]) (h : x.f0 = 17) : same x y = (bitEq x.f1 y.f1 32 && decide (x.f3 = y.f3) && decide (x.f4 = y.f4) && same s t) := by
  rw [same_sub h0 hx hy]
  have hn : nodeEq x y = (bitEq x.f1 y.f1 32 && decide (x.f3 = y.f3) && decide (x.f4 = y.f4)) := by unfold nodeEq; rw [if_neg (by omega), if_neg (by omega), if_neg (by omega), if_pos h]
  rw [hn]
theorem same_grp {x y : T} (h0 : x.f0 = y.f0) {s t : T} (hx : x.f7 = [s]) (hy : y.f7 = [t]) (h : x.f0 = 13) : same x y = (decide (x.f5 = y.f5) && (x.f6.toList == y.f6.toList) && same s t) := by
  rw [same_sub h0 hx hy]
  have hn : nodeEq x y = (decide (x.f5 = y.f5) && (x.f6.toList == y.f6.toList)) := by unfold nodeEq; rw [if_neg (by omega), if_neg (by omega), if_neg (by omega), if_neg (by omega), if_pos h]
  rw [hn]
theorem shp_of (t : T) (h : nodeB t = true) (hl : t.f2.length ≤ 4611686018427387000) : Shp t := by
  unfold nodeB at h
  split at h
  · cases h
  · rename_i g1
    split at h
    · cases h
    · rename_i g2
      have := ar_cases t.f0 (t.f7.length : Int) (by omega) g1 g2
      unfold Shp; omega
theorem shp_all (t : T) : TW t → AllN (fun t => nodeB t = true) t → AllN Shp t := by
  refine tree_ind (p := fun t => TW t → AllN (fun t => nodeB t = true) t → AllN Shp t) ?_ t
  intro t ih hT hA
  exact .mk t (shp_of t hA.self hT.l2) fun s hs => ih s hs (hT.sub s hs) (hA.sub s hs)
end Go.Proofs.Ytaogbmljadaplaa.TrFnSyEqual
