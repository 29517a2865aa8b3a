/- The literal prefix of an anchored program, in plain Lean: ways end only behind it. No walk. -/
import Derived.Test.YteoljppcafakpaaDoorUaFnPgOnePrefix
import Derived.Test.YteoljppcafakpaaDoorCbFnPgOnePrefix
import Derived.Test.YteoljppcafakpaaDoorUt
namespace Go.Proofs.YteoljppcafakpaaDoor.PgFnPgOnePrefix
open Go.RowKit Go.Proofs.YteoljppcafakpaaDoor.EvN Go.Proofs.YteoljppcafakpaaDoor.Row Go.Proofs.YteoljppcafakpaaDoor.Sf Go.Proofs.YteoljppcafakpaaDoor.PFnPgOnePrefix Go.Proofs.YteoljppcafakpaaDoorW.PrintWords Go.Proofs.YteoljppcafakpaaDoorW.PrintLast Go.Proofs.YteoljppcafakpaaDoorW.PrintMore
set_option linter.unusedSimpArgs false
set_option linter.unusedVariables false

def nopF (L : List I) : Nat → Nat → Nat
  | 0, pc => pc
  | n + 1, pc => if (ins L pc).f0 = 6 then nopF L n (ins L pc).f1.toNat else pc
def isRu (i : I) : Bool := decide (7 ≤ i.f0) && decide (i.f3.length = 1)
def foldZ (a : Int) : Bool := Go.bits .and .u16 (IntKind.u16.wrap (IntKind.u32.wrap a)) 1 == 0
def isLit (i : I) : Bool := isRu i && foldZ i.f2 && (i.f3.getD 0 0 != 65533)
def litF (L : List I) : Nat → Nat → List Int × Nat
  | 0, pc => ([], pc)
  | n + 1, pc => if isLit (ins L pc) = true then ((ins L pc).f3.getD 0 0 :: (litF L n (ins L pc).f1.toNat).1, (litF L n (ins L pc).f1.toNat).2) else ([], pc)
def endB (L : List I) (pc : Nat) : Bool :=
  decide ((ins L pc).f0 = 3) && (Go.bits .and .u8 (IntKind.u8.wrap (IntKind.u32.wrap (ins L pc).f2)) 8 != 0) && decide ((ins L (ins L pc).f1.toNat).f0 = 4)
/-- The prefix, whether it is all, and where it leads. -/
def opF (L : List I) (st : Nat) : List Int × Bool × Nat :=
  if isRu (ins L (nopF L L.length (ins L st).f1.toNat)) = true then
    ((litF L L.length (nopF L L.length (ins L st).f1.toNat)).1, endB L (litF L L.length (nopF L L.length (ins L st).f1.toNat)).2, (litF L L.length (nopF L L.length (ins L st).f1.toNat)).2)
  else ([], decide ((ins L (nopF L L.length (ins L st).f1.toNat)).f0 = 4), st)
/-- The bytes of characters. -/
def encs (l : List Int) : List UInt8 := l.flatMap Lib.encodeRune

theorem endsF_fuel (L : List I) (s : ByteArray) : ∀ (n m : Nat) (pcs : List Nat) (last : Int) (i : Nat), i ≤ s.size → s.size + 1 ≤ n + i → s.size + 1 ≤ m + i → endsF L s n pcs last i = endsF L s m pcs last i := by
  intro n
  induction n with
  | zero => intro m pcs last i h1 h2; omega
  | succ n ih =>
    intro m pcs last i h1 h2 h3
    obtain ⟨m, rfl⟩ : ∃ k, m = k + 1 := ⟨m - 1, by omega⟩
    rw [endsF_open, endsF_open]
    congr 1
    by_cases h0 : (dec s i).2 = 0
    · rw [if_pos h0, endsF_nil, endsF_nil]
    · rw [if_neg h0]
      exact ih _ _ _ _ (dec_le s i h1) (by omega) (by omega)

theorem waits_out {L : List I} {cond : Int} {x o : Nat} (h : succs L cond x = [o]) : waitsB (ins L x) = false := by
  unfold succs at h
  unfold waitsB
  by_cases g0 : (ins L x).f0 = 0
  · simp [g0]
  · rw [if_neg g0] at h
    by_cases g26 : (ins L x).f0 = 2 ∨ (ins L x).f0 = 6
    · rcases g26 with g | g <;> simp [g]
    · rw [if_neg g26] at h
      by_cases g3 : (ins L x).f0 = 3
      · simp [g3]
      · rw [if_neg g3] at h; cases h
theorem Rch.open_ {L : List I} {cond : Int} {x y : Nat} (h : Rch L cond x y) : y = x ∨ ∃ z ∈ succs L cond x, Rch L cond z y := by
  cases h with
  | refl => exact .inl rfl
  | step _ z _ h1 h2 => exact .inr ⟨z, h1, h2⟩
theorem one_lt {L : List I} {x : Nat} (h : x < L.length) : ∀ y ∈ [x], y < L.length := by intro y hy; simp only [List.mem_singleton] at hy; omega
theorem none_lt {L : List I} : ∀ y ∈ ([] : List Nat), y < L.length := fun y hy => by simp at hy

/-- Through an instruction that leads on. -/
theorem Eqv.through {L : List I} {st nc most : Int} (h : PSound L st nc most) {cond : Int} {x o : Nat} (hx : x < L.length) (ho : o < L.length) (hs : succs L cond x = [o]) : Eqv L cond [x] [o] := by
  intro y hy
  rw [mem_reach h cond _ (one_lt hx), mem_reach h cond _ (one_lt ho)]
  constructor
  · rintro ⟨h1, z, h2, h3⟩
    simp only [List.mem_singleton] at h2
    subst h2
    rcases h3.open_ with e | ⟨q, h4, h5⟩
    · subst e; rw [waits_out hs] at hy; cases hy
    · rw [hs] at h4
      exact ⟨h1, q, h4, h5⟩
  · rintro ⟨h1, z, h2, h3⟩
    simp only [List.mem_singleton] at h2
    subst h2
    exact ⟨h1, x, by simp, .step _ z _ (by rw [hs]; simp) h3⟩
/-- At one that doesn't. -/
theorem Eqv.stuck {L : List I} {st nc most : Int} (h : PSound L st nc most) {cond : Int} {x : Nat} (hx : x < L.length) (hs : succs L cond x = []) (hw : waitsB (ins L x) = false) : Eqv L cond [x] [] := by
  intro y hy
  rw [mem_reach h cond _ (one_lt hx), mem_reach h cond _ none_lt]
  constructor
  · rintro ⟨h1, z, h2, h3⟩
    simp only [List.mem_singleton] at h2
    subst h2
    rcases h3.open_ with e | ⟨q, h4, h5⟩
    · subst e; rw [hw] at hy; cases hy
    · rw [hs] at h4; simp at h4
  · rintro ⟨_, z, h2, _⟩
    simp at h2
theorem Eqv.refl (L : List I) (cond : Int) (p : List Nat) : Eqv L cond p p := fun _ _ => Iff.rfl
theorem Eqv.trans {L : List I} {cond : Int} {p q r : List Nat} (h : Eqv L cond p q) (k : Eqv L cond q r) : Eqv L cond p r := fun x hx => (h x hx).trans (k x hx)

theorem nopF_eqv {L : List I} {st nc most : Int} (h : PSound L st nc most) (cond : Int) : ∀ (n pc : Nat), pc < L.length → nopF L n pc < L.length ∧ Eqv L cond [pc] [nopF L n pc] := by
  intro n
  induction n with
  | zero => intro pc hp; exact ⟨hp, Eqv.refl _ _ _⟩
  | succ n ih =>
    intro pc hp
    rw [nopF]
    by_cases g : (ins L pc).f0 = 6
    · rw [if_pos g]
      obtain ⟨o1, o2⟩ := h.outIn pc hp (by omega)
      obtain ⟨k1, k2⟩ := ih (ins L pc).f1.toNat (by omega)
      exact ⟨k1, (Eqv.through h hp (by omega) (by unfold succs; rw [if_neg (by omega), if_pos (.inr g)])).trans k2⟩
    · rw [if_neg g]; exact ⟨hp, Eqv.refl _ _ _⟩

theorem lit_says {L : List I} {st nc most : Int} (h : PSound L st nc most) (pc : Nat) (hp : pc < L.length) (hl : isLit (ins L pc) = true) : (ins L pc).f0 = 8 ∧ (ins L pc).f3.length = 1 ∧ 0 ≤ (ins L pc).f3.getD 0 0 ∧ (ins L pc).f3.getD 0 0 ≤ 1114111 ∧ (ins L pc).f3.getD 0 0 ≠ 65533 := by
  unfold isLit isRu at hl
  simp only [Bool.and_eq_true, decide_eq_true_eq, bne_iff_ne, ne_eq] at hl
  obtain ⟨⟨⟨h7, h1⟩, hf⟩, hne⟩ := hl
  have hi := h.inst pc hp
  have ho := h.outIn pc hp (by omega)
  unfold instB at hi
  rw [if_neg (by omega), if_neg (fun e => e ho), if_neg (by omega), if_neg (by omega), if_neg (by omega), if_neg (by omega)] at hi
  obtain ⟨c, hc⟩ : ∃ c, (ins L pc).f3 = [c] := List.length_eq_one_iff.1 h1
  rw [hc] at hi hne ⊢
  by_cases g9 : (ins L pc).f0 = 9
  · rw [if_pos g9] at hi; simp at hi
  · rw [if_neg g9] at hi
    by_cases g10 : (ins L pc).f0 = 10
    · rw [if_pos g10] at hi; simp at hi
    · rw [if_neg g10] at hi
      by_cases g8 : (ins L pc).f0 = 8
      · rw [if_pos g8] at hi
        simp only [Bool.and_eq_true] at hi
        have := hi.2
        rw [runesB_one] at this
        simp [okR] at this
        exact ⟨g8, rfl, this.1, this.2, by simpa using hne⟩
      · rw [if_neg g8] at hi
        by_cases g7 : (ins L pc).f0 = 7
        · rw [if_pos g7] at hi
          simp only [Bool.or_eq_true, Bool.and_eq_true, decide_eq_true_eq] at hi
          rcases hi with ⟨⟨e1, _⟩, _⟩ | ⟨e1, e2⟩
          · rw [e1] at hf
            exact absurd hf (by decide)
          · simp [cls] at e2
        · rw [if_neg g7] at hi; cases hi

/-- At an instruction for one character. -/
theorem endsF_lit {L : List I} {st nc most : Int} (h : PSound L st nc most) (s : ByteArray) (n x : Nat) (last : Int) (i : Nat) (hx : x < L.length) (h8 : (ins L x).f0 = 8) :
    endsF L s (n + 1) [x] last i = if (dec s i).2 = 0 then [] else if (ins L x).f3.getD 0 0 = (dec s i).1 then endsF L s n [(ins L x).f1.toNat] (dec s i).1 (i + (dec s i).2) else [] := by
  have hs : ∀ cond, succs L cond x = [] := fun cond => by unfold succs; rw [if_neg (by omega), if_neg (by omega), if_neg (by omega)]
  have hx0 : x ≠ 0 := by intro e; have := h.first; rw [e] at h8; omega
  have hm : ∀ cond y, y ∈ reachA L cond [] [x] ↔ y = x := fun cond y => by
    rw [mem_reach h cond _ (one_lt hx)]
    constructor
    · rintro ⟨_, z, h2, h3⟩
      simp only [List.mem_singleton] at h2
      subst h2
      rcases h3.open_ with e | ⟨q, h4, _⟩
      · exact e
      · rw [hs] at h4; simp at h4
    · rintro rfl; exact ⟨hx0, y, by simp, .refl _⟩
  obtain ⟨o1, o2⟩ := h.outIn x hx (by omega)
  rw [endsF_open]
  have hM : hasM L (reachA L (condZ last (dec s i).1) [] [x]) = false := by
    unfold hasM
    rw [List.any_eq_false]
    intro y hy
    rw [(hm _ y).1 hy, h8]; decide
  rw [hM]
  simp only [Bool.false_eq_true, if_false, List.nil_append]
  by_cases h0 : (dec s i).2 = 0
  · rw [if_pos h0, if_pos h0, endsF_nil]
  · rw [if_neg h0, if_neg h0]
    have n1 := next_lt h (dec s i).1 _ (reach_lt h (condZ last (dec s i).1) [x] (one_lt hx))
    have hg : goes L (dec s i).1 x = ((ins L x).f3.getD 0 0 == (dec s i).1) := by
      unfold goes takesB waitsB
      simp [h8]
    have hmem : ∀ z, z ∈ nextP L (dec s i).1 (reachA L (condZ last (dec s i).1) [] [x]) ↔ ((ins L x).f3.getD 0 0 = (dec s i).1 ∧ z = (ins L x).f1.toNat) := by
      intro z
      unfold nextP
      rw [List.mem_map]
      constructor
      · rintro ⟨y, h1, h2⟩
        obtain ⟨h3, h4⟩ := List.mem_filter.1 h1
        have e := (hm _ y).1 h3
        subst e
        rw [hg] at h4
        exact ⟨eq_of_beq h4, h2.symm⟩
      · rintro ⟨h1, h2⟩
        exact ⟨x, List.mem_filter.2 ⟨(hm _ x).2 rfl, by rw [hg, h1]; simp⟩, h2.symm⟩
    by_cases hc : (ins L x).f3.getD 0 0 = (dec s i).1
    · rw [if_pos hc]
      refine endsF_eqv h s n _ _ _ _ n1 (one_lt (by omega)) (Eqv.of_set h _ n1 (one_lt (by omega)) fun z => ?_)
      rw [hmem z, List.mem_singleton]
      exact ⟨fun e => e.2, fun e => ⟨hc, e⟩⟩
    · rw [if_neg hc]
      have : nextP L (dec s i).1 (reachA L (condZ last (dec s i).1) [] [x]) = [] := by
        cases hl : nextP L (dec s i).1 (reachA L (condZ last (dec s i).1) [] [x]) with
        | nil => rfl
        | cons z l => exact absurd ((hmem z).1 (by rw [hl]; simp)).1 hc
      rw [this, endsF_nil]

theorem endsF_match {L : List I} {st nc most : Int} (h : PSound L st nc most) (s : ByteArray) (n x : Nat) (last : Int) (i : Nat) (hx : x < L.length) (h4 : (ins L x).f0 = 4) : ∀ e ∈ endsF L s n [x] last i, e = i := by
  cases n with
  | zero => intro e he; exact absurd he (by simp [endsF])
  | succ n =>
    have hs : ∀ cond, succs L cond x = [] := fun cond => by unfold succs; rw [if_neg (by omega), if_neg (by omega), if_neg (by omega)]
    rw [endsF_open]
    have hn : nextP L (dec s i).1 (reachA L (condZ last (dec s i).1) [] [x]) = [] := by
      unfold nextP
      rw [List.map_eq_nil_iff, List.filter_eq_nil_iff]
      intro y hy
      obtain ⟨_, z, h2, h3⟩ := (mem_reach h _ _ (one_lt hx) y).1 hy
      simp only [List.mem_singleton] at h2
      subst h2
      rcases h3.open_ with e | ⟨q, h4, _⟩
      · subst e; unfold goes; simp [h4]
      · rw [hs] at h4; simp at h4
    rw [hn]
    simp only [ite_self, endsF_nil, List.append_nil]
    intro e he
    split at he
    · simpa using he
    · simp at he

theorem encs_len (l : List Int) : l.length ≤ (encs l).length := by
  induction l with
  | nil => simp
  | cons c l ih =>
    have : 1 ≤ (Lib.encodeRune c).length := by rw [← Lib.runeCells_length]; exact (Lib.runeCells_le c).1
    simp only [encs, List.flatMap_cons, List.length_append, List.length_cons] at ih ⊢
    omega

/-- No single character is half of a pair. -/
def NoHalf (L : List I) : Prop := ∀ pc, pc < L.length → (ins L pc).f0 = 8 → ¬ (55296 ≤ (ins L pc).f3.getD 0 0 ∧ (ins L pc).f3.getD 0 0 ≤ 57343)

theorem litF_ends {L : List I} {st nc most : Int} (h : PSound L st nc most) (hh : NoHalf L) (s : ByteArray) : ∀ (m pc i n : Nat), pc < L.length → i ≤ s.size → s.size + 1 ≤ n + i →
    (litF L m pc).2 < L.length ∧
    (((s.data.toList.drop i).take (encs (litF L m pc).1).length = encs (litF L m pc).1 → endsF L s n [pc] (lastR s i) i = endsF L s (s.size + 2 - (i + (encs (litF L m pc).1).length)) [(litF L m pc).2] (lastR s (i + (encs (litF L m pc).1).length)) (i + (encs (litF L m pc).1).length)) ∧
     (¬ (s.data.toList.drop i).take (encs (litF L m pc).1).length = encs (litF L m pc).1 → endsF L s n [pc] (lastR s i) i = [])) := by
  have stop : ∀ (pc i n : Nat), pc < L.length → i ≤ s.size → s.size + 1 ≤ n + i → pc < L.length ∧
      (((s.data.toList.drop i).take (encs []).length = encs [] → endsF L s n [pc] (lastR s i) i = endsF L s (s.size + 2 - (i + (encs []).length)) [pc] (lastR s (i + (encs []).length)) (i + (encs []).length)) ∧
       (¬ (s.data.toList.drop i).take (encs []).length = encs [] → endsF L s n [pc] (lastR s i) i = [])) := by
    intro pc i n hp hi hn
    refine ⟨hp, fun _ => ?_, fun e => absurd (by simp [encs]) e⟩
    have : (encs []).length = 0 := rfl
    rw [this, Nat.add_zero]
    exact endsF_fuel L s _ _ _ _ _ hi hn (by omega)
  intro m
  induction m with
  | zero => intro pc i n hp hi hn; exact stop pc i n hp hi hn
  | succ m ih =>
    intro pc i n hp hi hn
    rw [litF]
    by_cases hl : isLit (ins L pc) = true
    · rw [if_pos hl]
      obtain ⟨h8, h1, c0, c1, c2⟩ := lit_says h pc hp hl
      have hsc : Ut.scalar ((ins L pc).f3.getD 0 0) := ⟨c0, c1, by have := hh pc hp h8; omega⟩
      obtain ⟨o1, o2⟩ := h.outIn pc hp (by omega)
      obtain ⟨n, rfl⟩ : ∃ k, n = k + 1 := ⟨n - 1, by omega⟩
      rw [endsF_lit h s n pc _ i hp h8]
      simp only
      generalize hc : (ins L pc).f3.getD 0 0 = c at *
      generalize ho : (ins L pc).f1.toNat = o at *
      have he : encs (c :: (litF L m o).1) = Lib.encodeRune c ++ encs (litF L m o).1 := rfl
      have hel : 1 ≤ (Lib.encodeRune c).length := by rw [← Lib.runeCells_length]; exact (Lib.runeCells_le c).1
      have hkl := fun (hi2 : i + (Lib.encodeRune c).length ≤ s.size) => ih o (i + (Lib.encodeRune c).length) n (by omega) hi2 (by omega)
      have hq : (litF L m o).2 < L.length := (ih o s.size 1 (by omega) (Nat.le_refl _) (by omega)).1
      refine ⟨hq, ?_⟩
      rw [he]
      by_cases hi0 : (dec s i).2 = 0
      · rw [if_pos hi0]
        have hge := (dec_w s i).1 hi0
        refine ⟨fun e => ?_, fun _ => rfl⟩
        rw [List.drop_eq_nil_of_le (by simpa using hge), List.take_nil] at e
        have := congrArg List.length e
        simp only [List.length_nil, List.length_append] at this
        omega
      · rw [if_neg hi0]
        have hlt : i < s.size := by have := mt (dec_w s i).2 hi0; omega
        have hd : dec s i = (((Lib.decodeL (s.data.toList.drop i)).1 : Int), (Lib.decodeL (s.data.toList.drop i)).2) := by
          unfold dec
          rw [if_neg (by omega), Lib.decodeL_drop]
        have hne : s.data.toList.drop i ≠ [] := by
          intro e
          have := congrArg List.length e
          simp at this
          have e2 : s.data.size = s.size := rfl
          omega
        by_cases hcd : c = (dec s i).1
        · rw [if_pos hcd]
          obtain ⟨t, ht, hw⟩ := Ut.starts_of_decode c hsc c2 (s.data.toList.drop i) hne (by rw [hcd, hd])
          have hw2 : (dec s i).2 = (Lib.encodeRune c).length := by rw [hd]; exact hw
          have hle := dec_le s i hi
          have hlast : lastR s (i + (Lib.encodeRune c).length) = (dec s i).1 := by
            unfold lastR
            rw [if_neg (by omega)]
            have htk : s.data.toList.take (i + (Lib.encodeRune c).length) = s.data.toList.take i ++ Lib.encodeRune c := by
              rw [List.take_add, ht]
              simp
            rw [htk, Ut.decodeLast_encode c hsc, ← hcd]
            have := hsc.1
            simp only
            omega
          obtain ⟨_, k2, k3⟩ := hkl (by omega)
          have hdr : s.data.toList.drop (i + (Lib.encodeRune c).length) = t := by
            rw [← List.drop_drop, ht]; simp
          rw [hlast, hdr] at k2 k3
          rw [hw2, ht]
          have htake : (Lib.encodeRune c ++ t).take (Lib.encodeRune c ++ encs (litF L m o).1).length = Lib.encodeRune c ++ t.take (encs (litF L m o).1).length := by
            rw [List.length_append, List.take_append, List.take_of_length_le (by omega)]
            simp
          rw [htake, List.append_cancel_left_eq, List.length_append, ← Nat.add_assoc]
          exact ⟨k2, k3⟩
        · rw [if_neg hcd]
          refine ⟨fun e => ?_, fun _ => rfl⟩
          exfalso
          apply hcd
          have hdrop : s.data.toList.drop i = Lib.encodeRune c ++ (encs (litF L m o).1 ++ (s.data.toList.drop i).drop (Lib.encodeRune c ++ encs (litF L m o).1).length) := by
            have := List.take_append_drop (Lib.encodeRune c ++ encs (litF L m o).1).length (s.data.toList.drop i)
            rw [e, List.append_assoc] at this
            exact this.symm
          rw [hd]
          have := Ut.decode_encode c hsc (encs (litF L m o).1 ++ (s.data.toList.drop i).drop (Lib.encodeRune c ++ encs (litF L m o).1).length)
          rw [← hdrop] at this
          rw [this]
          have := hsc.1
          simp only
          omega
    · rw [if_neg hl]
      exact stop pc i n hp hi hn

/-- What the law says of the prefix. -/
theorem opF_ends {L : List I} {st0 nc most : Int} (h : PSound L st0 nc most) (hh : NoHalf L) (s : ByteArray) (st : Nat) (hst : st < L.length) (h3 : (ins L st).f0 = 3) :
    (opF L st).2.2 < L.length ∧
    (holds (condZ (lastR s 0) (dec s 0).1) (ins L st).f2 = false → endsF L s (s.size + 2) [st] (lastR s 0) 0 = []) ∧
    (¬ s.data.toList.take (encs (opF L st).1).length = encs (opF L st).1 → endsF L s (s.size + 2) [st] (lastR s 0) 0 = []) ∧
    (holds (condZ (lastR s 0) (dec s 0).1) (ins L st).f2 = true → s.data.toList.take (encs (opF L st).1).length = encs (opF L st).1 →
      endsF L s (s.size + 2) [st] (lastR s 0) 0 = endsF L s (s.size + 2 - (encs (opF L st).1).length) [(opF L st).2.2] (lastR s (encs (opF L st).1).length) (encs (opF L st).1).length ∧
      ((opF L st).2.1 = true → ∀ e ∈ endsF L s (s.size + 2) [st] (lastR s 0) 0, e = (encs (opF L st).1).length)) := by
  obtain ⟨o1, o2⟩ := h.outIn st hst (by omega)
  have hblk : holds (condZ (lastR s 0) (dec s 0).1) (ins L st).f2 = false → endsF L s (s.size + 2) [st] (lastR s 0) 0 = [] := fun hf => by
    have k := Eqv.stuck h (cond := condZ (lastR s 0) (dec s 0).1) hst (by unfold succs; rw [if_neg (by omega), if_neg (by omega), if_pos h3, hf]; simp) (by unfold waitsB; simp [h3])
    rw [endsF_eqv h s _ _ _ _ _ (one_lt hst) none_lt k, endsF_nil]
  obtain ⟨p1, p2⟩ := nopF_eqv h (condZ (lastR s 0) (dec s 0).1) L.length (ins L st).f1.toNat (by omega)
  have hthr : holds (condZ (lastR s 0) (dec s 0).1) (ins L st).f2 = true → endsF L s (s.size + 2) [st] (lastR s 0) 0 = endsF L s (s.size + 2) [nopF L L.length (ins L st).f1.toNat] (lastR s 0) 0 := fun hf => by
    have k := Eqv.through h (cond := condZ (lastR s 0) (dec s 0).1) hst (show (ins L st).f1.toNat < L.length by omega) (by unfold succs; rw [if_neg (by omega), if_neg (by omega), if_pos h3, if_pos hf])
    exact endsF_eqv h s _ _ _ _ _ (one_lt hst) (one_lt p1) (k.trans p2)
  unfold opF
  generalize nopF L L.length (ins L st).f1.toNat = p at *
  by_cases hr : isRu (ins L p) = true
  · rw [if_pos hr]
    dsimp only
    obtain ⟨q1, q2, q3⟩ := litF_ends h hh s L.length p 0 (s.size + 2) p1 (Nat.zero_le _) (by omega)
    rw [List.drop_zero, Nat.zero_add] at q2
    rw [List.drop_zero] at q3
    generalize litF L L.length p = r at *
    refine ⟨q1, hblk, fun hn => ?_, fun hf hp => ?_⟩
    · cases hf : holds (condZ (lastR s 0) (dec s 0).1) (ins L st).f2 with
      | false => exact hblk hf
      | true => rw [hthr hf]; exact q3 hn
    · have e := (hthr hf).trans (q2 hp)
      refine ⟨e, fun hc => ?_⟩
      rw [e]
      unfold endB at hc
      simp only [Bool.and_eq_true, decide_eq_true_eq] at hc
      obtain ⟨⟨g3, _⟩, g4⟩ := hc
      obtain ⟨u1, u2⟩ := h.outIn r.2 q1 (by omega)
      generalize (encs r.1).length = i at *
      cases hf2 : holds (condZ (lastR s i) (dec s i).1) (ins L r.2).f2 with
      | true =>
        have k := Eqv.through h (cond := condZ (lastR s i) (dec s i).1) q1 (show (ins L r.2).f1.toNat < L.length by omega) (by unfold succs; rw [if_neg (by omega), if_neg (by omega), if_pos g3, if_pos hf2])
        rw [endsF_eqv h s _ _ _ _ _ (one_lt q1) (one_lt (by omega)) k]
        exact endsF_match h s _ _ _ _ (by omega) g4
      | false =>
        have k := Eqv.stuck h (cond := condZ (lastR s i) (dec s i).1) q1 (by unfold succs; rw [if_neg (by omega), if_neg (by omega), if_pos g3, hf2]; simp) (by unfold waitsB; simp [g3])
        rw [endsF_eqv h s _ _ _ _ _ (one_lt q1) none_lt k, endsF_nil]
        intro e he; simp at he
  · rw [if_neg hr]
    dsimp only
    have e0 : (encs []).length = 0 := rfl
    rw [e0]
    refine ⟨hst, hblk, fun hn => absurd (by simp [encs]) hn, fun hf _ => ⟨rfl, fun hc => ?_⟩⟩
    rw [hthr hf]
    exact endsF_match h s _ _ _ _ p1 (by simpa using hc)
end Go.Proofs.YteoljppcafakpaaDoor.PgFnPgOnePrefix
