/- Templates written out, in plain Lean: numbers of names, groups of a match, what a template says. No walk. -/
import Derived.Test.YtpnojanoamheiaaDoorPimFnTxExpand
import Derived.Test.YtpnojanoamheiaaDoorEv
import Derived.Test.YtpnojanoamheiaaDoorBytes
namespace Go.Proofs.YtpnojanoamheiaaDoor.XxFnTxExpand
open Go.Proofs.YtpnojanoamheiaaDoorW.PrintWords hiding nums nums_length
open Go.RowKit Go.Proofs.YtpnojanoamheiaaDoor.EvN Go.Proofs.YtpnojanoamheiaaDoor.My Go.Proofs.YtpnojanoamheiaaDoor.PFnTxExpand Go.Proofs.YtpnojanoamheiaaDoorW.PrintLast Go.Proofs.YtpnojanoamheiaaDoorW.PrintMore
set_option linter.unusedSimpArgs false
set_option linter.unusedVariables false

/-- What is left of a text from a place on. -/
def dr (t : ByteArray) (k : Nat) : ByteArray := t.extract k t.size
theorem dr_size (t : ByteArray) (k : Nat) : (dr t k).size = t.size - k := by unfold dr; simp
theorem dr_dr (t : ByteArray) (a b : Nat) : dr (dr t a) b = dr t (a + b) := by
  unfold dr
  rw [ByteArray.extract_extract]
  congr 1
  simp
  omega
theorem dr_zero (t : ByteArray) : dr t 0 = t := by unfold dr; simp
theorem bt_nat (s : ByteArray) (i : Nat) (h : i < s.size) : bt s (i : Int) = (s[i].toNat : Int) := by
  unfold bt
  simp [h]
theorem bt_dr (t : ByteArray) (k i : Nat) (h : k + i < t.size) : bt (dr t k) (i : Int) = bt t ((k + i : Nat) : Int) := by
  rw [bt_nat _ i (by rw [dr_size]; omega), bt_nat t (k + i) h]
  unfold dr
  rw [ByteArray.getElem_extract]
theorem nums_dr (t : ByteArray) (k : Nat) : nums (dr t k) = (nums t).drop k := by
  unfold nums dr
  rw [← List.map_drop]
  congr 1
  simp [ByteArray.data_extract, Array.toList_extract, List.extract_eq_take_drop]
  rw [List.take_of_length_le]
  simp
theorem nums_cons (t : ByteArray) (h : 0 < t.size) : nums t = bt t 0 :: nums (dr t 1) := by
  rw [nums_dr]
  have h0 := bt_nat t 0 h
  have hl := nums_length t
  cases hn : nums t with
  | nil => rw [hn] at hl; simp at hl; omega
  | cons a l =>
    have := nums_get t 0 h
    simp only [hn, List.getElem_cons_zero] at this
    rw [List.drop_succ_cons, List.drop_zero, show bt t 0 = a by rw [show (0 : Int) = ((0 : Nat) : Int) from rfl, h0, this]]
theorem nums_nil (t : ByteArray) (h : t.size = 0) : nums t = [] := List.eq_nil_of_length_eq_zero (by rw [nums_length]; exact h)

/-! Numbers of names. -/
def val (s : ByteArray) : Nat → Int
  | 0 => 0
  | i + 1 => val s i * 10 + (bt s (i : Int) - 48)
def Dig (s : ByteArray) (n : Nat) : Prop := ∀ j : Nat, j < n → 48 ≤ bt s (j : Int) ∧ bt s (j : Int) ≤ 57
open Classical in
noncomputable def numE (s : ByteArray) : Int := if Dig s s.size ∧ 0 < s.size ∧ s.size ≤ 9 ∧ ¬ (bt s 0 = 48 ∧ 1 < s.size) then val s s.size else -1
theorem val_rng (s : ByteArray) : ∀ n, Dig s n → 0 ≤ val s n ∧ val s n < 10 ^ n
  | 0, _ => by simp [val]
  | n + 1, h => by
    have h1 := val_rng s n fun j hj => h j (by omega)
    have h2 := h n (by omega)
    rw [val, Int.pow_succ]
    generalize (10 : Int) ^ n = P at *
    omega
theorem val_lo (s : ByteArray) (h0 : bt s 0 ≠ 48) : ∀ n, Dig s (n + 1) → 10 ^ n ≤ val s (n + 1)
  | 0, h => by
    have := h 0 (by omega)
    simp only [val, Int.natCast_zero] at this ⊢
    omega
  | n + 1, h => by
    have h1 := val_lo s h0 n fun j hj => h j (by omega)
    have h2 := h (n + 1) (by omega)
    rw [val, Int.pow_succ]
    generalize (10 : Int) ^ n = P at *
    generalize val s (n + 1) = v at *
    omega
theorem numE_rng (s : ByteArray) : -1 ≤ numE s ∧ numE s ≤ 999999999 := by
  unfold numE
  split
  · rename_i h
    have h1 := val_rng s s.size h.1
    have h2 : (10 : Int) ^ s.size ≤ 10 ^ 9 := by
      have : 10 ^ s.size ≤ 10 ^ 9 := Nat.pow_le_pow_right (by omega) h.2.2.1
      exact_mod_cast this
    have e : (10 : Int) ^ 9 = 1000000000 := by decide
    omega
  · omega
theorem numE_no (s : ByteArray) (j : Nat) (hj : j < s.size) (h : bt s (j : Int) < 48 ∨ 57 < bt s (j : Int)) : numE s = -1 := by
  unfold numE
  rw [if_neg fun hh => by have := hh.1 j hj; omega]

theorem ev_numL (s : ByteArray) (hs : s.size ≤ 4611686018427387000) : ∀ m i, i + m = s.size → Dig s i → ∀ x, x = min (val s i) 1000000000 → Evn (fun k => spec_TxGroupNumber.l0 k s x (i : Int)) (numE s) := by
  intro m
  induction m with
  | zero =>
    intro i hi hd x hx
    obtain rfl : i = s.size := by omega
    have hv := val_rng s s.size hd
    refine Evn.succ (Evn.congr (Evn.const _) fun k => ?_)
    simp only [spec_TxGroupNumber.l0]
    rw [if_neg (by omega)]
    by_cases h0 : s.size = 0
    · have e : s.toList = [] := by
        rw [show s.toList = s.data.toList from ByteArray.toList_eq ..] <;> simp
        exact Array.eq_empty_of_size_eq_zero h0
      rw [if_pos e]
      unfold numE
      rw [if_neg (by omega)]
    · have e : ¬ s.toList = [] := fun e => h0 (by
        rw [ByteArray.toList_eq] at e
        have := congrArg List.length e
        rw [Array.length_toList] at this
        exact this)
      rw [if_neg e]
      by_cases h9 : s.size ≤ 9
      · rw [if_neg (by omega), if_pos (by omega)]
        have h2 : (10 : Int) ^ s.size ≤ 10 ^ 9 := by
          have : 10 ^ s.size ≤ 10 ^ 9 := Nat.pow_le_pow_right (by omega) h9
          exact_mod_cast this
        have e9 : (10 : Int) ^ 9 = 1000000000 := by decide
        unfold numE
        by_cases h48 : bt s 0 = 48
        · rw [if_pos h48]
          by_cases h1 : 1 < s.size
          · rw [if_pos (by omega), if_neg (by omega)]
          · rw [if_neg (by omega), if_pos ⟨hd, by omega, h9, by omega⟩]
            congr 1; omega
        · rw [if_neg h48, if_pos ⟨hd, by omega, h9, by omega⟩]
          congr 1; omega
      · rw [if_pos (by omega)]
        unfold numE
        rw [if_neg (by omega)]
  | succ m ih =>
    intro i hi hd x hx
    have e1 : wrap64 ((i : Int) + 1) = ((i + 1 : Nat) : Int) := Go.Proofs.YtpnojanoamheiaaDoor.EvN.wrap_nat i 1 (by omega)
    have hv := val_rng s i hd
    have q0 : (i : Int) < (s.size : Int) := by omega
    have q1 : (0 : Int) ≤ (i : Int) := by omega
    have hx0 : 0 ≤ x ∧ x ≤ 1000000000 := by omega
    have e2 : wrap64 (x * 10) = x * 10 := by unfold wrap64; omega
    have hb := bt_range s (i : Int)
    refine Evn.succ ?_
    simp only [spec_TxGroupNumber.l0, e1, e2, if_pos q0, if_pos q1]
    by_cases c1 : bt s (i : Int) < 48
    · simp only [if_pos c1]
      rw [numE_no s i (by omega) (.inl c1)]
      exact Evn.const _
    · by_cases c2 : bt s (i : Int) > 57
      · simp only [if_neg c1, if_pos c2]
        rw [numE_no s i (by omega) (.inr c2)]
        exact Evn.const _
      · simp only [if_neg c1, if_neg c2]
        have e3 : wrap64 (x * 10 + (bt s (i : Int) - 48) % 256) = x * 10 + (bt s (i : Int) - 48) := by unfold wrap64; omega
        rw [e3]
        refine ih (i + 1) (by omega) (fun j hj => ?_) _ ?_
        · by_cases e : j = i
          · subst e; omega
          · exact hd j (by omega)
        · show (if (1000000000 : Int) < x * 10 + (bt s (i : Int) - 48) then (1000000000 : Int) else x * 10 + (bt s (i : Int) - 48)) = _
          rw [val]
          generalize val s i = v at *
          generalize bt s (i : Int) = b at *
          subst hx
          split <;> omega
theorem ev_num (s : ByteArray) (hs : s.size ≤ 4611686018427387000) : Evn (fun k => spec_TxGroupNumber.f k s) (numE s) := ev_numL s hs s.size 0 (by omega) (fun j hj => by omega) 0 (show (0 : Int) = min 0 1000000000 by decide)

/-- The inner reader's number: so far digits, never 100000000 or more ahead of one. -/
theorem numE_yes (s : ByteArray) (h0 : 0 < s.size) (hd : Dig s s.size) (hs : ∀ j : Nat, j < s.size → val s j < 100000000) (h : ¬ (bt s 0 = 48 ∧ 1 < s.size)) : numE s = val s s.size := by
  have h9 : s.size ≤ 9 := by
    rcases Nat.lt_or_ge 9 s.size with h9 | h9
    · have h1 := hs 9 h9
      have h2 : (10 : Int) ^ 8 ≤ val s 9 := val_lo s (fun e => h ⟨e, by omega⟩) 8 fun j hj => hd j (by omega)
      have e : (10 : Int) ^ 8 = 100000000 := by decide
      omega
    · exact h9
  unfold numE
  rw [if_pos ⟨hd, h0, h9, h⟩]
theorem numE_big (s : ByteArray) (i : Nat) (hi : i < s.size) (hd : Dig s i) (h : 100000000 ≤ val s i) : numE s = -1 := by
  have h1 := val_rng s i hd
  have h9 : 9 ≤ i := by
    rcases Nat.lt_or_ge i 9 with h9 | h9
    · have h2 : (10 : Int) ^ i ≤ 10 ^ 8 := by
        have : 10 ^ i ≤ 10 ^ 8 := Nat.pow_le_pow_right (by omega) (by omega)
        exact_mod_cast this
      have e : (10 : Int) ^ 8 = 100000000 := by decide
      omega
    · exact h9
  unfold numE
  rw [if_neg (by omega)]
theorem numE_zero (s : ByteArray) (h : bt s 0 = 48) (h1 : 1 < s.size) : numE s = -1 := by
  unfold numE
  rw [if_neg (by omega)]

/-! The groups of a match. -/
def Pairs (m : List Int) (n : Nat) : Prop := m.length % 2 = 0 ∧ 2 ≤ m.length ∧ ∀ j : Nat, 2 * j + 1 < m.length → (m.getD (2 * j) 0 = -1 ∧ m.getD (2 * j + 1) 0 = -1) ∨ (0 ≤ m.getD (2 * j) 0 ∧ m.getD (2 * j) 0 ≤ m.getD (2 * j + 1) 0 ∧ m.getD (2 * j + 1) 0 ≤ n)
def gtx (src : ByteArray) (m : List Int) (i : Nat) : Option ByteArray := if 2 * i + 1 < m.length ∧ 0 ≤ m.getD (2 * i) 0 then some (src.extract (m.getD (2 * i) 0).toNat (m.getD (2 * i + 1) 0).toNat) else none
def ntx (src : ByteArray) (m : List Int) (nm : ByteArray) : Nat → List ByteArray → ByteArray
  | _, [] => ⟨#[]⟩
  | i, x :: r => if x = nm then (match gtx src m i with | some t => t | none => ntx src m nm (i + 1) r) else ntx src m nm (i + 1) r
noncomputable def gtext (src : ByteArray) (m : List Int) (names : List ByteArray) (nm : ByteArray) : ByteArray := if 0 ≤ numE nm then (gtx src m (numE nm).toNat).getD ⟨#[]⟩ else ntx src m nm 0 names
theorem gtx_size (src : ByteArray) (m : List Int) (i : Nat) (t : ByteArray) (h : gtx src m i = some t) : t.size ≤ src.size := by
  unfold gtx at h
  split at h
  · cases h
    simp
    omega
  · cases h
theorem ntx_size (src : ByteArray) (m : List Int) (nm : ByteArray) : ∀ (l : List ByteArray) (i : Nat), (ntx src m nm i l).size ≤ src.size
  | [], i => by rw [ntx]; exact Nat.zero_le _
  | x :: r, i => by
    rw [ntx]
    split
    · split
      · rename_i t ht; exact gtx_size src m i t ht
      · exact ntx_size src m nm r (i + 1)
    · exact ntx_size src m nm r (i + 1)
theorem gtext_size (src : ByteArray) (m : List Int) (names : List ByteArray) (nm : ByteArray) : (gtext src m names nm).size ≤ src.size := by
  unfold gtext
  split
  · cases h : gtx src m (numE nm).toNat with
    | none => exact Nat.zero_le _
    | some t => exact gtx_size src m _ t h
  · exact ntx_size src m nm names 0

theorem group_f (src : ByteArray) (m : List Int) (hp : Pairs m src.size) (hm : m.length ≤ 1000000000) (i : Nat) (hi : i ≤ 1000000000) : spec_TxGroup.f src m (i : Int) = some ((gtx src m i).getD ⟨#[]⟩, (gtx src m i).isSome) := by
  obtain ⟨p0, p1, p2⟩ := hp
  have e1 : wrap64 ((m.length : Int) - 2) = (m.length : Int) - 2 := by unfold wrap64; omega
  have e2 : Int.tdiv ((m.length : Int) - 2) 2 = ((m.length : Int) - 2) / 2 := Int.tdiv_eq_ediv_of_nonneg (by omega)
  have e3 : wrap64 (((m.length : Int) - 2) / 2) = ((m.length : Int) - 2) / 2 := by unfold wrap64; omega
  have e4 : wrap64 (2 * (i : Int)) = ((2 * i : Nat) : Int) := by unfold wrap64; omega
  have e5 : wrap64 (((2 * i : Nat) : Int) + 1) = ((2 * i + 1 : Nat) : Int) := by unfold wrap64; omega
  unfold spec_TxGroup.f
  rw [e1, e2, e3, e4, e5, if_neg (by omega)]
  by_cases h : 2 * i + 1 < m.length
  · have r1 : rd m ((2 * i : Nat) : Int) = m.getD (2 * i) 0 := by unfold rd; rw [Int.toNat_natCast]
    have r2 : rd m ((2 * i + 1 : Nat) : Int) = m.getD (2 * i + 1) 0 := by unfold rd; rw [Int.toNat_natCast]
    have hp := p2 i h
    rw [if_neg (by omega), if_pos (by omega), if_pos (by omega), r1, r2]
    unfold gtx
    by_cases h0 : m.getD (2 * i) 0 < 0
    · rw [if_pos h0, if_neg (by omega)]; rfl
    · rw [if_neg h0, if_pos (by omega), if_pos (by omega), if_pos (by omega), if_pos (by omega), if_pos (by omega), if_pos ⟨h, by omega⟩]; rfl
  · rw [if_pos (by omega)]
    unfold gtx
    rw [if_neg (by omega)]; rfl

theorem bytes_eq (a b : ByteArray) : a.toList = b.toList ↔ a = b := by
  constructor
  · intro h
    rw [ByteArray.toList_eq, ByteArray.toList_eq] at h
    exact ByteArray.ext (Array.toList_inj.1 h)
  · intro h; rw [h]

theorem ev_namedL (src : ByteArray) (m : List Int) (hp : Pairs m src.size) (hm : m.length ≤ 1000000000) (nm : ByteArray) (l : List ByteArray) (hl : l.length ≤ 1000000000) : ∀ n i, i + n = l.length →
    Evn (fun k => spec_TxNamed.l0 k src m nm l (l.length : Int) (i : Int)) (ntx src m nm i (l.drop i)) := by
  intro n
  induction n with
  | zero =>
    intro i hi
    refine Evn.succ (Evn.congr (Evn.const _) fun k => ?_)
    simp only [spec_TxNamed.l0]
    rw [if_neg (by omega), List.drop_eq_nil_of_le (by omega), ntx]
  | succ n ih =>
    intro i hi
    have e1 : wrap64 ((i : Int) + 1) = ((i + 1 : Nat) : Int) := Go.Proofs.YtpnojanoamheiaaDoor.EvN.wrap_nat i 1 (by omega)
    have hlt : i < l.length := by omega
    have q0 : (i : Int) < (l.length : Int) := by omega
    have q1 : (0 : Int) ≤ (i : Int) := by omega
    have er : rdOf ByteArray.empty l (i : Int) = l[i] := by unfold rdOf; rw [Int.toNat_natCast, List.getD_eq_getElem?_getD, List.getElem?_eq_getElem hlt]; rfl
    rw [List.drop_eq_getElem_cons hlt, ntx]
    refine Evn.succ ?_
    simp only [spec_TxNamed.l0, e1, er, if_pos q0, if_pos q1, group_f src m hp hm i (by omega), Option.bind_some, bytes_eq]
    by_cases c : l[i] = nm
    · simp only [if_pos c]
      cases hg : gtx src m i with
      | none =>
        simp only [Option.isSome_none, Bool.false_eq_true, if_false]
        exact ih (i + 1) (by omega)
      | some t =>
        simp only [Option.isSome_some, if_true, Option.getD_some]
        exact Evn.const _
    · simp only [if_neg c]
      exact ih (i + 1) (by omega)
theorem ev_named (src : ByteArray) (m : List Int) (hp : Pairs m src.size) (hm : m.length ≤ 1000000000) (nm : ByteArray) (l : List ByteArray) (hl : l.length ≤ 1000000000) : Evn (fun k => spec_TxNamed.f k src m l nm) (ntx src m nm 0 l) :=
  ev_namedL src m hp hm nm l hl l.length 0 (by omega)

/-! Where a $ stands first. -/
theorem ev_index (t : ByteArray) (ht : t.size ≤ 4611686018427387000) : ∀ m i, i + m = t.size → ∃ r : Int, Evn (fun k => regexp_zzIndex.l0 k t ⟨#[36]⟩ (i : Int)) r ∧
    ((r = -1 ∧ ∀ j : Nat, i ≤ j → j < t.size → bt t (j : Int) ≠ 36) ∨ ∃ q : Nat, r = q ∧ i ≤ q ∧ q < t.size ∧ bt t (q : Int) = 36 ∧ ∀ j : Nat, i ≤ j → j < q → bt t (j : Int) ≠ 36) := by
  have e0 : ((⟨#[36]⟩ : ByteArray).size : Int) = 1 := rfl
  intro m
  induction m with
  | zero =>
    intro i hi
    refine ⟨-1, Evn.succ (Evn.congr (Evn.const _) fun k => ?_), .inl ⟨rfl, fun j h1 h2 => by omega⟩⟩
    simp only [regexp_zzIndex.l0, e0]
    rw [if_neg (by unfold wrap64; omega)]
  | succ m ih =>
    intro i hi
    have e1 : wrap64 ((i : Int) + 1) = ((i + 1 : Nat) : Int) := Go.Proofs.YtpnojanoamheiaaDoor.EvN.wrap_nat i 1 (by omega)
    have q0 : ((i + 1 : Nat) : Int) ≤ (t.size : Int) := by omega
    have q1 : (0 : Int) ≤ (i : Int) := by omega
    have q2 : (i : Int) ≤ ((i + 1 : Nat) : Int) := by omega
    have hc : (t.extract i (i + 1)).toList = (⟨#[36]⟩ : ByteArray).toList ↔ bt t (i : Int) = 36 := by
      rw [bytes_eq, bt_nat t i (by omega)]
      have hsz : (t.extract i (i + 1)).size = 1 := by simp; omega
      constructor
      · intro h
        have h2 : (t.extract i (i + 1))[0]'(by omega) = 36 := by simp [h]; rfl
        rw [ByteArray.getElem_extract] at h2
        simp only [Nat.add_zero] at h2
        rw [h2]; rfl
      · intro h
        apply ByteArray.ext
        apply Array.ext
        · exact hsz
        · intro j h1 h2
          have h3 : (t.extract i (i + 1)).data.size = 1 := hsz
          obtain rfl : j = 0 := by omega
          have h4 : (t.extract i (i + 1))[0]'(by omega) = t[i] := by rw [ByteArray.getElem_extract]; rfl
          have h5 : t[i].toNat = 36 := by omega
          show (t.extract i (i + 1))[0]'(by omega) = 36
          rw [h4]
          exact UInt8.toNat_inj.1 h5
    by_cases c : bt t (i : Int) = 36
    · refine ⟨i, Evn.succ ?_, .inr ⟨i, rfl, Nat.le_refl _, by omega, c, fun j h1 h2 => by omega⟩⟩
      simp only [regexp_zzIndex.l0, e0, e1, if_pos q0, if_pos q1, if_pos q2, Int.toNat_natCast, hc, if_pos c]
      exact Evn.const _
    · obtain ⟨r, hr, h⟩ := ih (i + 1) (by omega)
      refine ⟨r, Evn.succ ?_, ?_⟩
      · simp only [regexp_zzIndex.l0, e0, e1, if_pos q0, if_pos q1, if_pos q2, Int.toNat_natCast, hc, if_neg c]
        exact hr
      · rcases h with ⟨h1, h2⟩ | ⟨q, h1, h2, h3, h4, h5⟩
        · exact .inl ⟨h1, fun j a b => by
            by_cases e : j = i
            · subst e; exact c
            · exact h2 j (by omega) b⟩
        · exact .inr ⟨q, h1, by omega, h3, h4, fun j a b => by
            by_cases e : j = i
            · subst e; exact c
            · exact h5 j (by omega) b⟩
/-- What zzCut(t, "$") says. -/
theorem ev_cut (t : ByteArray) (ht : t.size ≤ 4611686018427387000) : (∃ k, regexp_zzCut.f k t ⟨#[36]⟩ = some (t, ⟨#[]⟩, false) ∧ ∀ j : Nat, j < t.size → bt t (j : Int) ≠ 36) ∨
    ∃ k q : Nat, regexp_zzCut.f k t ⟨#[36]⟩ = some (t.extract 0 q, dr t (q + 1), true) ∧ q < t.size ∧ bt t (q : Int) = 36 ∧ ∀ j : Nat, j < q → bt t (j : Int) ≠ 36 := by
  have e0 : ((⟨#[36]⟩ : ByteArray).size : Int) = 1 := rfl
  obtain ⟨r, hr, h⟩ := ev_index t ht t.size 0 (by omega)
  obtain ⟨k, hk⟩ := hr.get
  have hk' : regexp_zzIndex.f k t ⟨#[36]⟩ = some r := hk
  rcases h with ⟨rfl, h2⟩ | ⟨q, rfl, h2, h3, h4, h5⟩
  · refine .inl ⟨k, ?_, fun j hj => h2 j (Nat.zero_le _) hj⟩
    unfold regexp_zzCut.f
    rw [hk', Option.bind_some, if_neg (by omega)]
  · refine .inr ⟨k, q, ?_, h3, h4, fun j hj => h5 j (Nat.zero_le _) hj⟩
    have e1 : wrap64 ((q : Int) + 1) = ((q + 1 : Nat) : Int) := Go.Proofs.YtpnojanoamheiaaDoor.EvN.wrap_nat q 1 (by omega)
    unfold regexp_zzCut.f
    rw [hk', Option.bind_some, e0, e1, if_pos (by omega), if_pos (by omega), if_pos (by omega), if_pos (by omega), if_pos (by omega), Int.toNat_natCast, Int.toNat_natCast]
    rfl
end Go.Proofs.YtpnojanoamheiaaDoor.XxFnTxExpand
