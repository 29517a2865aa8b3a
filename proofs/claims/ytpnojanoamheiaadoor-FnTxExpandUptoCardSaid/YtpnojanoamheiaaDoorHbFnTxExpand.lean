/- The characters of a name, the name behind a $, what a template says; the tables in memory. The walk of TxNameChar. -/
import Derived.Test.YtpnojanoamheiaaDoorHaFnTxExpand
import Derived.Test.YtpnojanoamheiaaDoorShelf
import Derived.Shelf.Unicode.PredsPay
import Derived.Lib.TrimU
namespace Go.Proofs.YtpnojanoamheiaaDoor.XxFnTxExpand
open Go.Proofs.YtpnojanoamheiaaDoorW.PrintWords hiding nums nums_length
open Go.RowKit Go.Proofs.YtpnojanoamheiaaDoor.EvN Go.Proofs.YtpnojanoamheiaaDoor.My Go.Proofs.YtpnojanoamheiaaDoor.PFnTxExpand Go.Proofs.YtpnojanoamheiaaDoorW.PrintLast Go.Proofs.YtpnojanoamheiaaDoorW.PrintMore
set_option linter.unusedSimpArgs false
set_option linter.unusedVariables false

def chL (r : Int) : Bool := if Lib.latin1 r then Lib.isLetterL r else Lib.exclGo Lib.letterT r
def chD (r : Int) : Bool := if r ≤ 255 then Lib.isDigitL r else Lib.exclGo Lib.digitT r
/-- A character of a name. -/
def nch (r : Int) : Bool := (r == 95) || (chL r || chD r)

structure Env (w : World) : Prop where
  u8 : Lib.Utf8Tabs 0 1 w
  pr : Lib.TabIs Tryd.prog w "unicode.properties" .u8 Lib.propertiesTab
  le : Lib.RVar 3 Lib.letterT w
  di : Lib.RVar 4 Lib.digitT w
theorem gprop : Tryd.prog.globalNamed "unicode.properties" = some 2 := by kernel_rfl
theorem Env.below {w w' : World} (h : Env w) (hb : Below w.heap.size w w') : Env w' :=
  ⟨Utf8Tabs_below h.u8 hb, Go.Proofs.TabIs_below gprop h.pr hb, Go.Proofs.RVar_below h.le hb, Go.Proofs.RVar_below h.di hb⟩

theorem letter_calls (r : Int) (w : World) (h1 : -2147483648 ≤ r) (h2 : r ≤ 2147483647) (hE : Env w) :
    Calls Tryd.prog 22 #[.int .i32 r] w fun e w' => e = .returned (.bool (chL r)) ∧ Below w.heap.size w w' :=
  Tryd.unicode_IsLetter_any Lib.letterT r w h1 h2 hE.pr hE.le Lib.letterT_ok
theorem digit_calls (r : Int) (w : World) (h1 : -2147483648 ≤ r) (h2 : r ≤ 2147483647) (hE : Env w) :
    Calls Tryd.prog 23 #[.int .i32 r] w fun e w' => e = .returned (.bool (chD r)) ∧ Below w.heap.size w w' :=
  Tryd.unicode_IsDigit_any Lib.digitT r w h1 h2 hE.di Lib.digitT_ok

set_option maxRecDepth 100000 in
theorem nchar_calls (r : Int) (w : World) (h1 : -2147483648 ≤ r) (h2 : r ≤ 2147483647) (hE : Env w) :
    Calls Tryd.prog 17 #[.int .i32 r] w fun e w' => e = .returned (.bool (nch r)) ∧ Below w.heap.size w w' := by
  have HE := Lib.hid hE
  clear hE
  cases c : (r == 95)
  · obtain ⟨a, ha⟩ : ∃ a, a = chL r := ⟨_, rfl⟩
    obtain ⟨b, hb⟩ : ∃ b, b = chD r := ⟨_, rfl⟩
    have HN : Hid (nch r = (a || b)) := Lib.hid (by unfold nch; rw [c, ha, hb, Bool.false_or])
    have HL := Lib.hid (letter_calls r w h1 h2 HE.out)
    rw [← ha] at HL
    have HD := Lib.hid (fun w' (hbb : Below w.heap.size w w') => digit_calls r w' h1 h2 (HE.out.below hbb))
    rw [← hb] at HD
    clear ha hb
    go_enter Tryd.func17, Tryd.ntmps17
    go_wp2_with fail
    refine HL.out.mono ?_
    rintro e w1 ⟨rfl, hb1⟩
    have HB1 := Lib.hid hb1
    clear hb1
    cases a with
    | true =>
      go_wp2_with fail
      go_ret
      exact ⟨by rw [HN.out]; rfl, HB1.out⟩
    | false =>
      go_wp2_with fail
      refine (HD.out w1 HB1.out).mono ?_
      rintro e w2 ⟨rfl, hb2⟩
      have HB2 := Lib.hid (HB1.out.trans (hb2.mono HB1.out.size))
      clear hb2
      go_wp2_with fail
      go_ret
      exact ⟨by rw [HN.out]; rfl, HB2.out⟩
  · have HN : Hid (nch r = true) := Lib.hid (by unfold nch; rw [c]; rfl)
    go_enter Tryd.func17, Tryd.ntmps17
    go_wp2_with fail
    go_ret
    exact ⟨by rw [HN.out]; rfl, Below.refl _ _⟩

/-! Names. -/
def scF (s : ByteArray) : Nat → Nat → Nat
  | 0, i => i
  | n + 1, i => if i < s.size then (if nch ((Lib.decodeGo (dr s i)).1 : Int) = true then scF s n (i + (Lib.decodeGo (dr s i)).2) else i) else i
def scan (s : ByteArray) : Nat := scF s (s.size + 1) 0
theorem dec_le (u : ByteArray) : (Lib.decodeGo u).2 ≤ u.size := Lib.decodeGo_le_size u
theorem dec_pos (u : ByteArray) (h : 0 < u.size) : 0 < (Lib.decodeGo u).2 := by
  unfold Lib.decodeGo
  rw [if_neg (by omega)]
  exact Lib.width_pos u 0
theorem dec_rune (u : ByteArray) : (Lib.decodeGo u).1 ≤ 1114111 := by
  unfold Lib.decodeGo
  split
  · decide
  · exact Lib.rune_le u 0
theorem scF_le (s : ByteArray) : ∀ n i, i ≤ s.size → scF s n i ≤ s.size
  | 0, i, h => h
  | n + 1, i, h => by
    rw [scF]
    split
    · split
      · have := dec_le (dr s i)
        rw [dr_size] at this
        exact scF_le s n _ (by omega)
      · exact h
    · exact h
theorem scan_le (s : ByteArray) : scan s ≤ s.size := scF_le s _ 0 (Nat.zero_le _)

def brB (t : ByteArray) : Bool := decide (0 < t.size) && (bt t 0 == 123)
def str (t : ByteArray) : ByteArray := if brB t = true then dr t 1 else t
/-- The name behind a $, and how far it goes. -/
def exS (t : ByteArray) : Option (ByteArray × Nat) :=
  if scan (str t) = 0 then none else if brB t = true then (if scan (str t) < (str t).size ∧ bt (str t) ((scan (str t) : Nat) : Int) = 125 then some ((str t).extract 0 (scan (str t)), scan (str t) + 2) else none) else some ((str t).extract 0 (scan (str t)), scan (str t))
theorem str_size (t : ByteArray) : (str t).size = if brB t = true then t.size - 1 else t.size := by
  unfold str
  split
  · rw [dr_size]
  · rfl
theorem brB_pos {t : ByteArray} (h : brB t = true) : 0 < t.size ∧ bt t 0 = 123 := by
  unfold brB at h
  simpa using h
theorem exS_le (t : ByteArray) (nm : ByteArray) (q : Nat) (h : exS t = some (nm, q)) : 1 ≤ q ∧ q ≤ t.size := by
  have h1 := scan_le (str t)
  have h2 := str_size t
  unfold exS at h
  split at h
  · cases h
  · split at h
    · rename_i hb
      rw [if_pos hb] at h2
      have := brB_pos hb
      split at h
      · cases h; omega
      · cases h
    · rename_i hb
      rw [if_neg hb] at h2
      cases h; omega

section
variable (src : ByteArray) (m : List Int) (names : List ByteArray)
/-- What a template says. -/
noncomputable def E : Nat → ByteArray → List Int
  | 0, _ => []
  | n + 1, t => if t.size = 0 then [] else if bt t 0 ≠ 36 then bt t 0 :: E n (dr t 1) else if 1 < t.size ∧ bt t 1 = 36 then 36 :: E n (dr t 2) else
    match exS (dr t 1) with
    | none => 36 :: E n (dr t 1)
    | some (nm, q) => My.nums (gtext src m names nm) ++ E n (dr t (1 + q))
theorem E_fuel : ∀ n k t, t.size < n → t.size < k → E src m names n t = E src m names k t
  | 0, _, t, h, _ => by omega
  | n + 1, 0, t, _, h => by omega
  | n + 1, k + 1, t, h1, h2 => by
    rw [E, E]
    by_cases h0 : t.size = 0
    · rw [if_pos h0, if_pos h0]
    rw [if_neg h0, if_neg h0]
    by_cases c : bt t 0 ≠ 36
    · rw [if_pos c, if_pos c, E_fuel n k _ (by rw [dr_size]; omega) (by rw [dr_size]; omega)]
    rw [if_neg c, if_neg c]
    by_cases d : 1 < t.size ∧ bt t 1 = 36
    · rw [if_pos d, if_pos d, E_fuel n k _ (by rw [dr_size]; omega) (by rw [dr_size]; omega)]
    rw [if_neg d, if_neg d]
    cases hx : exS (dr t 1) with
    | none => simp only; rw [E_fuel n k _ (by rw [dr_size]; omega) (by rw [dr_size]; omega)]
    | some x =>
      obtain ⟨nm, q⟩ := x
      have := exS_le _ nm q hx
      simp only
      rw [E_fuel n k _ (by rw [dr_size]; omega) (by rw [dr_size]; omega)]
noncomputable def EE (t : ByteArray) : List Int := E src m names (t.size + 1) t
theorem EE_nil (t : ByteArray) (h : t.size = 0) : EE src m names t = [] := by unfold EE; rw [E, if_pos h]
theorem EE_chr (t : ByteArray) (h : 0 < t.size) (c : bt t 0 ≠ 36) : EE src m names t = bt t 0 :: EE src m names (dr t 1) := by
  unfold EE
  rw [E, if_neg (by omega), if_pos c, E_fuel src m names _ ((dr t 1).size + 1) _ (by rw [dr_size]; omega) (by omega)]
theorem EE_two (t : ByteArray) (h : 1 < t.size) (c : bt t 0 = 36) (d : bt t 1 = 36) : EE src m names t = 36 :: EE src m names (dr t 2) := by
  unfold EE
  rw [E, if_neg (by omega), if_neg (by omega), if_pos ⟨h, d⟩, E_fuel src m names _ ((dr t 2).size + 1) _ (by rw [dr_size]; omega) (by omega)]
theorem EE_no (t : ByteArray) (h : 0 < t.size) (c : bt t 0 = 36) (d : ¬ (1 < t.size ∧ bt t 1 = 36)) (hx : exS (dr t 1) = none) : EE src m names t = 36 :: EE src m names (dr t 1) := by
  unfold EE
  rw [E, if_neg (by omega), if_neg (by omega), if_neg d, hx]
  simp only
  rw [E_fuel src m names _ ((dr t 1).size + 1) _ (by rw [dr_size]; omega) (by omega)]
theorem EE_yes (t : ByteArray) (h : 0 < t.size) (c : bt t 0 = 36) (d : ¬ (1 < t.size ∧ bt t 1 = 36)) (nm : ByteArray) (q : Nat) (hx : exS (dr t 1) = some (nm, q)) : EE src m names t = My.nums (gtext src m names nm) ++ EE src m names (dr t (1 + q)) := by
  have := exS_le _ nm q hx
  unfold EE
  rw [E, if_neg (by omega), if_neg (by omega), if_neg d, hx]
  simp only
  rw [E_fuel src m names _ ((dr t (1 + q)).size + 1) _ (by rw [dr_size]; omega) (by omega)]
theorem EE_skip (t : ByteArray) : ∀ q, q ≤ t.size → (∀ j : Nat, j < q → bt t (j : Int) ≠ 36) → EE src m names t = (My.nums t).take q ++ EE src m names (dr t q)
  | 0, _, _ => by rw [dr_zero]; simp
  | q + 1, hq, h => by
    rw [EE_skip t q (by omega) fun j hj => h j (by omega), EE_chr src m names (dr t q) (by rw [dr_size]; omega) ?_, dr_dr, List.take_succ_eq_append_getElem (by rw [My.nums_length]; omega), My.nums_get t q (by omega)]
    · have := bt_dr t q 0 (by omega)
      rw [Nat.add_zero, bt_nat t q (by omega)] at this
      rw [show (0 : Int) = ((0 : Nat) : Int) from rfl, this]
      simp
    · have := bt_dr t q 0 (by omega)
      rw [Nat.add_zero] at this
      rw [show (0 : Int) = ((0 : Nat) : Int) from rfl, this]
      exact h q (by omega)
theorem EE_len (M : Nat) (hM : src.size < M) : ∀ n t, t.size ≤ n → (EE src m names t).length ≤ t.size * M
  | 0, t, h => by rw [EE_nil src m names t (by omega)]; simp
  | n + 1, t, h => by
    by_cases h0 : t.size = 0
    · rw [EE_nil src m names t h0]; simp
    have step : ∀ (k a L : Nat), a ≤ M → 1 ≤ k → k ≤ t.size → L ≤ (t.size - k) * M → a + L ≤ t.size * M := fun k a L ha hk hk' hL => by
      have e : t.size * M = (t.size - k) * M + k * M := by rw [← Nat.add_mul]; congr 1; omega
      have : M ≤ k * M := Nat.le_mul_of_pos_left M hk
      omega
    by_cases c : bt t 0 ≠ 36
    · rw [EE_chr src m names t (by omega) c, List.length_cons]
      have := EE_len M hM n (dr t 1) (by rw [dr_size]; omega)
      rw [dr_size] at this
      have := step 1 1 _ (by omega) (by omega) (by omega) this
      omega
    have c' : bt t 0 = 36 := Classical.not_not.1 c
    by_cases d : 1 < t.size ∧ bt t 1 = 36
    · rw [EE_two src m names t d.1 c' d.2, List.length_cons]
      have := EE_len M hM n (dr t 2) (by rw [dr_size]; omega)
      rw [dr_size] at this
      have := step 2 1 _ (by omega) (by omega) (by omega) this
      omega
    cases hx : exS (dr t 1) with
    | none =>
      rw [EE_no src m names t (by omega) c' d hx, List.length_cons]
      have := EE_len M hM n (dr t 1) (by rw [dr_size]; omega)
      rw [dr_size] at this
      have := step 1 1 _ (by omega) (by omega) (by omega) this
      omega
    | some x =>
      obtain ⟨nm, q⟩ := x
      have hq := exS_le _ nm q hx
      rw [dr_size] at hq
      rw [EE_yes src m names t (by omega) c' d nm q hx, List.length_append, My.nums_length]
      have h1 := gtext_size src m names nm
      have := EE_len M hM n (dr t (1 + q)) (by rw [dr_size]; omega)
      rw [dr_size] at this
      exact step (1 + q) _ _ (by omega) (by omega) (by omega) this
end
end Go.Proofs.YtpnojanoamheiaaDoor.XxFnTxExpand
