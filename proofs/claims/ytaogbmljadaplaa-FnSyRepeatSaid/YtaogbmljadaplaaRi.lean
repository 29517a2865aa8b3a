/- The plain law of FnSyRepeat, and the walk of the law's own function. -/
import Derived.Test.YtaogbmljadaplaaRh
namespace Go.Proofs.Ytaogbmljadaplaa.Rp
open Go.RowKit My

def Dg (d : List Int) : Prop := d ≠ [] ∧ (∀ x ∈ d, 48 ≤ x ∧ x ≤ 57) ∧ (2 ≤ d.length → d.head? ≠ some 48)

theorem digs_range (l : List Int) : ∀ x ∈ digs l, 48 ≤ x ∧ x ≤ 57 := by
  intro x hx
  have := List.all_eq_true.1 List.all_takeWhile x hx
  unfold isd at this
  exact of_decide_eq_true this

theorem okInt_dg (l : List Int) (h : okInt l = true) : Dg (digs l) := by
  unfold okInt at h
  simp only [Bool.and_eq_true, Bool.not_eq_true', Bool.and_eq_false_iff, decide_eq_false_iff_not] at h
  refine ⟨fun e => by rw [e] at h; simp at h, digs_range l, fun h2 e => ?_⟩
  rcases h.2 with h3 | h3
  · exact h3 h2
  · have : l.head? = some 48 := by
      cases l with
      | nil => simp [digs] at h2
      | cons c r =>
        unfold digs at e
        rw [List.takeWhile_cons] at e
        split at e
        · simpa using e
        · simp at e
    rw [this] at h3
    simp at h3

theorem valM_big : ∀ (r : List Int), (∀ x ∈ r, 48 ≤ x ∧ x ≤ 57) → valM 1000000000 r = 1000000000
  | [], _ => rfl
  | c :: r, h => by
    have hc := h c (by simp)
    rw [valM, Int.min_eq_right (by omega)]
    exact valM_big r fun x hx => h x (by simp [hx])

theorem val_step : ∀ (d : List Int) (n : Int), (∀ x ∈ d, 48 ≤ x ∧ x ≤ 57) → 1 ≤ n → n < 1000000000 → (valL n d = valM n d ∧ 0 ≤ valM n d ∧ valM n d < 1000000000) ∨ (valL n d = -1 ∧ valM n d = 1000000000)
  | [], n, _, h1, h2 => .inl ⟨rfl, by show 0 ≤ n; omega, h2⟩
  | c :: r, n, h, h1, h2 => by
    have hc := h c (by simp)
    have hr : ∀ x ∈ r, 48 ≤ x ∧ x ≤ 57 := fun x hx => h x (by simp [hx])
    rw [valL, valM]
    by_cases hb : n ≥ 100000000
    · rw [if_pos hb, Int.min_eq_right (by omega)]
      exact .inr ⟨rfl, valM_big r hr⟩
    · rw [if_neg hb, Int.min_eq_left (by omega), show n * 10 + c - 48 = 10 * n + (c - 48) from by omega]
      exact val_step r _ hr (by omega) (by omega)

theorem val_cmp (d : List Int) (h : Dg d) : (valL 0 d = valM 0 d ∧ 0 ≤ valM 0 d ∧ valM 0 d < 1000000000) ∨ (valL 0 d = -1 ∧ valM 0 d = 1000000000) := by
  obtain ⟨h0, h1, h2⟩ := h
  cases d with
  | nil => exact absurd rfl h0
  | cons c r =>
    have hc := h1 c (by simp)
    have hr : ∀ x ∈ r, 48 ≤ x ∧ x ≤ 57 := fun x hx => h1 x (by simp [hx])
    rw [valL, valM, if_neg (by omega), Int.min_eq_left (by omega), show (0 : Int) * 10 + c - 48 = 10 * 0 + (c - 48) from by omega]
    cases r with
    | nil =>
      refine .inl ⟨rfl, ?_, ?_⟩
      · show 0 ≤ 10 * 0 + (c - 48); omega
      · show 10 * 0 + (c - 48) < 1000000000; omega
    | cons c2 r2 =>
      have : c ≠ 48 := fun e => h2 (by simp) (by simp [e])
      exact val_step _ _ hr (by omega) (by omega)

def bigM (d1 : List Int) (k : Kind) : Bool := decide (1000000000 ≤ valM 0 d1) || decide (1000000000 ≤ most (valM 0) d1 k)

def Same (_ : List Int) : Option (List Int × Kind × List Int) → Option (Int × Int × List Int) → Prop
  | none, none => True
  | some (d1, k, r), some (x, y, r') => r = r' ∧ if bigM d1 k = true then x = -1 else x = valM 0 d1 ∧ y = most (valM 0) d1 k
  | _, _ => False

theorem cmpB (d1 d2 l : List Int) (h1 : Dg d1) (h2 : Dg d2) : Same l (grB d1 d2 l) (prB (valL 0 d1) (valL 0 d2) l) := by
  cases l with
  | nil => trivial
  | cons d r =>
    rw [grB_cons, prB_cons]
    by_cases hd : d = 125
    · rw [if_pos hd, if_pos hd]
      refine ⟨rfl, ?_⟩
      unfold bigM most
      rcases val_cmp d1 h1 with ⟨a1, a2, a3⟩ | ⟨a1, a2⟩ <;> rcases val_cmp d2 h2 with ⟨b1, b2, b3⟩ | ⟨b1, b2⟩
      · rw [if_neg (by simp; omega), if_neg (by omega)]; exact ⟨a1, b1⟩
      · rw [if_pos (by simp; omega), if_pos (by omega)]
      · rw [if_pos (by simp; omega), if_neg (by omega)]; exact a1
      · rw [if_pos (by simp; omega), if_pos (by omega)]
    · rw [if_neg hd, if_neg hd]; trivial

theorem cmp (l : List Int) : Same l (gr l) (pr l) := by
  have weak : ∀ (l l' : List Int) a b, Same l a b → Same l' a b := by
    intro l l' a b h
    rcases a with _ | ⟨_, _, _⟩ <;> rcases b with _ | ⟨_, _, _⟩ <;> exact h
  cases l with
  | nil => trivial
  | cons c l1 =>
    rw [gr_cons, pr_cons]
    by_cases hc : c = 123
    · rw [if_pos hc, if_pos hc]
      unfold gr1 pr1
      by_cases hok : okInt l1 = true
      · rw [if_pos hok, if_pos hok]
        have hd1 := okInt_dg l1 hok
        generalize digs l1 = d1 at *
        generalize l1.drop d1.length = l2
        cases l2 with
        | nil => trivial
        | cons d l3 =>
          rw [grA_cons, prA_cons]
          by_cases h44 : d = 44
          · rw [if_pos h44, if_pos h44]
            cases l3 with
            | nil => trivial
            | cons c3 r3 =>
              rw [gr2_cons, pr2_cons]
              by_cases h125 : c3 = 125
              · rw [if_pos h125, if_pos h125]
                refine ⟨rfl, ?_⟩
                unfold bigM most
                rcases val_cmp d1 hd1 with ⟨a1, a2, a3⟩ | ⟨a1, a2⟩
                · rw [if_neg (by simp; omega)]; exact ⟨a1, rfl⟩
                · rw [if_pos (by simp; omega)]; exact a1
              · rw [if_neg h125, if_neg h125]
                unfold gr3 pr3
                by_cases hok2 : okInt (c3 :: r3) = true
                · rw [if_pos hok2, if_pos hok2]
                  exact weak _ _ _ _ (cmpB d1 _ _ hd1 (okInt_dg _ hok2))
                · rw [if_neg hok2, if_neg hok2]; trivial
          · rw [if_neg h44, if_neg h44]
            by_cases h125 : d = 125
            · rw [if_pos h125, if_pos h125]
              refine ⟨rfl, ?_⟩
              unfold bigM most
              rcases val_cmp d1 hd1 with ⟨a1, a2, a3⟩ | ⟨a1, a2⟩
              · rw [if_neg (by simp; omega)]; exact ⟨a1, a1⟩
              · rw [if_pos (by simp; omega)]; exact a1
            · rw [if_neg h125, if_neg h125]; trivial
      · rw [if_neg hok, if_neg hok]; trivial
    · rw [if_neg hc, if_neg hc]; trivial

theorem nums_inj {a b : ByteArray} (h : nums a = nums b) : a = b := by rw [← str_nums a, ← str_nums b, h]

set_option maxRecDepth 100000 in
set_option maxHeartbeats 4000000 in
theorem law_calls (s : ByteArray) (hm : s.size ≤ 9223372036854775807) (w : World) :
    Calls Try.prog 7 #[.string s] w fun e w' => e = .returned (.bool true) ∧ Below w.heap.size w w' := by
  by_cases hs : s.size ≤ 1000
  · have HH := Lib.hid (fun w => here_calls s hs w)
    have HS := Lib.hid (fun w => sy_calls s hs w)
    have HO := Lib.hid (fun w => sy_calls ⟨#[123, 50, 125]⟩ (by decide) w)
    have HOK := Lib.hid (show (pr (nums ⟨#[123, 50, 125]⟩)).isSome = true from by decide +kernel)
    have HCM := Lib.hid (cmp (nums s))
    go_enter Try.func7, Try.ntmps7
    go_wp2_with fail
    refine (HH.out _).mono ?_
    rintro e w1 ⟨hb1, a, b, rest, big, ok, rfl, hn, hsm⟩
    have HB1 := Lib.hid hb1
    have HN := Lib.hid hn
    have HSM := Lib.hid hsm
    clear hb1 hn hsm
    go_wp2_with fail
    refine (HS.out _).mono ?_
    rintro e w2 ⟨hb2, x, y, rest2, ok2, rfl, hp1, hp2⟩
    have HB2 := Lib.hid hb2
    have HP1 := Lib.hid hp1
    have HP2 := Lib.hid hp2
    clear hb2 hp1 hp2
    go_wp2_with fail
    refine (HO.out _).mono ?_
    rintro e w3 ⟨hb3, x3, y3, rest3, ok3, rfl, hq1, hq2⟩
    rw [HOK.out] at hq1
    subst hq1
    have HB : Hid (Below w.heap.size w w3) := (HB1.out.trans (HB2.out.mono HB1.out.size)).trans (hb3.mono (by have := HB1.out.size; have := HB2.out.size; omega))
    clear hb3 hq2
    cases hg : gr (nums s) with
    | none =>
      have hp : pr (nums s) = none := by
        have := HCM.out
        rw [hg] at this
        cases h : pr (nums s) with
        | none => rfl
        | some z => rw [h] at this; exact this.elim
      obtain rfl : ok = false := HN.out hg
      obtain rfl : ok2 = false := by have := HP1.out; rw [hp] at this; exact this
      clear hg hp
      go_wp2_with fail
      go_ret
      exact ⟨rfl, HB.out⟩
    | some z =>
      obtain ⟨d1, k, r⟩ := z
      obtain ⟨rfl, ha, hb, hr, hbig⟩ := HSM.out d1 k r hg
      have hcm := HCM.out
      rw [hg] at hcm
      cases hp : pr (nums s) with
      | none => rw [hp] at hcm; exact hcm.elim
      | some z =>
        obtain ⟨x', y', r'⟩ := z
        rw [hp] at hcm
        obtain ⟨rfl, hcm⟩ := hcm
        obtain ⟨hx, hy, hr2⟩ := HP2.out _ _ _ hp
        obtain rfl : ok2 = true := by have := HP1.out; rw [hp] at this; exact this
        obtain rfl : rest2 = rest := nums_inj (hr2.trans hr.symm)
        have hbb : big = bigM d1 k := by rw [hbig, ha, hb]; rfl
        rw [← hbb, ← hx, ← hy, ← ha, ← hb] at hcm
        clear hg hp hr hr2 hx hy ha hb hbig hbb HSM HN HP1 HP2 HCM HH HS HO HOK
        cases big
        · have h1 : x = a ∧ y = b := by simpa using hcm
          obtain ⟨rfl, rfl⟩ := h1
          clear hcm
          go_wp2_with fail
          go_ret
          exact ⟨ret_bool (by simp), HB.out⟩
        · have h1 : x = -1 := by simpa using hcm
          subst h1
          clear hcm
          go_wp2_with fail
          go_ret
          exact ⟨ret_bool (by simp), HB.out⟩
  · by_cases h2 : s.size ≤ 2147483647
    · have g : decide ((s.size : Int) > 1000) = true := by simp; omega
      go_enter Try.func7, Try.ntmps7
      go_wp2_with fail
      all_goals first
        | (exfalso; omega)
        | (go_ret; exact ⟨rfl, Below.refl _ _⟩)
    · have g : decide ((s.size : Int) > 2147483647) = true := by simp; omega
      go_enter Try.func7, Try.ntmps7
      go_wp2_with fail
      go_ret
      exact ⟨rfl, Below.refl _ _⟩

end Go.Proofs.Ytaogbmljadaplaa.Rp
