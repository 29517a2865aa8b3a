/- Machine-made: walks of functions of the program, out of the print's own lines. -/
import Derived.Test.YtofkpinikkfmeaaDoorPFnMtLeasty0
namespace Go.Proofs.YtofkpinikkfmeaaDoor.PFnMtLeast
open Go.RowKit Go.Proofs.YtofkpinikkfmeaaDoorW.PrintWords Go.Proofs.YtofkpinikkfmeaaDoorW.PrintLast Go.Proofs.YtofkpinikkfmeaaDoorW.PrintMore
attribute [local go_sem] max2_int min2_int max_two min_two max_three min_three max_four min_four   -- for this text's walks alone
set_option linter.unusedVariables false
set_option linter.unusedSimpArgs false

/-! ### spec_reGrows: function 35 -/
def spec_reGrows.l0 : Nat → List Bool → List Bool → Int → Int → Option (Bool)
  | 0, _, _, _, _ => none
  | k + 1, x0, x1, x7, x8 => if x8 < x7 then (if 0 ≤ x8 then (if x8 < (x1.length : Int) then (if rdOf false x1 x8 = true then (if x8 < (x0.length : Int) then (if rdOf false x0 x8 = true then (spec_reGrows.l0 k x0 x1 x7 (wrap64 (x8 + 1))) else (some true)) else (none)) else (spec_reGrows.l0 k x0 x1 x7 (wrap64 (x8 + 1)))) else (none)) else (none)) else (some false)
def spec_reGrows.f (k : Nat) (l0 : List Bool) (l1 : List Bool) : Option (Bool) := spec_reGrows.l0 k l0 l1 (l0.length : Int) 0
theorem spec_reGrows.mono_l : ∀ k, (∀ y0 y1 y2 y3, LeO (spec_reGrows.l0 k y0 y1 y2 y3) (spec_reGrows.l0 (k + 1) y0 y1 y2 y3))
  | 0 => fun _ _ _ _ r h => by simp [spec_reGrows.l0] at h
  | k + 1 => by
    have ih0 := spec_reGrows.mono_l k
    · intro y0 y1 y2 y3
      unfold spec_reGrows.l0
      repeat' first
      | (with_reducible exact ih0 _ _ _ _)
      | (with_reducible exact LeO.refl _)
      | (with_reducible exact LeO.none _)
      | (with_reducible refine LeO.ite ?_ ?_)
      | (with_reducible refine LeO.bind ?_ (fun _ => ?_))
      | exact ih0 _ _ _ _
      | exact LeO.none _
      | refine LeO.ite ?_ ?_
      | refine LeO.bind ?_ (fun _ => ?_)
theorem spec_reGrows.mono : ∀ a0 a1 k, LeO (spec_reGrows.f k a0 a1) (spec_reGrows.f (k + 1) a0 a1) := by
  intro a0 a1 k
  have ih0 := spec_reGrows.mono_l k
  unfold spec_reGrows.f
  repeat' first
      | (with_reducible exact ih0 _ _ _ _)
      | (with_reducible exact LeO.refl _)
      | (with_reducible exact LeO.none _)
      | (with_reducible refine LeO.ite ?_ ?_)
      | (with_reducible refine LeO.bind ?_ (fun _ => ?_))
      | exact ih0 _ _ _ _
      | exact LeO.none _
      | refine LeO.ite ?_ ?_
      | refine LeO.bind ?_ (fun _ => ?_)
set_option maxHeartbeats 8000000 in
set_option maxRecDepth 100000 in
theorem spec_reGrows.calls (k : Nat) (A0 : Option Addr) (c0 : Nat) (l0 : List Bool) (A1 : Option Addr) (c1 : Nat) (l1 : List Bool) (r : Bool) (w : World) (hr0 : Kd.C Kd.bool w A0 l0.length l0) (hc0 : l0.length ≤ c0) (hr1 : Kd.C Kd.bool w A1 l1.length l1) (hc1 : l1.length ≤ c1) (h : spec_reGrows.f k l0 l1 = some r) :
    Calls Tryd.prog 35 #[.slice A0 l0.length c0, .slice A1 l1.length c1] w fun e w' => e = .returned (.bool r) ∧ Drawn0 w w' := by
  have HR0 := Aside0.mk hr0
  have HC0 := Aside0.mk hc0
  clear hr0 hc0
  have HR1 := Aside0.mk hr1
  have HC1 := Aside0.mk hc1
  clear hr1 hc1
  have H : (spec_reGrows.l0 k l0 l1 (l0.length : Int) 0) = some r := h
  clear h
  have H' := Aside0.mk H
  clear H
  go_enter Tryd.func35, Tryd.ntmps35
  go_wp2
  go_loopg [8] k (fun kq v8 w' => ∃ (x8_1 : Int), v8 = .int .i64 x8_1 ∧ Aside0 (spec_reGrows.l0 kq l0 l1 (l0.length : Int) x8_1 = some r) ∧ Aside0 (kq ≤ k) ∧ Drawn0 w w')
  case atStart => exact ⟨(0), (by first | rfl | (simp; done) | (simp [*]; done)), H', ⟨Nat.le_refl _⟩, by repeat (first | exact Drawn0.refl _ | apply Drawn0.step)⟩
  case round =>
    clear H'
    try clear c1
    try clear p2
    obtain ⟨x8_1, rfl, HA, HK1, ⟨m1, rfl⟩⟩ := hrel
    cases gk with
    | zero => exact absurd HA.out (by simp [spec_reGrows.l0])
    | succ k1 =>
      have H := HA.out
      clear HA
      simp only [spec_reGrows.l0] at H
      by_cases c3 : x8_1 < (l0.length : Int)
      · rw [if_pos c3] at H
        have c3b0 : decide (x8_1 < (l0.length : Int)) = true := decide_eq_true c3
        clear c3
        by_cases c4 : 0 ≤ x8_1
        · rw [if_pos c4] at H
          have c4b0 : decide (0 ≤ x8_1) = true := decide_eq_true c4
          clear c4
          by_cases c5 : x8_1 < (l1.length : Int)
          · rw [if_pos c5] at H
            have c5b0 : decide (x8_1 < (l1.length : Int)) = true := decide_eq_true c5
            clear c5
            obtain ⟨bq6, hbq6⟩ : ∃ b_ : Bool, b_ = (rdOf false l1 x8_1) := ⟨_, rfl⟩
            replace H : (if bq6 = true then (if x8_1 < (l0.length : Int) then (if rdOf false l0 x8_1 = true then (spec_reGrows.l0 k1 l0 l1 (l0.length : Int) (wrap64 (x8_1 + 1))) else (some true)) else (none)) else (spec_reGrows.l0 k1 l0 l1 (l0.length : Int) (wrap64 (x8_1 + 1)))) = some r := by rw [← hbq6] at H; exact H
            have Nbq6 := Aside0.mk hbq6
            clear hbq6
            by_cases c7 : bq6 = true
            · subst c7
              have H1 : (if x8_1 < (l0.length : Int) then (if rdOf false l0 x8_1 = true then (spec_reGrows.l0 k1 l0 l1 (l0.length : Int) (wrap64 (x8_1 + 1))) else (some true)) else (none)) = some r := by rw [if_pos rfl] at H; exact H
              clear H
              have H := H1
              clear H1
              by_cases c8 : x8_1 < (l0.length : Int)
              · rw [if_pos c8] at H
                have c8b0 : decide (x8_1 < (l0.length : Int)) = true := decide_eq_true c8
                clear c8
                obtain ⟨bq9, hbq9⟩ : ∃ b_ : Bool, b_ = (rdOf false l0 x8_1) := ⟨_, rfl⟩
                replace H : (if bq9 = true then (spec_reGrows.l0 k1 l0 l1 (l0.length : Int) (wrap64 (x8_1 + 1))) else (some true)) = some r := by rw [← hbq9] at H; exact H
                have Nbq9 := Aside0.mk hbq9
                clear hbq9
                by_cases c10 : bq9 = true
                · subst c10
                  have H1 : (spec_reGrows.l0 k1 l0 l1 (l0.length : Int) (wrap64 (x8_1 + 1))) = some r := by rw [if_pos rfl] at H; exact H
                  clear H
                  have H := H1
                  clear H1
                  have H' := Aside0.mk H
                  clear H
                  have p166 : 0 ≤ (x8_1 : Int) := of_decide_eq_true (by first | (with_reducible assumption) | assumption)
                  have q166 : x8_1 < (l1.length : Int) := of_decide_eq_true (by first | (with_reducible assumption) | assumption)
                  obtain ⟨ad166, e166, hx166_0⟩ := Kd.at_bool HR1.out x8_1 p166 q166
                  (try rw [← Nbq6.out] at hx166_0)
                  (try rw [← Nbq9.out] at hx166_0)
                  cases e166
                  replace p166 := eq_true p166
                  replace q166 := eq_true q166
                  have p167 : 0 ≤ (x8_1 : Int) := of_decide_eq_true (by first | (with_reducible assumption) | assumption)
                  have q167 : x8_1 < (l0.length : Int) := of_decide_eq_true (by first | (with_reducible assumption) | assumption)
                  obtain ⟨ad167, e167, hx167_0⟩ := Kd.at_bool HR0.out x8_1 p167 q167
                  (try rw [← Nbq6.out] at hx167_0)
                  (try rw [← Nbq9.out] at hx167_0)
                  cases e167
                  replace p167 := eq_true p167
                  replace q167 := eq_true q167
                  go_wp2
                  go_roundg k1
                  case measure => have := HK1.out; omega
                  case rel => exact ⟨(wrap64 (x8_1 + 1)), (by first | rfl | (simp; done) | (simp [*]; done)), H', ⟨by have := HK1.out; omega⟩, by repeat (first | exact Drawn0.refl _ | apply Drawn0.step)⟩
                · replace c10 := Bool.eq_false_iff.mpr c10
                  subst c10
                  have H1 : (some true) = some r := by rw [if_neg (show ¬ (false = true) by decide)] at H; exact H
                  clear H
                  have H := H1
                  clear H1
                  obtain rfl := Option.some.inj H
                  have p166 : 0 ≤ (x8_1 : Int) := of_decide_eq_true (by first | (with_reducible assumption) | assumption)
                  have q166 : x8_1 < (l1.length : Int) := of_decide_eq_true (by first | (with_reducible assumption) | assumption)
                  obtain ⟨ad166, e166, hx166_0⟩ := Kd.at_bool HR1.out x8_1 p166 q166
                  (try rw [← Nbq6.out] at hx166_0)
                  (try rw [← Nbq9.out] at hx166_0)
                  cases e166
                  replace p166 := eq_true p166
                  replace q166 := eq_true q166
                  have p167 : 0 ≤ (x8_1 : Int) := of_decide_eq_true (by first | (with_reducible assumption) | assumption)
                  have q167 : x8_1 < (l0.length : Int) := of_decide_eq_true (by first | (with_reducible assumption) | assumption)
                  obtain ⟨ad167, e167, hx167_0⟩ := Kd.at_bool HR0.out x8_1 p167 q167
                  (try rw [← Nbq6.out] at hx167_0)
                  (try rw [← Nbq9.out] at hx167_0)
                  cases e167
                  replace p167 := eq_true p167
                  replace q167 := eq_true q167
                  go_wp2
                  go_ret
                  exact ⟨by first | rfl | (simp; done) | (simp [*]; done), by repeat (first | exact Drawn0.refl _ | apply Drawn0.step)⟩
              · rw [if_neg c8] at H
                exact absurd H (by simp)
            · replace c7 := Bool.eq_false_iff.mpr c7
              subst c7
              have H1 : (spec_reGrows.l0 k1 l0 l1 (l0.length : Int) (wrap64 (x8_1 + 1))) = some r := by rw [if_neg (show ¬ (false = true) by decide)] at H; exact H
              clear H
              have H := H1
              clear H1
              have H' := Aside0.mk H
              clear H
              have p166 : 0 ≤ (x8_1 : Int) := of_decide_eq_true (by first | (with_reducible assumption) | assumption)
              have q166 : x8_1 < (l1.length : Int) := of_decide_eq_true (by first | (with_reducible assumption) | assumption)
              obtain ⟨ad166, e166, hx166_0⟩ := Kd.at_bool HR1.out x8_1 p166 q166
              (try rw [← Nbq6.out] at hx166_0)
              cases e166
              replace p166 := eq_true p166
              replace q166 := eq_true q166
              go_wp2
              go_roundg k1
              case measure => have := HK1.out; omega
              case rel => exact ⟨(wrap64 (x8_1 + 1)), (by first | rfl | (simp; done) | (simp [*]; done)), H', ⟨by have := HK1.out; omega⟩, by repeat (first | exact Drawn0.refl _ | apply Drawn0.step)⟩
          · rw [if_neg c5] at H
            exact absurd H (by simp)
        · rw [if_neg c4] at H
          exact absurd H (by simp)
      · rw [if_neg c3] at H
        have c3b0 : decide (x8_1 < (l0.length : Int)) = false := decide_eq_false c3
        clear c3
        obtain rfl := Option.some.inj H
        go_wp2
        go_ret
        exact ⟨by first | rfl | (simp; done) | (simp [*]; done), by repeat (first | exact Drawn0.refl _ | apply Drawn0.step)⟩

-- NOT PRINTED: function 55 (spec_reFolds)

-- NOT PRINTED: function 51 (spec_reOne)

-- NOT PRINTED: function 47 (spec_reSpells)

/-! ### spec_reInClass: function 52 -/
def spec_reInClass.l0 : Nat → List Int → Int → Int → Option (Bool)
  | 0, _, _, _ => none
  | k + 1, x0, x1, x5 => if (wrap64 (x5 + 1)) < (x0.length : Int) then (if 0 ≤ x5 then (if x5 < (x0.length : Int) then (if (rd x0 x5) ≤ x1 then (if 0 ≤ (wrap64 (x5 + 1)) then (if x1 ≤ (rd x0 (wrap64 (x5 + 1))) then (some true) else (spec_reInClass.l0 k x0 x1 (wrap64 (x5 + 2)))) else (none)) else (spec_reInClass.l0 k x0 x1 (wrap64 (x5 + 2)))) else (none)) else (none)) else (some false)
def spec_reInClass.f (k : Nat) (l0 : List Int) (a1 : Int) : Option (Bool) := spec_reInClass.l0 k l0 a1 0
theorem spec_reInClass.mono_l : ∀ k, (∀ y0 y1 y2, LeO (spec_reInClass.l0 k y0 y1 y2) (spec_reInClass.l0 (k + 1) y0 y1 y2))
  | 0 => fun _ _ _ r h => by simp [spec_reInClass.l0] at h
  | k + 1 => by
    have ih0 := spec_reInClass.mono_l k
    · intro y0 y1 y2
      unfold spec_reInClass.l0
      repeat' first
      | (with_reducible exact ih0 _ _ _)
      | (with_reducible exact LeO.refl _)
      | (with_reducible exact LeO.none _)
      | (with_reducible refine LeO.ite ?_ ?_)
      | (with_reducible refine LeO.bind ?_ (fun _ => ?_))
      | exact ih0 _ _ _
      | exact LeO.none _
      | refine LeO.ite ?_ ?_
      | refine LeO.bind ?_ (fun _ => ?_)
theorem spec_reInClass.mono : ∀ a0 a1 k, LeO (spec_reInClass.f k a0 a1) (spec_reInClass.f (k + 1) a0 a1) := by
  intro a0 a1 k
  have ih0 := spec_reInClass.mono_l k
  unfold spec_reInClass.f
  repeat' first
      | (with_reducible exact ih0 _ _ _)
      | (with_reducible exact LeO.refl _)
      | (with_reducible exact LeO.none _)
      | (with_reducible refine LeO.ite ?_ ?_)
      | (with_reducible refine LeO.bind ?_ (fun _ => ?_))
      | exact ih0 _ _ _
      | exact LeO.none _
      | refine LeO.ite ?_ ?_
      | refine LeO.bind ?_ (fun _ => ?_)
set_option maxHeartbeats 8000000 in
set_option maxRecDepth 100000 in
theorem spec_reInClass.calls (k : Nat) (A0 : Option Addr) (c0 : Nat) (l0 : List Int) (a1 : Int) (r : Bool) (w : World) (hr0 : Kd.C (Kd.int .i32) w A0 l0.length l0) (hc0 : l0.length ≤ c0) (h : spec_reInClass.f k l0 a1 = some r) :
    Calls Tryd.prog 52 #[.slice A0 l0.length c0, .int .i32 a1] w fun e w' => e = .returned (.bool r) ∧ Drawn0 w w' := by
  have HR0 := Aside0.mk hr0
  have HC0 := Aside0.mk hc0
  clear hr0 hc0
  have H : (spec_reInClass.l0 k l0 a1 0) = some r := h
  clear h
  have H' := Aside0.mk H
  clear H
  go_enter Tryd.func52, Tryd.ntmps52
  go_wp2
  go_loopg [5] k (fun kq v5 w' => ∃ (x5_1 : Int), v5 = .int .i64 x5_1 ∧ Aside0 (spec_reInClass.l0 kq l0 a1 x5_1 = some r) ∧ Aside0 (kq ≤ k) ∧ Drawn0 w w')
  case atStart => exact ⟨(0), (by first | rfl | (simp; done) | (simp [*]; done)), H', ⟨Nat.le_refl _⟩, by repeat (first | exact Drawn0.refl _ | apply Drawn0.step)⟩
  case round =>
    clear H'
    try clear p2
    obtain ⟨x5_1, rfl, HA, HK1, ⟨m1, rfl⟩⟩ := hrel
    cases gk with
    | zero => exact absurd HA.out (by simp [spec_reInClass.l0])
    | succ k1 =>
      have H := HA.out
      clear HA
      simp only [spec_reInClass.l0] at H
      by_cases c3 : (wrap64 (x5_1 + 1)) < (l0.length : Int)
      · rw [if_pos c3] at H
        have c3b0 : decide ((wrap64 (x5_1 + 1)) < (l0.length : Int)) = true := decide_eq_true c3
        clear c3
        by_cases c4 : 0 ≤ x5_1
        · rw [if_pos c4] at H
          have c4b0 : decide (0 ≤ x5_1) = true := decide_eq_true c4
          clear c4
          by_cases c5 : x5_1 < (l0.length : Int)
          · rw [if_pos c5] at H
            have c5b0 : decide (x5_1 < (l0.length : Int)) = true := decide_eq_true c5
            clear c5
            by_cases c6 : (rd l0 x5_1) ≤ a1
            · rw [if_pos c6] at H
              have c6b0 : decide ((rd l0 x5_1) ≤ a1) = true := decide_eq_true c6
              clear c6
              obtain ⟨ji7, hji7⟩ : ∃ j_ : Int, (wrap64 (x5_1 + 1)) = j_ := ⟨_, rfl⟩
              replace H : (if 0 ≤ (ji7) then (if a1 ≤ (rd l0 (ji7)) then (some true) else (spec_reInClass.l0 k1 l0 a1 (wrap64 (x5_1 + 2)))) else (none)) = some r := by first | (rw [hji7] at H; exact H) | (simp only [hji7] at H ⊢; exact H)
              (try rw [hji7] at c3b0)
              have hji7w : (IntKind.i64.wrap (x5_1 + 1)) = ji7 := (i64_w _).trans hji7
              by_cases c8 : 0 ≤ (ji7)
              · rw [if_pos c8] at H
                have c8b0 : decide (0 ≤ (ji7)) = true := decide_eq_true c8
                clear c8
                by_cases c9 : a1 ≤ (rd l0 (ji7))
                · rw [if_pos c9] at H
                  have c9b0 : decide (a1 ≤ (rd l0 (ji7))) = true := decide_eq_true c9
                  clear c9
                  obtain rfl := Option.some.inj H
                  have p171 : 0 ≤ (x5_1 : Int) := of_decide_eq_true (by first | (with_reducible assumption) | assumption)
                  have q171 : x5_1 < (l0.length : Int) := of_decide_eq_true (by first | (with_reducible assumption) | assumption)
                  obtain ⟨ad171, e171, hx171_0⟩ := Kd.at_int HR0.out x5_1 p171 q171
                  cases e171
                  replace p171 := eq_true p171
                  replace q171 := eq_true q171
                  have p172 : 0 ≤ ((ji7) : Int) := of_decide_eq_true (by first | (with_reducible assumption) | assumption)
                  have q172 : (ji7) < (l0.length : Int) := of_decide_eq_true (by first | (with_reducible assumption) | assumption)
                  obtain ⟨ad172, e172, hx172_0⟩ := Kd.at_int HR0.out (ji7) p172 q172
                  obtain rfl : ad171 = ad172 := (by injection e172)
                  replace p172 := eq_true p172
                  replace q172 := eq_true q172
                  go_wp2
                  go_ret
                  exact ⟨by first | rfl | (simp; done) | (simp only [← hji7] <;> (first | rfl | simp)) | (simp [*]; done), by repeat (first | exact Drawn0.refl _ | apply Drawn0.step)⟩
                · rw [if_neg c9] at H
                  have c9b0 : decide (a1 ≤ (rd l0 (ji7))) = false := decide_eq_false c9
                  clear c9
                  have H' := Aside0.mk H
                  clear H
                  have p171 : 0 ≤ (x5_1 : Int) := of_decide_eq_true (by first | (with_reducible assumption) | assumption)
                  have q171 : x5_1 < (l0.length : Int) := of_decide_eq_true (by first | (with_reducible assumption) | assumption)
                  obtain ⟨ad171, e171, hx171_0⟩ := Kd.at_int HR0.out x5_1 p171 q171
                  cases e171
                  replace p171 := eq_true p171
                  replace q171 := eq_true q171
                  have p172 : 0 ≤ ((ji7) : Int) := of_decide_eq_true (by first | (with_reducible assumption) | assumption)
                  have q172 : (ji7) < (l0.length : Int) := of_decide_eq_true (by first | (with_reducible assumption) | assumption)
                  obtain ⟨ad172, e172, hx172_0⟩ := Kd.at_int HR0.out (ji7) p172 q172
                  obtain rfl : ad171 = ad172 := (by injection e172)
                  replace p172 := eq_true p172
                  replace q172 := eq_true q172
                  go_wp2
                  go_roundg k1
                  case measure => have := HK1.out; omega
                  case rel => exact ⟨(wrap64 (x5_1 + 2)), (by first | rfl | (simp; done) | (simp [*]; done)), H', ⟨by have := HK1.out; omega⟩, by repeat (first | exact Drawn0.refl _ | apply Drawn0.step)⟩
              · rw [if_neg c8] at H
                exact absurd H (by simp)
            · rw [if_neg c6] at H
              have c6b0 : decide ((rd l0 x5_1) ≤ a1) = false := decide_eq_false c6
              clear c6
              have H' := Aside0.mk H
              clear H
              have p171 : 0 ≤ (x5_1 : Int) := of_decide_eq_true (by first | (with_reducible assumption) | assumption)
              have q171 : x5_1 < (l0.length : Int) := of_decide_eq_true (by first | (with_reducible assumption) | assumption)
              obtain ⟨ad171, e171, hx171_0⟩ := Kd.at_int HR0.out x5_1 p171 q171
              cases e171
              replace p171 := eq_true p171
              replace q171 := eq_true q171
              go_wp2
              go_roundg k1
              case measure => have := HK1.out; omega
              case rel => exact ⟨(wrap64 (x5_1 + 2)), (by first | rfl | (simp; done) | (simp [*]; done)), H', ⟨by have := HK1.out; omega⟩, by repeat (first | exact Drawn0.refl _ | apply Drawn0.step)⟩
          · rw [if_neg c5] at H
            exact absurd H (by simp)
        · rw [if_neg c4] at H
          exact absurd H (by simp)
      · rw [if_neg c3] at H
        have c3b0 : decide ((wrap64 (x5_1 + 1)) < (l0.length : Int)) = false := decide_eq_false c3
        clear c3
        obtain rfl := Option.some.inj H
        go_wp2
        go_ret
        exact ⟨by first | rfl | (simp; done) | (simp [*]; done), by repeat (first | exact Drawn0.refl _ | apply Drawn0.step)⟩

-- NOT PRINTED: function 48 (spec_reTakes)

/-! ### spec_reWord: function 56 -/
def spec_reWord.f (a0 : Int) : Option (Bool) := if 97 ≤ a0 then (if a0 ≤ 122 then (some true) else (if 65 ≤ a0 then (if a0 ≤ 90 then (some true) else (if 48 ≤ a0 then (if a0 ≤ 57 then (some true) else (some (a0 == 95))) else (some (a0 == 95)))) else (if 48 ≤ a0 then (if a0 ≤ 57 then (some true) else (some (a0 == 95))) else (some (a0 == 95))))) else (if 65 ≤ a0 then (if a0 ≤ 90 then (some true) else (if 48 ≤ a0 then (if a0 ≤ 57 then (some true) else (some (a0 == 95))) else (some (a0 == 95)))) else (if 48 ≤ a0 then (if a0 ≤ 57 then (some true) else (some (a0 == 95))) else (some (a0 == 95))))
set_option maxHeartbeats 8000000 in
set_option maxRecDepth 100000 in
theorem spec_reWord.calls (a0 : Int) (r : Bool) (w : World) (h : spec_reWord.f a0 = some r) :
    Calls Tryd.prog 56 #[.int .i32 a0] w fun e w' => e = .returned (.bool r) ∧ Drawn0 w w' := by
  have H : (if 97 ≤ a0 then (if a0 ≤ 122 then (some true) else (if 65 ≤ a0 then (if a0 ≤ 90 then (some true) else (if 48 ≤ a0 then (if a0 ≤ 57 then (some true) else (some (a0 == 95))) else (some (a0 == 95)))) else (if 48 ≤ a0 then (if a0 ≤ 57 then (some true) else (some (a0 == 95))) else (some (a0 == 95))))) else (if 65 ≤ a0 then (if a0 ≤ 90 then (some true) else (if 48 ≤ a0 then (if a0 ≤ 57 then (some true) else (some (a0 == 95))) else (some (a0 == 95)))) else (if 48 ≤ a0 then (if a0 ≤ 57 then (some true) else (some (a0 == 95))) else (some (a0 == 95))))) = some r := h
  clear h
  by_cases c2 : 97 ≤ a0
  · rw [if_pos c2] at H
    have c2b0 : decide (97 ≤ a0) = true := decide_eq_true c2
    clear c2
    by_cases c3 : a0 ≤ 122
    · rw [if_pos c3] at H
      have c3b0 : decide (a0 ≤ 122) = true := decide_eq_true c3
      clear c3
      obtain rfl := Option.some.inj H
      go_enter Tryd.func56, Tryd.ntmps56
      go_wp2
      go_ret
      exact ⟨by first | rfl | (simp; done) | (simp [*]; done), by repeat (first | exact Drawn0.refl _ | apply Drawn0.step)⟩
    · rw [if_neg c3] at H
      have c3b0 : decide (a0 ≤ 122) = false := decide_eq_false c3
      clear c3
      by_cases c4 : 65 ≤ a0
      · rw [if_pos c4] at H
        have c4b0 : decide (65 ≤ a0) = true := decide_eq_true c4
        clear c4
        by_cases c5 : a0 ≤ 90
        · rw [if_pos c5] at H
          have c5b0 : decide (a0 ≤ 90) = true := decide_eq_true c5
          clear c5
          obtain rfl := Option.some.inj H
          go_enter Tryd.func56, Tryd.ntmps56
          go_wp2
          go_ret
          exact ⟨by first | rfl | (simp; done) | (simp [*]; done), by repeat (first | exact Drawn0.refl _ | apply Drawn0.step)⟩
        · rw [if_neg c5] at H
          have c5b0 : decide (a0 ≤ 90) = false := decide_eq_false c5
          clear c5
          by_cases c6 : 48 ≤ a0
          · rw [if_pos c6] at H
            have c6b0 : decide (48 ≤ a0) = true := decide_eq_true c6
            clear c6
            by_cases c7 : a0 ≤ 57
            · rw [if_pos c7] at H
              have c7b0 : decide (a0 ≤ 57) = true := decide_eq_true c7
              clear c7
              obtain rfl := Option.some.inj H
              go_enter Tryd.func56, Tryd.ntmps56
              go_wp2
              go_ret
              exact ⟨by first | rfl | (simp; done) | (simp [*]; done), by repeat (first | exact Drawn0.refl _ | apply Drawn0.step)⟩
            · rw [if_neg c7] at H
              have c7b0 : decide (a0 ≤ 57) = false := decide_eq_false c7
              clear c7
              obtain rfl := Option.some.inj H
              go_enter Tryd.func56, Tryd.ntmps56
              go_wp2
              go_ret
              exact ⟨by first | rfl | (simp; done) | (simp [*]; done), by repeat (first | exact Drawn0.refl _ | apply Drawn0.step)⟩
          · rw [if_neg c6] at H
            have c6b0 : decide (48 ≤ a0) = false := decide_eq_false c6
            clear c6
            obtain rfl := Option.some.inj H
            go_enter Tryd.func56, Tryd.ntmps56
            go_wp2
            go_ret
            exact ⟨by first | rfl | (simp; done) | (simp [*]; done), by repeat (first | exact Drawn0.refl _ | apply Drawn0.step)⟩
      · rw [if_neg c4] at H
        have c4b0 : decide (65 ≤ a0) = false := decide_eq_false c4
        clear c4
        by_cases c8 : 48 ≤ a0
        · rw [if_pos c8] at H
          have c8b0 : decide (48 ≤ a0) = true := decide_eq_true c8
          clear c8
          by_cases c9 : a0 ≤ 57
          · rw [if_pos c9] at H
            have c9b0 : decide (a0 ≤ 57) = true := decide_eq_true c9
            clear c9
            obtain rfl := Option.some.inj H
            go_enter Tryd.func56, Tryd.ntmps56
            go_wp2
            go_ret
            exact ⟨by first | rfl | (simp; done) | (simp [*]; done), by repeat (first | exact Drawn0.refl _ | apply Drawn0.step)⟩
          · rw [if_neg c9] at H
            have c9b0 : decide (a0 ≤ 57) = false := decide_eq_false c9
            clear c9
            obtain rfl := Option.some.inj H
            go_enter Tryd.func56, Tryd.ntmps56
            go_wp2
            go_ret
            exact ⟨by first | rfl | (simp; done) | (simp [*]; done), by repeat (first | exact Drawn0.refl _ | apply Drawn0.step)⟩
        · rw [if_neg c8] at H
          have c8b0 : decide (48 ≤ a0) = false := decide_eq_false c8
          clear c8
          obtain rfl := Option.some.inj H
          go_enter Tryd.func56, Tryd.ntmps56
          go_wp2
          go_ret
          exact ⟨by first | rfl | (simp; done) | (simp [*]; done), by repeat (first | exact Drawn0.refl _ | apply Drawn0.step)⟩
  · rw [if_neg c2] at H
    have c2b0 : decide (97 ≤ a0) = false := decide_eq_false c2
    clear c2
    by_cases c10 : 65 ≤ a0
    · rw [if_pos c10] at H
      have c10b0 : decide (65 ≤ a0) = true := decide_eq_true c10
      clear c10
      by_cases c11 : a0 ≤ 90
      · rw [if_pos c11] at H
        have c11b0 : decide (a0 ≤ 90) = true := decide_eq_true c11
        clear c11
        obtain rfl := Option.some.inj H
        go_enter Tryd.func56, Tryd.ntmps56
        go_wp2
        go_ret
        exact ⟨by first | rfl | (simp; done) | (simp [*]; done), by repeat (first | exact Drawn0.refl _ | apply Drawn0.step)⟩
      · rw [if_neg c11] at H
        have c11b0 : decide (a0 ≤ 90) = false := decide_eq_false c11
        clear c11
        by_cases c12 : 48 ≤ a0
        · rw [if_pos c12] at H
          have c12b0 : decide (48 ≤ a0) = true := decide_eq_true c12
          clear c12
          by_cases c13 : a0 ≤ 57
          · rw [if_pos c13] at H
            have c13b0 : decide (a0 ≤ 57) = true := decide_eq_true c13
            clear c13
            obtain rfl := Option.some.inj H
            go_enter Tryd.func56, Tryd.ntmps56
            go_wp2
            go_ret
            exact ⟨by first | rfl | (simp; done) | (simp [*]; done), by repeat (first | exact Drawn0.refl _ | apply Drawn0.step)⟩
          · rw [if_neg c13] at H
            have c13b0 : decide (a0 ≤ 57) = false := decide_eq_false c13
            clear c13
            obtain rfl := Option.some.inj H
            go_enter Tryd.func56, Tryd.ntmps56
            go_wp2
            go_ret
            exact ⟨by first | rfl | (simp; done) | (simp [*]; done), by repeat (first | exact Drawn0.refl _ | apply Drawn0.step)⟩
        · rw [if_neg c12] at H
          have c12b0 : decide (48 ≤ a0) = false := decide_eq_false c12
          clear c12
          obtain rfl := Option.some.inj H
          go_enter Tryd.func56, Tryd.ntmps56
          go_wp2
          go_ret
          exact ⟨by first | rfl | (simp; done) | (simp [*]; done), by repeat (first | exact Drawn0.refl _ | apply Drawn0.step)⟩
    · rw [if_neg c10] at H
      have c10b0 : decide (65 ≤ a0) = false := decide_eq_false c10
      clear c10
      by_cases c14 : 48 ≤ a0
      · rw [if_pos c14] at H
        have c14b0 : decide (48 ≤ a0) = true := decide_eq_true c14
        clear c14
        by_cases c15 : a0 ≤ 57
        · rw [if_pos c15] at H
          have c15b0 : decide (a0 ≤ 57) = true := decide_eq_true c15
          clear c15
          obtain rfl := Option.some.inj H
          go_enter Tryd.func56, Tryd.ntmps56
          go_wp2
          go_ret
          exact ⟨by first | rfl | (simp; done) | (simp [*]; done), by repeat (first | exact Drawn0.refl _ | apply Drawn0.step)⟩
        · rw [if_neg c15] at H
          have c15b0 : decide (a0 ≤ 57) = false := decide_eq_false c15
          clear c15
          obtain rfl := Option.some.inj H
          go_enter Tryd.func56, Tryd.ntmps56
          go_wp2
          go_ret
          exact ⟨by first | rfl | (simp; done) | (simp [*]; done), by repeat (first | exact Drawn0.refl _ | apply Drawn0.step)⟩
      · rw [if_neg c14] at H
        have c14b0 : decide (48 ≤ a0) = false := decide_eq_false c14
        clear c14
        obtain rfl := Option.some.inj H
        go_enter Tryd.func56, Tryd.ntmps56
        go_wp2
        go_ret
        exact ⟨by first | rfl | (simp; done) | (simp [*]; done), by repeat (first | exact Drawn0.refl _ | apply Drawn0.step)⟩

end Go.Proofs.YtofkpinikkfmeaaDoor.PFnMtLeast
