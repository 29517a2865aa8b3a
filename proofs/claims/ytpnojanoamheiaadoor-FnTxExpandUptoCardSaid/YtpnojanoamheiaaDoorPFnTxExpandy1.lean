/- Machine-made: walks of functions of the program, out of the print's own lines. -/
import Derived.Test.YtpnojanoamheiaaDoorPFnTxExpandy0
namespace Go.Proofs.YtpnojanoamheiaaDoor.PFnTxExpand
open Go.RowKit Go.Proofs.YtpnojanoamheiaaDoorW.PrintWords Go.Proofs.YtpnojanoamheiaaDoorW.PrintLast Go.Proofs.YtpnojanoamheiaaDoorW.PrintMore
attribute [local go_sem] max2_int min2_int max_two min_two max_three min_three max_four min_four   -- for this text's walks alone
set_option linter.unusedVariables false
set_option linter.unusedSimpArgs false

/-! ### laws_zzFits8: function 4 -/
def laws_zzFits8.l0 : Nat → List ByteArray → Int → Int → Option (Bool)
  | 0, _, _, _ => none
  | k + 1, x8, x9, x10 => if x10 < x9 then (if 0 ≤ x10 then (if x10 < (x8.length : Int) then (if ((rdOf ByteArray.empty x8 x10).size : Int) > 2147483647 then (some false) else (laws_zzFits8.l0 k x8 x9 (wrap64 (x10 + 1)))) else (none)) else (none)) else (some true)
def laws_zzFits8.f (k : Nat) (l0 : List ByteArray) : Option (Bool) := if (l0.length : Int) > 2147483647 then (some false) else (laws_zzFits8.l0 k l0 (l0.length : Int) 0)
theorem laws_zzFits8.mono_l : ∀ k, (∀ y0 y1 y2, LeO (laws_zzFits8.l0 k y0 y1 y2) (laws_zzFits8.l0 (k + 1) y0 y1 y2))
  | 0 => fun _ _ _ r h => by simp [laws_zzFits8.l0] at h
  | k + 1 => by
    have ih0 := laws_zzFits8.mono_l k
    · intro y0 y1 y2
      unfold laws_zzFits8.l0
      repeat' first
      | (with_reducible exact ih0 _ _ _)
      | (with_reducible exact LeO.refl _)
      | (with_reducible exact LeO.none _)
      | (with_reducible refine LeO.ite ?_ ?_)
      | (with_reducible refine LeO.bind ?_ (fun _ => ?_))
      | exact ih0 _ _ _
      | exact LeO.none _
      | refine LeO.ite ?_ ?_
      | refine LeO.bind ?_ (fun _ => ?_)
theorem laws_zzFits8.mono : ∀ a0 k, LeO (laws_zzFits8.f k a0) (laws_zzFits8.f (k + 1) a0) := by
  intro a0 k
  have ih0 := laws_zzFits8.mono_l k
  unfold laws_zzFits8.f
  repeat' first
      | (with_reducible exact ih0 _ _ _)
      | (with_reducible exact LeO.refl _)
      | (with_reducible exact LeO.none _)
      | (with_reducible refine LeO.ite ?_ ?_)
      | (with_reducible refine LeO.bind ?_ (fun _ => ?_))
      | exact ih0 _ _ _
      | exact LeO.none _
      | refine LeO.ite ?_ ?_
      | refine LeO.bind ?_ (fun _ => ?_)
set_option maxHeartbeats 8000000 in
set_option maxRecDepth 100000 in
theorem laws_zzFits8.calls (k : Nat) (A0 : Option Addr) (c0 : Nat) (l0 : List ByteArray) (r : Bool) (w : World) (hr0 : Kd.C Kd.string w A0 l0.length l0) (hc0 : l0.length ≤ c0) (h : laws_zzFits8.f k l0 = some r) :
    Calls Tryd.prog 4 #[.slice A0 l0.length c0] w fun e w' => e = .returned (.bool r) ∧ Drawn0 w w' := by
  have HR0 := Aside0.mk hr0
  have HC0 := Aside0.mk hc0
  clear hr0 hc0
  have H : (if (l0.length : Int) > 2147483647 then (some false) else (laws_zzFits8.l0 k l0 (l0.length : Int) 0)) = some r := h
  clear h
  by_cases c2 : (l0.length : Int) > 2147483647
  · rw [if_pos c2] at H
    have c2b0 : decide (2147483647 < (l0.length : Int)) = true := decide_eq_true c2
    have c2b1 : decide (2147483647 < l0.length) = true := decide_eq_true (by omega)
    clear c2
    obtain rfl := Option.some.inj H
    go_enter Tryd.func4, Tryd.ntmps4
    go_wp2
    go_ret
    exact ⟨by first | rfl | (simp; done) | (simp [*]; done), by repeat (first | exact Drawn0.refl _ | apply Drawn0.step)⟩
  · rw [if_neg c2] at H
    have c2b0 : decide (2147483647 < (l0.length : Int)) = false := decide_eq_false c2
    have c2b1 : decide (2147483647 < l0.length) = false := decide_eq_false (by omega)
    clear c2
    have H' := Aside0.mk H
    clear H
    go_enter Tryd.func4, Tryd.ntmps4
    go_wp2
    go_loopg [10] k (fun kq v10 w' => ∃ (x10_1 : Int), v10 = .int .i64 x10_1 ∧ Aside0 (laws_zzFits8.l0 kq l0 (l0.length : Int) x10_1 = some r) ∧ Aside0 (kq ≤ k) ∧ Drawn0 w w')
    case atStart => exact ⟨(0), (by first | rfl | (simp; done) | (simp [*]; done)), H', ⟨Nat.le_refl _⟩, by repeat (first | exact Drawn0.refl _ | apply Drawn0.step)⟩
    case round =>
      clear H'
      try clear c2
      try clear c2b0
      try clear c2b1
      try clear p2
      obtain ⟨x10_1, rfl, HA, HK1, ⟨m1, rfl⟩⟩ := hrel
      cases gk with
      | zero => exact absurd HA.out (by simp [laws_zzFits8.l0])
      | succ k1 =>
        have H := HA.out
        clear HA
        simp only [laws_zzFits8.l0] at H
        by_cases c3 : x10_1 < (l0.length : Int)
        · rw [if_pos c3] at H
          have c3b0 : decide (x10_1 < (l0.length : Int)) = true := decide_eq_true c3
          clear c3
          by_cases c4 : 0 ≤ x10_1
          · rw [if_pos c4] at H
            have c4b0 : decide (0 ≤ x10_1) = true := decide_eq_true c4
            clear c4
            by_cases c5 : x10_1 < (l0.length : Int)
            · rw [if_pos c5] at H
              have c5b0 : decide (x10_1 < (l0.length : Int)) = true := decide_eq_true c5
              clear c5
              by_cases c6 : ((rdOf ByteArray.empty l0 x10_1).size : Int) > 2147483647
              · rw [if_pos c6] at H
                have c6b0 : decide (2147483647 < ((rdOf ByteArray.empty l0 x10_1).size : Int)) = true := decide_eq_true c6
                have c6b1 : decide (2147483647 < (rdOf ByteArray.empty l0 x10_1).size) = true := decide_eq_true (by omega)
                clear c6
                obtain rfl := Option.some.inj H
                have p101 : 0 ≤ (x10_1 : Int) := of_decide_eq_true (by first | (with_reducible assumption) | assumption)
                have q101 : x10_1 < (l0.length : Int) := of_decide_eq_true (by first | (with_reducible assumption) | assumption)
                obtain ⟨ad101, e101, hx101_0⟩ := Kd.at_string HR0.out x10_1 p101 q101
                cases e101
                replace p101 := eq_true p101
                replace q101 := eq_true q101
                go_wp2
                go_ret
                exact ⟨by first | rfl | (simp; done) | (simp [*]; done), by repeat (first | exact Drawn0.refl _ | apply Drawn0.step)⟩
              · rw [if_neg c6] at H
                have c6b0 : decide (2147483647 < ((rdOf ByteArray.empty l0 x10_1).size : Int)) = false := decide_eq_false c6
                have c6b1 : decide (2147483647 < (rdOf ByteArray.empty l0 x10_1).size) = false := decide_eq_false (by omega)
                clear c6
                have H' := Aside0.mk H
                clear H
                have p101 : 0 ≤ (x10_1 : Int) := of_decide_eq_true (by first | (with_reducible assumption) | assumption)
                have q101 : x10_1 < (l0.length : Int) := of_decide_eq_true (by first | (with_reducible assumption) | assumption)
                obtain ⟨ad101, e101, hx101_0⟩ := Kd.at_string HR0.out x10_1 p101 q101
                cases e101
                replace p101 := eq_true p101
                replace q101 := eq_true q101
                go_wp2
                go_roundg k1
                case measure => have := HK1.out; omega
                case rel => exact ⟨(wrap64 (x10_1 + 1)), (by first | rfl | (simp; done) | (simp [*]; done)), H', ⟨by have := HK1.out; omega⟩, by repeat (first | exact Drawn0.refl _ | apply Drawn0.step)⟩
            · rw [if_neg c5] at H
              exact absurd H (by simp)
          · rw [if_neg c4] at H
            exact absurd H (by simp)
        · rw [if_neg c3] at H
          have c3b0 : decide (x10_1 < (l0.length : Int)) = false := decide_eq_false c3
          clear c3
          obtain rfl := Option.some.inj H
          go_wp2
          go_ret
          exact ⟨by first | rfl | (simp; done) | (simp [*]; done), by repeat (first | exact Drawn0.refl _ | apply Drawn0.step)⟩

/-! ### spec_TxPairs: function 5 -/
def spec_TxPairs.l0 : Nat → List Int → ByteArray → Int → Option (Bool)
  | 0, _, _, _ => none
  | k + 1, x0, x1, x5 => if (wrap64 (x5 + 1)) < (x0.length : Int) then (if 0 ≤ x5 then (if x5 < (x0.length : Int) then (if 0 ≤ (wrap64 (x5 + 1)) then (if (rd x0 x5) = (-1) then (if (rd x0 (wrap64 (x5 + 1))) = (-1) then (spec_TxPairs.l0 k x0 x1 (wrap64 (x5 + 2))) else (if (rd x0 x5) < 0 then (some false) else (if (rd x0 (wrap64 (x5 + 1))) < (rd x0 x5) then (some false) else (if (rd x0 (wrap64 (x5 + 1))) > (x1.size : Int) then (some false) else (spec_TxPairs.l0 k x0 x1 (wrap64 (x5 + 2))))))) else (if (rd x0 x5) < 0 then (some false) else (if (rd x0 (wrap64 (x5 + 1))) < (rd x0 x5) then (some false) else (if (rd x0 (wrap64 (x5 + 1))) > (x1.size : Int) then (some false) else (spec_TxPairs.l0 k x0 x1 (wrap64 (x5 + 2))))))) else (none)) else (none)) else (none)) else (if (x0.length : Int) ≥ 2 then (some (((x0.length : Int) % 2) == 0)) else (some false))
def spec_TxPairs.f (k : Nat) (l0 : List Int) (a1 : ByteArray) : Option (Bool) := spec_TxPairs.l0 k l0 a1 0
theorem spec_TxPairs.mono_l : ∀ k, (∀ y0 y1 y2, LeO (spec_TxPairs.l0 k y0 y1 y2) (spec_TxPairs.l0 (k + 1) y0 y1 y2))
  | 0 => fun _ _ _ r h => by simp [spec_TxPairs.l0] at h
  | k + 1 => by
    have ih0 := spec_TxPairs.mono_l k
    · intro y0 y1 y2
      unfold spec_TxPairs.l0
      repeat' first
      | (with_reducible exact ih0 _ _ _)
      | (with_reducible exact LeO.refl _)
      | (with_reducible exact LeO.none _)
      | (with_reducible refine LeO.ite ?_ ?_)
      | (with_reducible refine LeO.bind ?_ (fun _ => ?_))
      | exact ih0 _ _ _
      | exact LeO.none _
      | refine LeO.ite ?_ ?_
      | refine LeO.bind ?_ (fun _ => ?_)
theorem spec_TxPairs.mono : ∀ a0 a1 k, LeO (spec_TxPairs.f k a0 a1) (spec_TxPairs.f (k + 1) a0 a1) := by
  intro a0 a1 k
  have ih0 := spec_TxPairs.mono_l k
  unfold spec_TxPairs.f
  repeat' first
      | (with_reducible exact ih0 _ _ _)
      | (with_reducible exact LeO.refl _)
      | (with_reducible exact LeO.none _)
      | (with_reducible refine LeO.ite ?_ ?_)
      | (with_reducible refine LeO.bind ?_ (fun _ => ?_))
      | exact ih0 _ _ _
      | exact LeO.none _
      | refine LeO.ite ?_ ?_
      | refine LeO.bind ?_ (fun _ => ?_)
set_option maxHeartbeats 8000000 in
set_option maxRecDepth 100000 in
theorem spec_TxPairs.calls (k : Nat) (A0 : Option Addr) (c0 : Nat) (l0 : List Int) (a1 : ByteArray) (r : Bool) (w : World) (hr0 : Kd.C (Kd.int .i64) w A0 l0.length l0) (hc0 : l0.length ≤ c0) (h : spec_TxPairs.f k l0 a1 = some r) :
    Calls Tryd.prog 5 #[.slice A0 l0.length c0, .string a1] w fun e w' => e = .returned (.bool r) ∧ Drawn0 w w' := by
  have HR0 := Aside0.mk hr0
  have HC0 := Aside0.mk hc0
  clear hr0 hc0
  have H : (spec_TxPairs.l0 k l0 a1 0) = some r := h
  clear h
  have H' := Aside0.mk H
  clear H
  go_enter Tryd.func5, Tryd.ntmps5
  go_wp2
  repeat (go_quiet (fail); try go_wp2)
  go_loopg [5] k (fun kq v5 w' => ∃ (x5_1 : Int), v5 = .int .i64 x5_1 ∧ Aside0 (spec_TxPairs.l0 kq l0 a1 x5_1 = some r) ∧ Aside0 (kq ≤ k) ∧ Drawn0 w w')
  case atStart => exact ⟨(0), (by first | rfl | (simp; done) | (simp [*]; done)), H', ⟨Nat.le_refl _⟩, by repeat (first | exact Drawn0.refl _ | apply Drawn0.step)⟩
  case round =>
    clear H'
    try clear p2
    obtain ⟨x5_1, rfl, HA, HK1, ⟨m1, rfl⟩⟩ := hrel
    cases gk with
    | zero => exact absurd HA.out (by simp [spec_TxPairs.l0])
    | succ k1 =>
      have H := HA.out
      clear HA
      simp only [spec_TxPairs.l0] at H
      by_cases c3 : (wrap64 (x5_1 + 1)) < (l0.length : Int)
      · rw [if_pos c3] at H
        have c3b0 : decide ((wrap64 (x5_1 + 1)) < (l0.length : Int)) = true := decide_eq_true c3
        clear c3
        by_cases c4 : 0 ≤ x5_1
        · rw [if_pos c4] at H
          have c4b0 : decide (0 ≤ x5_1) = true := decide_eq_true c4
          clear c4
          by_cases c5 : x5_1 < (l0.length : Int)
          · rw [if_pos c5] at H
            have c5b0 : decide (x5_1 < (l0.length : Int)) = true := decide_eq_true c5
            clear c5
            obtain ⟨ji6, hji6⟩ : ∃ j_ : Int, (wrap64 (x5_1 + 1)) = j_ := ⟨_, rfl⟩
            replace H : (if 0 ≤ (ji6) then (if (rd l0 x5_1) = (-1) then (if (rd l0 (ji6)) = (-1) then (spec_TxPairs.l0 k1 l0 a1 (wrap64 (x5_1 + 2))) else (if (rd l0 x5_1) < 0 then (some false) else (if (rd l0 (ji6)) < (rd l0 x5_1) then (some false) else (if (rd l0 (ji6)) > (a1.size : Int) then (some false) else (spec_TxPairs.l0 k1 l0 a1 (wrap64 (x5_1 + 2))))))) else (if (rd l0 x5_1) < 0 then (some false) else (if (rd l0 (ji6)) < (rd l0 x5_1) then (some false) else (if (rd l0 (ji6)) > (a1.size : Int) then (some false) else (spec_TxPairs.l0 k1 l0 a1 (wrap64 (x5_1 + 2))))))) else (none)) = some r := by first | (rw [hji6] at H; exact H) | (simp only [hji6] at H ⊢; exact H)
            (try rw [hji6] at c3b0)
            have hji6w : (IntKind.i64.wrap (x5_1 + 1)) = ji6 := (i64_w _).trans hji6
            by_cases c7 : 0 ≤ (ji6)
            · rw [if_pos c7] at H
              have c7b0 : decide (0 ≤ (ji6)) = true := decide_eq_true c7
              clear c7
              by_cases c8 : (rd l0 x5_1) = (-1)
              · rw [if_pos c8] at H
                have c8b0 : ((rd l0 x5_1) == (-1)) = true := beq_iff_eq.mpr c8
                have c8b1 : ((rd l0 x5_1) != (-1)) = false := bne_eq_false_iff_eq.mpr c8
                clear c8
                by_cases c9 : (rd l0 (ji6)) = (-1)
                · rw [if_pos c9] at H
                  have c9b0 : ((rd l0 (ji6)) == (-1)) = true := beq_iff_eq.mpr c9
                  have c9b1 : ((rd l0 (ji6)) != (-1)) = false := bne_eq_false_iff_eq.mpr c9
                  clear c9
                  have H' := Aside0.mk H
                  clear H
                  have p102 : 0 ≤ (x5_1 : Int) := of_decide_eq_true (by first | (with_reducible assumption) | assumption)
                  have q102 : x5_1 < (l0.length : Int) := of_decide_eq_true (by first | (with_reducible assumption) | assumption)
                  obtain ⟨ad102, e102, hx102_0⟩ := Kd.at_int HR0.out x5_1 p102 q102
                  cases e102
                  replace p102 := eq_true p102
                  replace q102 := eq_true q102
                  have p103 : 0 ≤ ((ji6) : Int) := of_decide_eq_true (by first | (with_reducible assumption) | assumption)
                  have q103 : (ji6) < (l0.length : Int) := of_decide_eq_true (by first | (with_reducible assumption) | assumption)
                  obtain ⟨ad103, e103, hx103_0⟩ := Kd.at_int HR0.out (ji6) p103 q103
                  obtain rfl : ad102 = ad103 := (by injection e103)
                  replace p103 := eq_true p103
                  replace q103 := eq_true q103
                  go_wp2
                  repeat (go_quiet (fail); try go_wp2)
                  go_roundg k1
                  case measure => have := HK1.out; omega
                  case rel => exact ⟨(wrap64 (x5_1 + 2)), (by first | rfl | (simp; done) | (simp [*]; done)), H', ⟨by have := HK1.out; omega⟩, by repeat (first | exact Drawn0.refl _ | apply Drawn0.step)⟩
                · rw [if_neg c9] at H
                  have c9b0 : ((rd l0 (ji6)) == (-1)) = false := beq_eq_false_iff_ne.mpr c9
                  have c9b1 : ((rd l0 (ji6)) != (-1)) = true := bne_iff_ne.mpr c9
                  by_cases c10 : (rd l0 x5_1) < 0
                  · rw [if_pos c10] at H
                    have c10b0 : decide ((rd l0 x5_1) < 0) = true := decide_eq_true c10
                    clear c10
                    obtain rfl := Option.some.inj H
                    have p102 : 0 ≤ (x5_1 : Int) := of_decide_eq_true (by first | (with_reducible assumption) | assumption)
                    have q102 : x5_1 < (l0.length : Int) := of_decide_eq_true (by first | (with_reducible assumption) | assumption)
                    obtain ⟨ad102, e102, hx102_0⟩ := Kd.at_int HR0.out x5_1 p102 q102
                    cases e102
                    replace p102 := eq_true p102
                    replace q102 := eq_true q102
                    have p103 : 0 ≤ ((ji6) : Int) := of_decide_eq_true (by first | (with_reducible assumption) | assumption)
                    have q103 : (ji6) < (l0.length : Int) := of_decide_eq_true (by first | (with_reducible assumption) | assumption)
                    obtain ⟨ad103, e103, hx103_0⟩ := Kd.at_int HR0.out (ji6) p103 q103
                    obtain rfl : ad102 = ad103 := (by injection e103)
                    replace p103 := eq_true p103
                    replace q103 := eq_true q103
                    go_wp2
                    repeat (go_quiet (fail); try go_wp2)
                    go_ret
                    exact ⟨by first | rfl | (simp; done) | (simp only [← hji6] <;> (first | rfl | simp)) | (simp [*]; done), by repeat (first | exact Drawn0.refl _ | apply Drawn0.step)⟩
                  · rw [if_neg c10] at H
                    have c10b0 : decide ((rd l0 x5_1) < 0) = false := decide_eq_false c10
                    clear c10
                    by_cases c11 : (rd l0 (ji6)) < (rd l0 x5_1)
                    · rw [if_pos c11] at H
                      have c11b0 : decide ((rd l0 (ji6)) < (rd l0 x5_1)) = true := decide_eq_true c11
                      clear c11
                      obtain rfl := Option.some.inj H
                      have p102 : 0 ≤ (x5_1 : Int) := of_decide_eq_true (by first | (with_reducible assumption) | assumption)
                      have q102 : x5_1 < (l0.length : Int) := of_decide_eq_true (by first | (with_reducible assumption) | assumption)
                      obtain ⟨ad102, e102, hx102_0⟩ := Kd.at_int HR0.out x5_1 p102 q102
                      cases e102
                      replace p102 := eq_true p102
                      replace q102 := eq_true q102
                      have p103 : 0 ≤ ((ji6) : Int) := of_decide_eq_true (by first | (with_reducible assumption) | assumption)
                      have q103 : (ji6) < (l0.length : Int) := of_decide_eq_true (by first | (with_reducible assumption) | assumption)
                      obtain ⟨ad103, e103, hx103_0⟩ := Kd.at_int HR0.out (ji6) p103 q103
                      obtain rfl : ad102 = ad103 := (by injection e103)
                      replace p103 := eq_true p103
                      replace q103 := eq_true q103
                      go_wp2
                      repeat (go_quiet (fail); try go_wp2)
                      go_ret
                      exact ⟨by first | rfl | (simp; done) | (simp only [← hji6] <;> (first | rfl | simp)) | (simp [*]; done), by repeat (first | exact Drawn0.refl _ | apply Drawn0.step)⟩
                    · rw [if_neg c11] at H
                      have c11b0 : decide ((rd l0 (ji6)) < (rd l0 x5_1)) = false := decide_eq_false c11
                      clear c11
                      by_cases c12 : (rd l0 (ji6)) > (a1.size : Int)
                      · rw [if_pos c12] at H
                        have c12b0 : decide ((a1.size : Int) < (rd l0 (ji6))) = true := decide_eq_true c12
                        clear c12
                        obtain rfl := Option.some.inj H
                        have p102 : 0 ≤ (x5_1 : Int) := of_decide_eq_true (by first | (with_reducible assumption) | assumption)
                        have q102 : x5_1 < (l0.length : Int) := of_decide_eq_true (by first | (with_reducible assumption) | assumption)
                        obtain ⟨ad102, e102, hx102_0⟩ := Kd.at_int HR0.out x5_1 p102 q102
                        cases e102
                        replace p102 := eq_true p102
                        replace q102 := eq_true q102
                        have p103 : 0 ≤ ((ji6) : Int) := of_decide_eq_true (by first | (with_reducible assumption) | assumption)
                        have q103 : (ji6) < (l0.length : Int) := of_decide_eq_true (by first | (with_reducible assumption) | assumption)
                        obtain ⟨ad103, e103, hx103_0⟩ := Kd.at_int HR0.out (ji6) p103 q103
                        obtain rfl : ad102 = ad103 := (by injection e103)
                        replace p103 := eq_true p103
                        replace q103 := eq_true q103
                        go_wp2
                        repeat (go_quiet (fail); try go_wp2)
                        go_ret
                        exact ⟨by first | rfl | (simp; done) | (simp only [← hji6] <;> (first | rfl | simp)) | (simp [*]; done), by repeat (first | exact Drawn0.refl _ | apply Drawn0.step)⟩
                      · rw [if_neg c12] at H
                        have c12b0 : decide ((a1.size : Int) < (rd l0 (ji6))) = false := decide_eq_false c12
                        clear c12
                        have H' := Aside0.mk H
                        clear H
                        have p102 : 0 ≤ (x5_1 : Int) := of_decide_eq_true (by first | (with_reducible assumption) | assumption)
                        have q102 : x5_1 < (l0.length : Int) := of_decide_eq_true (by first | (with_reducible assumption) | assumption)
                        obtain ⟨ad102, e102, hx102_0⟩ := Kd.at_int HR0.out x5_1 p102 q102
                        cases e102
                        replace p102 := eq_true p102
                        replace q102 := eq_true q102
                        have p103 : 0 ≤ ((ji6) : Int) := of_decide_eq_true (by first | (with_reducible assumption) | assumption)
                        have q103 : (ji6) < (l0.length : Int) := of_decide_eq_true (by first | (with_reducible assumption) | assumption)
                        obtain ⟨ad103, e103, hx103_0⟩ := Kd.at_int HR0.out (ji6) p103 q103
                        obtain rfl : ad102 = ad103 := (by injection e103)
                        replace p103 := eq_true p103
                        replace q103 := eq_true q103
                        go_wp2
                        repeat (go_quiet (fail); try go_wp2)
                        go_roundg k1
                        case measure => have := HK1.out; omega
                        case rel => exact ⟨(wrap64 (x5_1 + 2)), (by first | rfl | (simp; done) | (simp [*]; done)), H', ⟨by have := HK1.out; omega⟩, by repeat (first | exact Drawn0.refl _ | apply Drawn0.step)⟩
              · rw [if_neg c8] at H
                have c8b0 : ((rd l0 x5_1) == (-1)) = false := beq_eq_false_iff_ne.mpr c8
                have c8b1 : ((rd l0 x5_1) != (-1)) = true := bne_iff_ne.mpr c8
                by_cases c13 : (rd l0 x5_1) < 0
                · rw [if_pos c13] at H
                  have c13b0 : decide ((rd l0 x5_1) < 0) = true := decide_eq_true c13
                  clear c13
                  obtain rfl := Option.some.inj H
                  have p102 : 0 ≤ (x5_1 : Int) := of_decide_eq_true (by first | (with_reducible assumption) | assumption)
                  have q102 : x5_1 < (l0.length : Int) := of_decide_eq_true (by first | (with_reducible assumption) | assumption)
                  obtain ⟨ad102, e102, hx102_0⟩ := Kd.at_int HR0.out x5_1 p102 q102
                  cases e102
                  replace p102 := eq_true p102
                  replace q102 := eq_true q102
                  have p103 : 0 ≤ ((ji6) : Int) := of_decide_eq_true (by first | (with_reducible assumption) | assumption)
                  have q103 : (ji6) < (l0.length : Int) := of_decide_eq_true (by first | (with_reducible assumption) | assumption)
                  obtain ⟨ad103, e103, hx103_0⟩ := Kd.at_int HR0.out (ji6) p103 q103
                  obtain rfl : ad102 = ad103 := (by injection e103)
                  replace p103 := eq_true p103
                  replace q103 := eq_true q103
                  go_wp2
                  repeat (go_quiet (fail); try go_wp2)
                  go_ret
                  exact ⟨by first | rfl | (simp; done) | (simp only [← hji6] <;> (first | rfl | simp)) | (simp [*]; done), by repeat (first | exact Drawn0.refl _ | apply Drawn0.step)⟩
                · rw [if_neg c13] at H
                  have c13b0 : decide ((rd l0 x5_1) < 0) = false := decide_eq_false c13
                  clear c13
                  by_cases c14 : (rd l0 (ji6)) < (rd l0 x5_1)
                  · rw [if_pos c14] at H
                    have c14b0 : decide ((rd l0 (ji6)) < (rd l0 x5_1)) = true := decide_eq_true c14
                    clear c14
                    obtain rfl := Option.some.inj H
                    have p102 : 0 ≤ (x5_1 : Int) := of_decide_eq_true (by first | (with_reducible assumption) | assumption)
                    have q102 : x5_1 < (l0.length : Int) := of_decide_eq_true (by first | (with_reducible assumption) | assumption)
                    obtain ⟨ad102, e102, hx102_0⟩ := Kd.at_int HR0.out x5_1 p102 q102
                    cases e102
                    replace p102 := eq_true p102
                    replace q102 := eq_true q102
                    have p103 : 0 ≤ ((ji6) : Int) := of_decide_eq_true (by first | (with_reducible assumption) | assumption)
                    have q103 : (ji6) < (l0.length : Int) := of_decide_eq_true (by first | (with_reducible assumption) | assumption)
                    obtain ⟨ad103, e103, hx103_0⟩ := Kd.at_int HR0.out (ji6) p103 q103
                    obtain rfl : ad102 = ad103 := (by injection e103)
                    replace p103 := eq_true p103
                    replace q103 := eq_true q103
                    go_wp2
                    repeat (go_quiet (fail); try go_wp2)
                    go_ret
                    exact ⟨by first | rfl | (simp; done) | (simp only [← hji6] <;> (first | rfl | simp)) | (simp [*]; done), by repeat (first | exact Drawn0.refl _ | apply Drawn0.step)⟩
                  · rw [if_neg c14] at H
                    have c14b0 : decide ((rd l0 (ji6)) < (rd l0 x5_1)) = false := decide_eq_false c14
                    clear c14
                    by_cases c15 : (rd l0 (ji6)) > (a1.size : Int)
                    · rw [if_pos c15] at H
                      have c15b0 : decide ((a1.size : Int) < (rd l0 (ji6))) = true := decide_eq_true c15
                      clear c15
                      obtain rfl := Option.some.inj H
                      have p102 : 0 ≤ (x5_1 : Int) := of_decide_eq_true (by first | (with_reducible assumption) | assumption)
                      have q102 : x5_1 < (l0.length : Int) := of_decide_eq_true (by first | (with_reducible assumption) | assumption)
                      obtain ⟨ad102, e102, hx102_0⟩ := Kd.at_int HR0.out x5_1 p102 q102
                      cases e102
                      replace p102 := eq_true p102
                      replace q102 := eq_true q102
                      have p103 : 0 ≤ ((ji6) : Int) := of_decide_eq_true (by first | (with_reducible assumption) | assumption)
                      have q103 : (ji6) < (l0.length : Int) := of_decide_eq_true (by first | (with_reducible assumption) | assumption)
                      obtain ⟨ad103, e103, hx103_0⟩ := Kd.at_int HR0.out (ji6) p103 q103
                      obtain rfl : ad102 = ad103 := (by injection e103)
                      replace p103 := eq_true p103
                      replace q103 := eq_true q103
                      go_wp2
                      repeat (go_quiet (fail); try go_wp2)
                      go_ret
                      exact ⟨by first | rfl | (simp; done) | (simp only [← hji6] <;> (first | rfl | simp)) | (simp [*]; done), by repeat (first | exact Drawn0.refl _ | apply Drawn0.step)⟩
                    · rw [if_neg c15] at H
                      have c15b0 : decide ((a1.size : Int) < (rd l0 (ji6))) = false := decide_eq_false c15
                      clear c15
                      have H' := Aside0.mk H
                      clear H
                      have p102 : 0 ≤ (x5_1 : Int) := of_decide_eq_true (by first | (with_reducible assumption) | assumption)
                      have q102 : x5_1 < (l0.length : Int) := of_decide_eq_true (by first | (with_reducible assumption) | assumption)
                      obtain ⟨ad102, e102, hx102_0⟩ := Kd.at_int HR0.out x5_1 p102 q102
                      cases e102
                      replace p102 := eq_true p102
                      replace q102 := eq_true q102
                      have p103 : 0 ≤ ((ji6) : Int) := of_decide_eq_true (by first | (with_reducible assumption) | assumption)
                      have q103 : (ji6) < (l0.length : Int) := of_decide_eq_true (by first | (with_reducible assumption) | assumption)
                      obtain ⟨ad103, e103, hx103_0⟩ := Kd.at_int HR0.out (ji6) p103 q103
                      obtain rfl : ad102 = ad103 := (by injection e103)
                      replace p103 := eq_true p103
                      replace q103 := eq_true q103
                      go_wp2
                      repeat (go_quiet (fail); try go_wp2)
                      go_roundg k1
                      case measure => have := HK1.out; omega
                      case rel => exact ⟨(wrap64 (x5_1 + 2)), (by first | rfl | (simp; done) | (simp [*]; done)), H', ⟨by have := HK1.out; omega⟩, by repeat (first | exact Drawn0.refl _ | apply Drawn0.step)⟩
            · rw [if_neg c7] at H
              exact absurd H (by simp)
          · rw [if_neg c5] at H
            exact absurd H (by simp)
        · rw [if_neg c4] at H
          exact absurd H (by simp)
      · rw [if_neg c3] at H
        have c3b0 : decide ((wrap64 (x5_1 + 1)) < (l0.length : Int)) = false := decide_eq_false c3
        clear c3
        by_cases c16 : (l0.length : Int) ≥ 2
        · rw [if_pos c16] at H
          have c16b0 : decide (2 ≤ (l0.length : Int)) = true := decide_eq_true c16
          have c16b1 : decide (2 ≤ l0.length) = true := decide_eq_true (by omega)
          clear c16
          obtain rfl := Option.some.inj H
          go_wp2
          repeat (go_quiet (fail); try go_wp2)
          go_ret
          exact ⟨by first | rfl | (simp; done) | (simp [*]; done), by repeat (first | exact Drawn0.refl _ | apply Drawn0.step)⟩
        · rw [if_neg c16] at H
          have c16b0 : decide (2 ≤ (l0.length : Int)) = false := decide_eq_false c16
          have c16b1 : decide (2 ≤ l0.length) = false := decide_eq_false (by omega)
          clear c16
          obtain rfl := Option.some.inj H
          go_wp2
          repeat (go_quiet (fail); try go_wp2)
          go_ret
          exact ⟨by first | rfl | (simp; done) | (simp [*]; done), by repeat (first | exact Drawn0.refl _ | apply Drawn0.step)⟩

/-! ### impl_placed: function 8 -/
def impl_placed.l0 : Nat → List Int → Int → Int → Option (Bool)
  | 0, _, _, _ => none
  | k + 1, x0, x1, x5 => if x5 < (x0.length : Int) then (if (wrap64 (x5 + 1)) = (x0.length : Int) then (some false) else (if 0 ≤ x5 then (if 0 ≤ (wrap64 (x5 + 1)) then (if (wrap64 (x5 + 1)) < (x0.length : Int) then (if (rd x0 x5) = (-1) then (if (rd x0 (wrap64 (x5 + 1))) = (-1) then (impl_placed.l0 k x0 x1 (wrap64 (x5 + 2))) else (if (rd x0 x5) < 0 then (some false) else (if (rd x0 (wrap64 (x5 + 1))) < (rd x0 x5) then (some false) else (if (rd x0 (wrap64 (x5 + 1))) > x1 then (some false) else (impl_placed.l0 k x0 x1 (wrap64 (x5 + 2))))))) else (if (rd x0 x5) < 0 then (some false) else (if (rd x0 (wrap64 (x5 + 1))) < (rd x0 x5) then (some false) else (if (rd x0 (wrap64 (x5 + 1))) > x1 then (some false) else (impl_placed.l0 k x0 x1 (wrap64 (x5 + 2))))))) else (none)) else (none)) else (none))) else (some true)
def impl_placed.f (k : Nat) (l0 : List Int) (a1 : Int) : Option (Bool) := impl_placed.l0 k l0 a1 0
theorem impl_placed.mono_l : ∀ k, (∀ y0 y1 y2, LeO (impl_placed.l0 k y0 y1 y2) (impl_placed.l0 (k + 1) y0 y1 y2))
  | 0 => fun _ _ _ r h => by simp [impl_placed.l0] at h
  | k + 1 => by
    have ih0 := impl_placed.mono_l k
    · intro y0 y1 y2
      unfold impl_placed.l0
      repeat' first
      | (with_reducible exact ih0 _ _ _)
      | (with_reducible exact LeO.refl _)
      | (with_reducible exact LeO.none _)
      | (with_reducible refine LeO.ite ?_ ?_)
      | (with_reducible refine LeO.bind ?_ (fun _ => ?_))
      | exact ih0 _ _ _
      | exact LeO.none _
      | refine LeO.ite ?_ ?_
      | refine LeO.bind ?_ (fun _ => ?_)
theorem impl_placed.mono : ∀ a0 a1 k, LeO (impl_placed.f k a0 a1) (impl_placed.f (k + 1) a0 a1) := by
  intro a0 a1 k
  have ih0 := impl_placed.mono_l k
  unfold impl_placed.f
  repeat' first
      | (with_reducible exact ih0 _ _ _)
      | (with_reducible exact LeO.refl _)
      | (with_reducible exact LeO.none _)
      | (with_reducible refine LeO.ite ?_ ?_)
      | (with_reducible refine LeO.bind ?_ (fun _ => ?_))
      | exact ih0 _ _ _
      | exact LeO.none _
      | refine LeO.ite ?_ ?_
      | refine LeO.bind ?_ (fun _ => ?_)
set_option maxHeartbeats 8000000 in
set_option maxRecDepth 100000 in
theorem impl_placed.calls (k : Nat) (A0 : Option Addr) (c0 : Nat) (l0 : List Int) (a1 : Int) (r : Bool) (w : World) (hr0 : Kd.C (Kd.int .i64) w A0 l0.length l0) (hc0 : l0.length ≤ c0) (h : impl_placed.f k l0 a1 = some r) :
    Calls Tryd.prog 8 #[.slice A0 l0.length c0, .int .i64 a1] w fun e w' => e = .returned (.bool r) ∧ Drawn0 w w' := by
  have HR0 := Aside0.mk hr0
  have HC0 := Aside0.mk hc0
  clear hr0 hc0
  have H : (impl_placed.l0 k l0 a1 0) = some r := h
  clear h
  have H' := Aside0.mk H
  clear H
  go_enter Tryd.func8, Tryd.ntmps8
  go_wp2
  repeat (go_quiet (fail); try go_wp2)
  go_loopg [5] k (fun kq v5 w' => ∃ (x5_1 : Int), v5 = .int .i64 x5_1 ∧ Aside0 (impl_placed.l0 kq l0 a1 x5_1 = some r) ∧ Aside0 (kq ≤ k) ∧ Drawn0 w w')
  case atStart => exact ⟨(0), (by first | rfl | (simp; done) | (simp [*]; done)), H', ⟨Nat.le_refl _⟩, by repeat (first | exact Drawn0.refl _ | apply Drawn0.step)⟩
  case round =>
    clear H'
    try clear p2
    obtain ⟨x5_1, rfl, HA, HK1, ⟨m1, rfl⟩⟩ := hrel
    cases gk with
    | zero => exact absurd HA.out (by simp [impl_placed.l0])
    | succ k1 =>
      have H := HA.out
      clear HA
      simp only [impl_placed.l0] at H
      by_cases c3 : x5_1 < (l0.length : Int)
      · rw [if_pos c3] at H
        have c3b0 : decide (x5_1 < (l0.length : Int)) = true := decide_eq_true c3
        clear c3
        by_cases c4 : (wrap64 (x5_1 + 1)) = (l0.length : Int)
        · rw [if_pos c4] at H
          have c4b0 : ((wrap64 (x5_1 + 1)) == (l0.length : Int)) = true := beq_iff_eq.mpr c4
          have c4b1 : ((wrap64 (x5_1 + 1)) != (l0.length : Int)) = false := bne_eq_false_iff_eq.mpr c4
          clear c4
          obtain rfl := Option.some.inj H
          go_wp2
          repeat (go_quiet (fail); try go_wp2)
          go_ret
          exact ⟨by first | rfl | (simp; done) | (simp [*]; done), by repeat (first | exact Drawn0.refl _ | apply Drawn0.step)⟩
        · rw [if_neg c4] at H
          have c4b0 : ((wrap64 (x5_1 + 1)) == (l0.length : Int)) = false := beq_eq_false_iff_ne.mpr c4
          have c4b1 : ((wrap64 (x5_1 + 1)) != (l0.length : Int)) = true := bne_iff_ne.mpr c4
          by_cases c5 : 0 ≤ x5_1
          · rw [if_pos c5] at H
            have c5b0 : decide (0 ≤ x5_1) = true := decide_eq_true c5
            clear c5
            obtain ⟨ji6, hji6⟩ : ∃ j_ : Int, (wrap64 (x5_1 + 1)) = j_ := ⟨_, rfl⟩
            replace H : (if 0 ≤ (ji6) then (if (ji6) < (l0.length : Int) then (if (rd l0 x5_1) = (-1) then (if (rd l0 (ji6)) = (-1) then (impl_placed.l0 k1 l0 a1 (wrap64 (x5_1 + 2))) else (if (rd l0 x5_1) < 0 then (some false) else (if (rd l0 (ji6)) < (rd l0 x5_1) then (some false) else (if (rd l0 (ji6)) > a1 then (some false) else (impl_placed.l0 k1 l0 a1 (wrap64 (x5_1 + 2))))))) else (if (rd l0 x5_1) < 0 then (some false) else (if (rd l0 (ji6)) < (rd l0 x5_1) then (some false) else (if (rd l0 (ji6)) > a1 then (some false) else (impl_placed.l0 k1 l0 a1 (wrap64 (x5_1 + 2))))))) else (none)) else (none)) = some r := by first | (rw [hji6] at H; exact H) | (simp only [hji6] at H ⊢; exact H)
            (try rw [hji6] at c4b0)
            (try rw [hji6] at c4b1)
            have hji6w : (IntKind.i64.wrap (x5_1 + 1)) = ji6 := (i64_w _).trans hji6
            by_cases c7 : 0 ≤ (ji6)
            · rw [if_pos c7] at H
              have c7b0 : decide (0 ≤ (ji6)) = true := decide_eq_true c7
              clear c7
              by_cases c8 : (ji6) < (l0.length : Int)
              · rw [if_pos c8] at H
                have c8b0 : decide ((ji6) < (l0.length : Int)) = true := decide_eq_true c8
                clear c8
                by_cases c9 : (rd l0 x5_1) = (-1)
                · rw [if_pos c9] at H
                  have c9b0 : ((rd l0 x5_1) == (-1)) = true := beq_iff_eq.mpr c9
                  have c9b1 : ((rd l0 x5_1) != (-1)) = false := bne_eq_false_iff_eq.mpr c9
                  clear c9
                  by_cases c10 : (rd l0 (ji6)) = (-1)
                  · rw [if_pos c10] at H
                    have c10b0 : ((rd l0 (ji6)) == (-1)) = true := beq_iff_eq.mpr c10
                    have c10b1 : ((rd l0 (ji6)) != (-1)) = false := bne_eq_false_iff_eq.mpr c10
                    clear c10
                    have H' := Aside0.mk H
                    clear H
                    have p104 : 0 ≤ (x5_1 : Int) := of_decide_eq_true (by first | (with_reducible assumption) | assumption)
                    have q104 : x5_1 < (l0.length : Int) := of_decide_eq_true (by first | (with_reducible assumption) | assumption)
                    obtain ⟨ad104, e104, hx104_0⟩ := Kd.at_int HR0.out x5_1 p104 q104
                    cases e104
                    replace p104 := eq_true p104
                    replace q104 := eq_true q104
                    have p105 : 0 ≤ ((ji6) : Int) := of_decide_eq_true (by first | (with_reducible assumption) | assumption)
                    have q105 : (ji6) < (l0.length : Int) := of_decide_eq_true (by first | (with_reducible assumption) | assumption)
                    obtain ⟨ad105, e105, hx105_0⟩ := Kd.at_int HR0.out (ji6) p105 q105
                    obtain rfl : ad104 = ad105 := (by injection e105)
                    replace p105 := eq_true p105
                    replace q105 := eq_true q105
                    go_wp2
                    repeat (go_quiet (fail); try go_wp2)
                    go_roundg k1
                    case measure => have := HK1.out; omega
                    case rel => exact ⟨(wrap64 (x5_1 + 2)), (by first | rfl | (simp; done) | (simp [*]; done)), H', ⟨by have := HK1.out; omega⟩, by repeat (first | exact Drawn0.refl _ | apply Drawn0.step)⟩
                  · rw [if_neg c10] at H
                    have c10b0 : ((rd l0 (ji6)) == (-1)) = false := beq_eq_false_iff_ne.mpr c10
                    have c10b1 : ((rd l0 (ji6)) != (-1)) = true := bne_iff_ne.mpr c10
                    by_cases c11 : (rd l0 x5_1) < 0
                    · rw [if_pos c11] at H
                      have c11b0 : decide ((rd l0 x5_1) < 0) = true := decide_eq_true c11
                      clear c11
                      obtain rfl := Option.some.inj H
                      have p104 : 0 ≤ (x5_1 : Int) := of_decide_eq_true (by first | (with_reducible assumption) | assumption)
                      have q104 : x5_1 < (l0.length : Int) := of_decide_eq_true (by first | (with_reducible assumption) | assumption)
                      obtain ⟨ad104, e104, hx104_0⟩ := Kd.at_int HR0.out x5_1 p104 q104
                      cases e104
                      replace p104 := eq_true p104
                      replace q104 := eq_true q104
                      have p105 : 0 ≤ ((ji6) : Int) := of_decide_eq_true (by first | (with_reducible assumption) | assumption)
                      have q105 : (ji6) < (l0.length : Int) := of_decide_eq_true (by first | (with_reducible assumption) | assumption)
                      obtain ⟨ad105, e105, hx105_0⟩ := Kd.at_int HR0.out (ji6) p105 q105
                      obtain rfl : ad104 = ad105 := (by injection e105)
                      replace p105 := eq_true p105
                      replace q105 := eq_true q105
                      go_wp2
                      repeat (go_quiet (fail); try go_wp2)
                      go_ret
                      exact ⟨by first | rfl | (simp; done) | (simp only [← hji6] <;> (first | rfl | simp)) | (simp [*]; done), by repeat (first | exact Drawn0.refl _ | apply Drawn0.step)⟩
                    · rw [if_neg c11] at H
                      have c11b0 : decide ((rd l0 x5_1) < 0) = false := decide_eq_false c11
                      clear c11
                      by_cases c12 : (rd l0 (ji6)) < (rd l0 x5_1)
                      · rw [if_pos c12] at H
                        have c12b0 : decide ((rd l0 (ji6)) < (rd l0 x5_1)) = true := decide_eq_true c12
                        clear c12
                        obtain rfl := Option.some.inj H
                        have p104 : 0 ≤ (x5_1 : Int) := of_decide_eq_true (by first | (with_reducible assumption) | assumption)
                        have q104 : x5_1 < (l0.length : Int) := of_decide_eq_true (by first | (with_reducible assumption) | assumption)
                        obtain ⟨ad104, e104, hx104_0⟩ := Kd.at_int HR0.out x5_1 p104 q104
                        cases e104
                        replace p104 := eq_true p104
                        replace q104 := eq_true q104
                        have p105 : 0 ≤ ((ji6) : Int) := of_decide_eq_true (by first | (with_reducible assumption) | assumption)
                        have q105 : (ji6) < (l0.length : Int) := of_decide_eq_true (by first | (with_reducible assumption) | assumption)
                        obtain ⟨ad105, e105, hx105_0⟩ := Kd.at_int HR0.out (ji6) p105 q105
                        obtain rfl : ad104 = ad105 := (by injection e105)
                        replace p105 := eq_true p105
                        replace q105 := eq_true q105
                        go_wp2
                        repeat (go_quiet (fail); try go_wp2)
                        go_ret
                        exact ⟨by first | rfl | (simp; done) | (simp only [← hji6] <;> (first | rfl | simp)) | (simp [*]; done), by repeat (first | exact Drawn0.refl _ | apply Drawn0.step)⟩
                      · rw [if_neg c12] at H
                        have c12b0 : decide ((rd l0 (ji6)) < (rd l0 x5_1)) = false := decide_eq_false c12
                        clear c12
                        by_cases c13 : (rd l0 (ji6)) > a1
                        · rw [if_pos c13] at H
                          have c13b0 : decide (a1 < (rd l0 (ji6))) = true := decide_eq_true c13
                          clear c13
                          obtain rfl := Option.some.inj H
                          have p104 : 0 ≤ (x5_1 : Int) := of_decide_eq_true (by first | (with_reducible assumption) | assumption)
                          have q104 : x5_1 < (l0.length : Int) := of_decide_eq_true (by first | (with_reducible assumption) | assumption)
                          obtain ⟨ad104, e104, hx104_0⟩ := Kd.at_int HR0.out x5_1 p104 q104
                          cases e104
                          replace p104 := eq_true p104
                          replace q104 := eq_true q104
                          have p105 : 0 ≤ ((ji6) : Int) := of_decide_eq_true (by first | (with_reducible assumption) | assumption)
                          have q105 : (ji6) < (l0.length : Int) := of_decide_eq_true (by first | (with_reducible assumption) | assumption)
                          obtain ⟨ad105, e105, hx105_0⟩ := Kd.at_int HR0.out (ji6) p105 q105
                          obtain rfl : ad104 = ad105 := (by injection e105)
                          replace p105 := eq_true p105
                          replace q105 := eq_true q105
                          go_wp2
                          repeat (go_quiet (fail); try go_wp2)
                          go_ret
                          exact ⟨by first | rfl | (simp; done) | (simp only [← hji6] <;> (first | rfl | simp)) | (simp [*]; done), by repeat (first | exact Drawn0.refl _ | apply Drawn0.step)⟩
                        · rw [if_neg c13] at H
                          have c13b0 : decide (a1 < (rd l0 (ji6))) = false := decide_eq_false c13
                          clear c13
                          have H' := Aside0.mk H
                          clear H
                          have p104 : 0 ≤ (x5_1 : Int) := of_decide_eq_true (by first | (with_reducible assumption) | assumption)
                          have q104 : x5_1 < (l0.length : Int) := of_decide_eq_true (by first | (with_reducible assumption) | assumption)
                          obtain ⟨ad104, e104, hx104_0⟩ := Kd.at_int HR0.out x5_1 p104 q104
                          cases e104
                          replace p104 := eq_true p104
                          replace q104 := eq_true q104
                          have p105 : 0 ≤ ((ji6) : Int) := of_decide_eq_true (by first | (with_reducible assumption) | assumption)
                          have q105 : (ji6) < (l0.length : Int) := of_decide_eq_true (by first | (with_reducible assumption) | assumption)
                          obtain ⟨ad105, e105, hx105_0⟩ := Kd.at_int HR0.out (ji6) p105 q105
                          obtain rfl : ad104 = ad105 := (by injection e105)
                          replace p105 := eq_true p105
                          replace q105 := eq_true q105
                          go_wp2
                          repeat (go_quiet (fail); try go_wp2)
                          go_roundg k1
                          case measure => have := HK1.out; omega
                          case rel => exact ⟨(wrap64 (x5_1 + 2)), (by first | rfl | (simp; done) | (simp [*]; done)), H', ⟨by have := HK1.out; omega⟩, by repeat (first | exact Drawn0.refl _ | apply Drawn0.step)⟩
                · rw [if_neg c9] at H
                  have c9b0 : ((rd l0 x5_1) == (-1)) = false := beq_eq_false_iff_ne.mpr c9
                  have c9b1 : ((rd l0 x5_1) != (-1)) = true := bne_iff_ne.mpr c9
                  by_cases c14 : (rd l0 x5_1) < 0
                  · rw [if_pos c14] at H
                    have c14b0 : decide ((rd l0 x5_1) < 0) = true := decide_eq_true c14
                    clear c14
                    obtain rfl := Option.some.inj H
                    have p104 : 0 ≤ (x5_1 : Int) := of_decide_eq_true (by first | (with_reducible assumption) | assumption)
                    have q104 : x5_1 < (l0.length : Int) := of_decide_eq_true (by first | (with_reducible assumption) | assumption)
                    obtain ⟨ad104, e104, hx104_0⟩ := Kd.at_int HR0.out x5_1 p104 q104
                    cases e104
                    replace p104 := eq_true p104
                    replace q104 := eq_true q104
                    have p105 : 0 ≤ ((ji6) : Int) := of_decide_eq_true (by first | (with_reducible assumption) | assumption)
                    have q105 : (ji6) < (l0.length : Int) := of_decide_eq_true (by first | (with_reducible assumption) | assumption)
                    obtain ⟨ad105, e105, hx105_0⟩ := Kd.at_int HR0.out (ji6) p105 q105
                    obtain rfl : ad104 = ad105 := (by injection e105)
                    replace p105 := eq_true p105
                    replace q105 := eq_true q105
                    go_wp2
                    repeat (go_quiet (fail); try go_wp2)
                    go_ret
                    exact ⟨by first | rfl | (simp; done) | (simp only [← hji6] <;> (first | rfl | simp)) | (simp [*]; done), by repeat (first | exact Drawn0.refl _ | apply Drawn0.step)⟩
                  · rw [if_neg c14] at H
                    have c14b0 : decide ((rd l0 x5_1) < 0) = false := decide_eq_false c14
                    clear c14
                    by_cases c15 : (rd l0 (ji6)) < (rd l0 x5_1)
                    · rw [if_pos c15] at H
                      have c15b0 : decide ((rd l0 (ji6)) < (rd l0 x5_1)) = true := decide_eq_true c15
                      clear c15
                      obtain rfl := Option.some.inj H
                      have p104 : 0 ≤ (x5_1 : Int) := of_decide_eq_true (by first | (with_reducible assumption) | assumption)
                      have q104 : x5_1 < (l0.length : Int) := of_decide_eq_true (by first | (with_reducible assumption) | assumption)
                      obtain ⟨ad104, e104, hx104_0⟩ := Kd.at_int HR0.out x5_1 p104 q104
                      cases e104
                      replace p104 := eq_true p104
                      replace q104 := eq_true q104
                      have p105 : 0 ≤ ((ji6) : Int) := of_decide_eq_true (by first | (with_reducible assumption) | assumption)
                      have q105 : (ji6) < (l0.length : Int) := of_decide_eq_true (by first | (with_reducible assumption) | assumption)
                      obtain ⟨ad105, e105, hx105_0⟩ := Kd.at_int HR0.out (ji6) p105 q105
                      obtain rfl : ad104 = ad105 := (by injection e105)
                      replace p105 := eq_true p105
                      replace q105 := eq_true q105
                      go_wp2
                      repeat (go_quiet (fail); try go_wp2)
                      go_ret
                      exact ⟨by first | rfl | (simp; done) | (simp only [← hji6] <;> (first | rfl | simp)) | (simp [*]; done), by repeat (first | exact Drawn0.refl _ | apply Drawn0.step)⟩
                    · rw [if_neg c15] at H
                      have c15b0 : decide ((rd l0 (ji6)) < (rd l0 x5_1)) = false := decide_eq_false c15
                      clear c15
                      by_cases c16 : (rd l0 (ji6)) > a1
                      · rw [if_pos c16] at H
                        have c16b0 : decide (a1 < (rd l0 (ji6))) = true := decide_eq_true c16
                        clear c16
                        obtain rfl := Option.some.inj H
                        have p104 : 0 ≤ (x5_1 : Int) := of_decide_eq_true (by first | (with_reducible assumption) | assumption)
                        have q104 : x5_1 < (l0.length : Int) := of_decide_eq_true (by first | (with_reducible assumption) | assumption)
                        obtain ⟨ad104, e104, hx104_0⟩ := Kd.at_int HR0.out x5_1 p104 q104
                        cases e104
                        replace p104 := eq_true p104
                        replace q104 := eq_true q104
                        have p105 : 0 ≤ ((ji6) : Int) := of_decide_eq_true (by first | (with_reducible assumption) | assumption)
                        have q105 : (ji6) < (l0.length : Int) := of_decide_eq_true (by first | (with_reducible assumption) | assumption)
                        obtain ⟨ad105, e105, hx105_0⟩ := Kd.at_int HR0.out (ji6) p105 q105
                        obtain rfl : ad104 = ad105 := (by injection e105)
                        replace p105 := eq_true p105
                        replace q105 := eq_true q105
                        go_wp2
                        repeat (go_quiet (fail); try go_wp2)
                        go_ret
                        exact ⟨by first | rfl | (simp; done) | (simp only [← hji6] <;> (first | rfl | simp)) | (simp [*]; done), by repeat (first | exact Drawn0.refl _ | apply Drawn0.step)⟩
                      · rw [if_neg c16] at H
                        have c16b0 : decide (a1 < (rd l0 (ji6))) = false := decide_eq_false c16
                        clear c16
                        have H' := Aside0.mk H
                        clear H
                        have p104 : 0 ≤ (x5_1 : Int) := of_decide_eq_true (by first | (with_reducible assumption) | assumption)
                        have q104 : x5_1 < (l0.length : Int) := of_decide_eq_true (by first | (with_reducible assumption) | assumption)
                        obtain ⟨ad104, e104, hx104_0⟩ := Kd.at_int HR0.out x5_1 p104 q104
                        cases e104
                        replace p104 := eq_true p104
                        replace q104 := eq_true q104
                        have p105 : 0 ≤ ((ji6) : Int) := of_decide_eq_true (by first | (with_reducible assumption) | assumption)
                        have q105 : (ji6) < (l0.length : Int) := of_decide_eq_true (by first | (with_reducible assumption) | assumption)
                        obtain ⟨ad105, e105, hx105_0⟩ := Kd.at_int HR0.out (ji6) p105 q105
                        obtain rfl : ad104 = ad105 := (by injection e105)
                        replace p105 := eq_true p105
                        replace q105 := eq_true q105
                        go_wp2
                        repeat (go_quiet (fail); try go_wp2)
                        go_roundg k1
                        case measure => have := HK1.out; omega
                        case rel => exact ⟨(wrap64 (x5_1 + 2)), (by first | rfl | (simp; done) | (simp [*]; done)), H', ⟨by have := HK1.out; omega⟩, by repeat (first | exact Drawn0.refl _ | apply Drawn0.step)⟩
              · rw [if_neg c8] at H
                exact absurd H (by simp)
            · rw [if_neg c7] at H
              exact absurd H (by simp)
          · rw [if_neg c5] at H
            exact absurd H (by simp)
      · rw [if_neg c3] at H
        have c3b0 : decide (x5_1 < (l0.length : Int)) = false := decide_eq_false c3
        clear c3
        obtain rfl := Option.some.inj H
        go_wp2
        repeat (go_quiet (fail); try go_wp2)
        go_ret
        exact ⟨by first | rfl | (simp; done) | (simp [*]; done), by repeat (first | exact Drawn0.refl _ | apply Drawn0.step)⟩

-- NOT PRINTED: function 9 (regexp_ZZNamed)

/-! ### regexp_zzIndex: function 24 -/
def regexp_zzIndex.l0 : Nat → ByteArray → ByteArray → Int → Option (Int)
  | 0, _, _, _ => none
  | k + 1, x0, x1, x5 => if (wrap64 (x5 + (x1.size : Int))) ≤ (x0.size : Int) then (if 0 ≤ x5 then (if x5 ≤ (wrap64 (x5 + (x1.size : Int))) then (if (x0.extract (x5 : Int).toNat ((wrap64 (x5 + (x1.size : Int))) : Int).toNat).toList = x1.toList then (some x5) else (regexp_zzIndex.l0 k x0 x1 (wrap64 (x5 + 1)))) else (none)) else (none)) else (some (-1))
def regexp_zzIndex.f (k : Nat) (a0 : ByteArray) (a1 : ByteArray) : Option (Int) := regexp_zzIndex.l0 k a0 a1 0
theorem regexp_zzIndex.mono_l : ∀ k, (∀ y0 y1 y2, LeO (regexp_zzIndex.l0 k y0 y1 y2) (regexp_zzIndex.l0 (k + 1) y0 y1 y2))
  | 0 => fun _ _ _ r h => by simp [regexp_zzIndex.l0] at h
  | k + 1 => by
    have ih0 := regexp_zzIndex.mono_l k
    · intro y0 y1 y2
      unfold regexp_zzIndex.l0
      repeat' first
      | (with_reducible exact ih0 _ _ _)
      | (with_reducible exact LeO.refl _)
      | (with_reducible exact LeO.none _)
      | (with_reducible refine LeO.ite ?_ ?_)
      | (with_reducible refine LeO.bind ?_ (fun _ => ?_))
      | exact ih0 _ _ _
      | exact LeO.none _
      | refine LeO.ite ?_ ?_
      | refine LeO.bind ?_ (fun _ => ?_)
theorem regexp_zzIndex.mono : ∀ a0 a1 k, LeO (regexp_zzIndex.f k a0 a1) (regexp_zzIndex.f (k + 1) a0 a1) := by
  intro a0 a1 k
  have ih0 := regexp_zzIndex.mono_l k
  unfold regexp_zzIndex.f
  repeat' first
      | (with_reducible exact ih0 _ _ _)
      | (with_reducible exact LeO.refl _)
      | (with_reducible exact LeO.none _)
      | (with_reducible refine LeO.ite ?_ ?_)
      | (with_reducible refine LeO.bind ?_ (fun _ => ?_))
      | exact ih0 _ _ _
      | exact LeO.none _
      | refine LeO.ite ?_ ?_
      | refine LeO.bind ?_ (fun _ => ?_)
set_option maxHeartbeats 8000000 in
set_option maxRecDepth 100000 in
theorem regexp_zzIndex.calls (k : Nat) (a0 : ByteArray) (a1 : ByteArray) (r : Int) (w : World) (h : regexp_zzIndex.f k a0 a1 = some r) :
    Calls Tryd.prog 24 #[.string a0, .string a1] w fun e w' => e = .returned (.int .i64 r) ∧ Drawn0 w w' := by
  have H : (regexp_zzIndex.l0 k a0 a1 0) = some r := h
  clear h
  have H' := Aside0.mk H
  clear H
  go_enter Tryd.func24, Tryd.ntmps24
  go_wp2
  go_loopg [5] k (fun kq v5 w' => ∃ (x5_1 : Int), v5 = .int .i64 x5_1 ∧ Aside0 (regexp_zzIndex.l0 kq a0 a1 x5_1 = some r) ∧ Aside0 (kq ≤ k) ∧ Drawn0 w w')
  case atStart => exact ⟨(0), (by first | rfl | (simp; done) | (simp [*]; done)), H', ⟨Nat.le_refl _⟩, by repeat (first | exact Drawn0.refl _ | apply Drawn0.step)⟩
  case round =>
    clear H'
    try clear c2
    try clear p2
    obtain ⟨x5_1, rfl, HA, HK1, ⟨m1, rfl⟩⟩ := hrel
    cases gk with
    | zero => exact absurd HA.out (by simp [regexp_zzIndex.l0])
    | succ k1 =>
      have H := HA.out
      clear HA
      simp only [regexp_zzIndex.l0] at H
      by_cases c3 : (wrap64 (x5_1 + (a1.size : Int))) ≤ (a0.size : Int)
      · rw [if_pos c3] at H
        have c3b0 : decide ((wrap64 (x5_1 + (a1.size : Int))) ≤ (a0.size : Int)) = true := decide_eq_true c3
        clear c3
        by_cases c4 : 0 ≤ x5_1
        · rw [if_pos c4] at H
          have c4b0 := eq_true c4
          have c4b1 : decide (0 ≤ x5_1) = true := decide_eq_true c4
          clear c4
          by_cases c5 : x5_1 ≤ (wrap64 (x5_1 + (a1.size : Int)))
          · rw [if_pos c5] at H
            have c5b0 := eq_true c5
            have c5b1 : decide (x5_1 ≤ (wrap64 (x5_1 + (a1.size : Int)))) = true := decide_eq_true c5
            have c6b0 := eq_true (of_decide_eq_true (by first | (with_reducible assumption) | assumption) : (wrap64 (x5_1 + (a1.size : Int))) ≤ (a0.size : Int))
            by_cases c7 : (a0.extract (x5_1 : Int).toNat ((wrap64 (x5_1 + (a1.size : Int))) : Int).toNat).toList = a1.toList
            · rw [if_pos c7] at H
              have c7b0 : ((a0.extract (x5_1 : Int).toNat ((wrap64 (x5_1 + (a1.size : Int))) : Int).toNat).toList == a1.toList) = true := beq_iff_eq.mpr c7
              have c7b1 : ((a0.extract (x5_1 : Int).toNat ((wrap64 (x5_1 + (a1.size : Int))) : Int).toNat).toList != a1.toList) = false := bne_eq_false_iff_eq.mpr c7
              clear c7
              obtain rfl := Option.some.inj H
              go_wp2
              go_ret
              exact ⟨by first | rfl | (simp; done) | (simp [*]; done), by repeat (first | exact Drawn0.refl _ | apply Drawn0.step)⟩
            · rw [if_neg c7] at H
              have c7b0 : ((a0.extract (x5_1 : Int).toNat ((wrap64 (x5_1 + (a1.size : Int))) : Int).toNat).toList == a1.toList) = false := beq_eq_false_iff_ne.mpr c7
              have c7b1 : ((a0.extract (x5_1 : Int).toNat ((wrap64 (x5_1 + (a1.size : Int))) : Int).toNat).toList != a1.toList) = true := bne_iff_ne.mpr c7
              have H' := Aside0.mk H
              clear H
              go_wp2
              go_roundg k1
              case measure => have := HK1.out; omega
              case rel => exact ⟨(wrap64 (x5_1 + 1)), (by first | rfl | (simp; done) | (simp [*]; done)), H', ⟨by have := HK1.out; omega⟩, by repeat (first | exact Drawn0.refl _ | apply Drawn0.step)⟩
          · rw [if_neg c5] at H
            exact absurd H (by simp)
        · rw [if_neg c4] at H
          exact absurd H (by simp)
      · rw [if_neg c3] at H
        have c3b0 : decide ((wrap64 (x5_1 + (a1.size : Int))) ≤ (a0.size : Int)) = false := decide_eq_false c3
        clear c3
        obtain rfl := Option.some.inj H
        go_wp2
        go_ret
        exact ⟨by first | rfl | (simp; done) | (simp [*]; done), by repeat (first | exact Drawn0.refl _ | apply Drawn0.step)⟩

end Go.Proofs.YtpnojanoamheiaaDoor.PFnTxExpand
