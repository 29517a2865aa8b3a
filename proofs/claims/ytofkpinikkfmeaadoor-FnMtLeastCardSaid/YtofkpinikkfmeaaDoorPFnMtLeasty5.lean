/- Machine-made: walks of functions of the program, out of the print's own lines. -/
import Derived.Test.YtofkpinikkfmeaaDoorPFnMtLeasty0
namespace Go.Proofs.YtofkpinikkfmeaaDoor.PFnMtLeast
open Go.RowKit Go.Proofs.YtofkpinikkfmeaaDoorW.PrintWords Go.Proofs.YtofkpinikkfmeaaDoorW.PrintLast Go.Proofs.YtofkpinikkfmeaaDoorW.PrintMore
attribute [local go_sem] max2_int min2_int max_two min_two max_three min_three max_four min_four   -- for this text's walks alone
set_option linter.unusedVariables false
set_option linter.unusedSimpArgs false

/-! ### impl_pairs: function 41 -/
def impl_pairs.l0 : Nat → List Int → Int → Int → Option (Bool)
  | 0, _, _, _ => none
  | k + 1, x0, x3, x4 => if x4 < (x0.length : Int) then (if (wrap64 (x4 + 1)) = (x0.length : Int) then (some false) else (if 0 ≤ x4 then (if (rd x0 x4) ≤ x3 then (some false) else (if 0 ≤ (wrap64 (x4 + 1)) then (if (wrap64 (x4 + 1)) < (x0.length : Int) then (if (rd x0 (wrap64 (x4 + 1))) < (rd x0 x4) then (some false) else (if (rd x0 (wrap64 (x4 + 1))) > 1114111 then (some false) else (impl_pairs.l0 k x0 (rd x0 (wrap64 (x4 + 1))) (wrap64 (x4 + 2))))) else (none)) else (none))) else (none))) else (some true)
def impl_pairs.f (k : Nat) (l0 : List Int) : Option (Bool) := impl_pairs.l0 k l0 (-1) 0
theorem impl_pairs.mono_l : ∀ k, (∀ y0 y1 y2, LeO (impl_pairs.l0 k y0 y1 y2) (impl_pairs.l0 (k + 1) y0 y1 y2))
  | 0 => fun _ _ _ r h => by simp [impl_pairs.l0] at h
  | k + 1 => by
    have ih0 := impl_pairs.mono_l k
    · intro y0 y1 y2
      unfold impl_pairs.l0
      repeat' first
      | (with_reducible exact ih0 _ _ _)
      | (with_reducible exact LeO.refl _)
      | (with_reducible exact LeO.none _)
      | (with_reducible refine LeO.ite ?_ ?_)
      | (with_reducible refine LeO.bind ?_ (fun _ => ?_))
      | exact ih0 _ _ _
      | exact LeO.none _
      | refine LeO.ite ?_ ?_
      | refine LeO.bind ?_ (fun _ => ?_)
theorem impl_pairs.mono : ∀ a0 k, LeO (impl_pairs.f k a0) (impl_pairs.f (k + 1) a0) := by
  intro a0 k
  have ih0 := impl_pairs.mono_l k
  unfold impl_pairs.f
  repeat' first
      | (with_reducible exact ih0 _ _ _)
      | (with_reducible exact LeO.refl _)
      | (with_reducible exact LeO.none _)
      | (with_reducible refine LeO.ite ?_ ?_)
      | (with_reducible refine LeO.bind ?_ (fun _ => ?_))
      | exact ih0 _ _ _
      | exact LeO.none _
      | refine LeO.ite ?_ ?_
      | refine LeO.bind ?_ (fun _ => ?_)
set_option maxHeartbeats 8000000 in
set_option maxRecDepth 100000 in
theorem impl_pairs.calls (k : Nat) (A0 : Option Addr) (c0 : Nat) (l0 : List Int) (r : Bool) (w : World) (hr0 : Kd.C (Kd.int .i32) w A0 l0.length l0) (hc0 : l0.length ≤ c0) (h : impl_pairs.f k l0 = some r) :
    Calls Tryd.prog 41 #[.slice A0 l0.length c0] w fun e w' => e = .returned (.bool r) ∧ Drawn0 w w' := by
  have HR0 := Aside0.mk hr0
  have HC0 := Aside0.mk hc0
  clear hr0 hc0
  have H : (impl_pairs.l0 k l0 (-1) 0) = some r := h
  clear h
  have H' := Aside0.mk H
  clear H
  go_enter Tryd.func41, Tryd.ntmps41
  go_wp2
  repeat (go_quiet (fail); try go_wp2)
  go_loopg [3, 4] k (fun kq v3 v4 w' => ∃ (x3_1 : Int) (x4_1 : Int), v3 = .int .i32 x3_1 ∧ v4 = .int .i64 x4_1 ∧ Aside0 (impl_pairs.l0 kq l0 x3_1 x4_1 = some r) ∧ Aside0 (kq ≤ k) ∧ Drawn0 w w')
  case atStart => exact ⟨((-1)), (0), (by first | rfl | (simp; done) | (simp [*]; done)), (by first | rfl | (simp; done) | (simp [*]; done)), H', ⟨Nat.le_refl _⟩, by repeat (first | exact Drawn0.refl _ | apply Drawn0.step)⟩
  case round =>
    clear H'
    obtain ⟨x3_1, x4_1, rfl, rfl, HA, HK1, ⟨m1, rfl⟩⟩ := hrel
    cases gk with
    | zero => exact absurd HA.out (by simp [impl_pairs.l0])
    | succ k1 =>
      have H := HA.out
      clear HA
      simp only [impl_pairs.l0] at H
      by_cases c2 : x4_1 < (l0.length : Int)
      · rw [if_pos c2] at H
        have c2b0 : decide (x4_1 < (l0.length : Int)) = true := decide_eq_true c2
        clear c2
        by_cases c3 : (wrap64 (x4_1 + 1)) = (l0.length : Int)
        · rw [if_pos c3] at H
          have c3b0 : ((wrap64 (x4_1 + 1)) == (l0.length : Int)) = true := beq_iff_eq.mpr c3
          have c3b1 : ((wrap64 (x4_1 + 1)) != (l0.length : Int)) = false := bne_eq_false_iff_eq.mpr c3
          clear c3
          obtain rfl := Option.some.inj H
          go_wp2
          repeat (go_quiet (fail); try go_wp2)
          go_ret
          exact ⟨by first | rfl | (simp; done) | (simp [*]; done), by repeat (first | exact Drawn0.refl _ | apply Drawn0.step)⟩
        · rw [if_neg c3] at H
          have c3b0 : ((wrap64 (x4_1 + 1)) == (l0.length : Int)) = false := beq_eq_false_iff_ne.mpr c3
          have c3b1 : ((wrap64 (x4_1 + 1)) != (l0.length : Int)) = true := bne_iff_ne.mpr c3
          by_cases c4 : 0 ≤ x4_1
          · rw [if_pos c4] at H
            have c4b0 : decide (0 ≤ x4_1) = true := decide_eq_true c4
            clear c4
            by_cases c5 : (rd l0 x4_1) ≤ x3_1
            · rw [if_pos c5] at H
              have c5b0 : decide ((rd l0 x4_1) ≤ x3_1) = true := decide_eq_true c5
              clear c5
              obtain rfl := Option.some.inj H
              have p139 : 0 ≤ (x4_1 : Int) := of_decide_eq_true (by first | (with_reducible assumption) | assumption)
              have q139 : x4_1 < (l0.length : Int) := of_decide_eq_true (by first | (with_reducible assumption) | assumption)
              obtain ⟨ad139, e139, hx139_0⟩ := Kd.at_int HR0.out x4_1 p139 q139
              cases e139
              replace p139 := eq_true p139
              replace q139 := eq_true q139
              go_wp2
              repeat (go_quiet (fail); try go_wp2)
              go_ret
              exact ⟨by first | rfl | (simp; done) | (simp [*]; done), by repeat (first | exact Drawn0.refl _ | apply Drawn0.step)⟩
            · rw [if_neg c5] at H
              have c5b0 : decide ((rd l0 x4_1) ≤ x3_1) = false := decide_eq_false c5
              clear c5
              obtain ⟨ji6, hji6⟩ : ∃ j_ : Int, (wrap64 (x4_1 + 1)) = j_ := ⟨_, rfl⟩
              replace H : (if 0 ≤ (ji6) then (if (ji6) < (l0.length : Int) then (if (rd l0 (ji6)) < (rd l0 x4_1) then (some false) else (if (rd l0 (ji6)) > 1114111 then (some false) else (impl_pairs.l0 k1 l0 (rd l0 (ji6)) (wrap64 (x4_1 + 2))))) else (none)) else (none)) = some r := by first | (rw [hji6] at H; exact H) | (simp only [hji6] at H ⊢; exact H)
              (try rw [hji6] at c3b0)
              (try rw [hji6] at c3b1)
              have hji6w : (IntKind.i64.wrap (x4_1 + 1)) = ji6 := (i64_w _).trans hji6
              by_cases c7 : 0 ≤ (ji6)
              · rw [if_pos c7] at H
                have c7b0 : decide (0 ≤ (ji6)) = true := decide_eq_true c7
                clear c7
                by_cases c8 : (ji6) < (l0.length : Int)
                · rw [if_pos c8] at H
                  have c8b0 : decide ((ji6) < (l0.length : Int)) = true := decide_eq_true c8
                  clear c8
                  by_cases c9 : (rd l0 (ji6)) < (rd l0 x4_1)
                  · rw [if_pos c9] at H
                    have c9b0 : decide ((rd l0 (ji6)) < (rd l0 x4_1)) = true := decide_eq_true c9
                    clear c9
                    obtain rfl := Option.some.inj H
                    have p139 : 0 ≤ (x4_1 : Int) := of_decide_eq_true (by first | (with_reducible assumption) | assumption)
                    have q139 : x4_1 < (l0.length : Int) := of_decide_eq_true (by first | (with_reducible assumption) | assumption)
                    obtain ⟨ad139, e139, hx139_0⟩ := Kd.at_int HR0.out x4_1 p139 q139
                    cases e139
                    replace p139 := eq_true p139
                    replace q139 := eq_true q139
                    have p140 : 0 ≤ ((ji6) : Int) := of_decide_eq_true (by first | (with_reducible assumption) | assumption)
                    have q140 : (ji6) < (l0.length : Int) := of_decide_eq_true (by first | (with_reducible assumption) | assumption)
                    obtain ⟨ad140, e140, hx140_0⟩ := Kd.at_int HR0.out (ji6) p140 q140
                    obtain rfl : ad139 = ad140 := (by injection e140)
                    replace p140 := eq_true p140
                    replace q140 := eq_true q140
                    have p141 : 0 ≤ (x4_1 : Int) := of_decide_eq_true (by first | (with_reducible assumption) | assumption)
                    have q141 : x4_1 < (l0.length : Int) := of_decide_eq_true (by first | (with_reducible assumption) | assumption)
                    obtain ⟨ad141, e141, hx141_0⟩ := Kd.at_int HR0.out x4_1 p141 q141
                    obtain rfl : ad139 = ad141 := (by injection e141)
                    replace p141 := eq_true p141
                    replace q141 := eq_true q141
                    go_wp2
                    repeat (go_quiet (fail); try go_wp2)
                    go_ret
                    exact ⟨by first | rfl | (simp; done) | (simp only [← hji6] <;> (first | rfl | simp)) | (simp [*]; done), by repeat (first | exact Drawn0.refl _ | apply Drawn0.step)⟩
                  · rw [if_neg c9] at H
                    have c9b0 : decide ((rd l0 (ji6)) < (rd l0 x4_1)) = false := decide_eq_false c9
                    clear c9
                    by_cases c10 : (rd l0 (ji6)) > 1114111
                    · rw [if_pos c10] at H
                      have c10b0 : decide (1114111 < (rd l0 (ji6))) = true := decide_eq_true c10
                      clear c10
                      obtain rfl := Option.some.inj H
                      have p139 : 0 ≤ (x4_1 : Int) := of_decide_eq_true (by first | (with_reducible assumption) | assumption)
                      have q139 : x4_1 < (l0.length : Int) := of_decide_eq_true (by first | (with_reducible assumption) | assumption)
                      obtain ⟨ad139, e139, hx139_0⟩ := Kd.at_int HR0.out x4_1 p139 q139
                      cases e139
                      replace p139 := eq_true p139
                      replace q139 := eq_true q139
                      have p140 : 0 ≤ ((ji6) : Int) := of_decide_eq_true (by first | (with_reducible assumption) | assumption)
                      have q140 : (ji6) < (l0.length : Int) := of_decide_eq_true (by first | (with_reducible assumption) | assumption)
                      obtain ⟨ad140, e140, hx140_0⟩ := Kd.at_int HR0.out (ji6) p140 q140
                      obtain rfl : ad139 = ad140 := (by injection e140)
                      replace p140 := eq_true p140
                      replace q140 := eq_true q140
                      have p141 : 0 ≤ (x4_1 : Int) := of_decide_eq_true (by first | (with_reducible assumption) | assumption)
                      have q141 : x4_1 < (l0.length : Int) := of_decide_eq_true (by first | (with_reducible assumption) | assumption)
                      obtain ⟨ad141, e141, hx141_0⟩ := Kd.at_int HR0.out x4_1 p141 q141
                      obtain rfl : ad139 = ad141 := (by injection e141)
                      replace p141 := eq_true p141
                      replace q141 := eq_true q141
                      have p142 : 0 ≤ ((ji6) : Int) := of_decide_eq_true (by first | (with_reducible assumption) | assumption)
                      have q142 : (ji6) < (l0.length : Int) := of_decide_eq_true (by first | (with_reducible assumption) | assumption)
                      obtain ⟨ad142, e142, hx142_0⟩ := Kd.at_int HR0.out (ji6) p142 q142
                      obtain rfl : ad139 = ad142 := (by injection e142)
                      replace p142 := eq_true p142
                      replace q142 := eq_true q142
                      go_wp2
                      repeat (go_quiet (fail); try go_wp2)
                      go_ret
                      exact ⟨by first | rfl | (simp; done) | (simp only [← hji6] <;> (first | rfl | simp)) | (simp [*]; done), by repeat (first | exact Drawn0.refl _ | apply Drawn0.step)⟩
                    · rw [if_neg c10] at H
                      have c10b0 : decide (1114111 < (rd l0 (ji6))) = false := decide_eq_false c10
                      clear c10
                      have H' := Aside0.mk H
                      clear H
                      have p139 : 0 ≤ (x4_1 : Int) := of_decide_eq_true (by first | (with_reducible assumption) | assumption)
                      have q139 : x4_1 < (l0.length : Int) := of_decide_eq_true (by first | (with_reducible assumption) | assumption)
                      obtain ⟨ad139, e139, hx139_0⟩ := Kd.at_int HR0.out x4_1 p139 q139
                      cases e139
                      replace p139 := eq_true p139
                      replace q139 := eq_true q139
                      have p140 : 0 ≤ ((ji6) : Int) := of_decide_eq_true (by first | (with_reducible assumption) | assumption)
                      have q140 : (ji6) < (l0.length : Int) := of_decide_eq_true (by first | (with_reducible assumption) | assumption)
                      obtain ⟨ad140, e140, hx140_0⟩ := Kd.at_int HR0.out (ji6) p140 q140
                      obtain rfl : ad139 = ad140 := (by injection e140)
                      replace p140 := eq_true p140
                      replace q140 := eq_true q140
                      have p141 : 0 ≤ (x4_1 : Int) := of_decide_eq_true (by first | (with_reducible assumption) | assumption)
                      have q141 : x4_1 < (l0.length : Int) := of_decide_eq_true (by first | (with_reducible assumption) | assumption)
                      obtain ⟨ad141, e141, hx141_0⟩ := Kd.at_int HR0.out x4_1 p141 q141
                      obtain rfl : ad139 = ad141 := (by injection e141)
                      replace p141 := eq_true p141
                      replace q141 := eq_true q141
                      have p142 : 0 ≤ ((ji6) : Int) := of_decide_eq_true (by first | (with_reducible assumption) | assumption)
                      have q142 : (ji6) < (l0.length : Int) := of_decide_eq_true (by first | (with_reducible assumption) | assumption)
                      obtain ⟨ad142, e142, hx142_0⟩ := Kd.at_int HR0.out (ji6) p142 q142
                      obtain rfl : ad139 = ad142 := (by injection e142)
                      replace p142 := eq_true p142
                      replace q142 := eq_true q142
                      have p143 : 0 ≤ ((ji6) : Int) := of_decide_eq_true (by first | (with_reducible assumption) | assumption)
                      have q143 : (ji6) < (l0.length : Int) := of_decide_eq_true (by first | (with_reducible assumption) | assumption)
                      obtain ⟨ad143, e143, hx143_0⟩ := Kd.at_int HR0.out (ji6) p143 q143
                      obtain rfl : ad139 = ad143 := (by injection e143)
                      replace p143 := eq_true p143
                      replace q143 := eq_true q143
                      go_wp2
                      repeat (go_quiet (fail); try go_wp2)
                      go_roundg k1
                      case measure => have := HK1.out; omega
                      case rel => exact ⟨(rd l0 (ji6)), (wrap64 (x4_1 + 2)), (by first | rfl | (simp; done) | (simp only [← hji6] <;> (first | rfl | simp)) | (simp [*]; done)), (by first | rfl | (simp; done) | (simp [*]; done)), H', ⟨by have := HK1.out; omega⟩, by repeat (first | exact Drawn0.refl _ | apply Drawn0.step)⟩
                · rw [if_neg c8] at H
                  exact absurd H (by simp)
              · rw [if_neg c7] at H
                exact absurd H (by simp)
          · rw [if_neg c4] at H
            exact absurd H (by simp)
      · rw [if_neg c2] at H
        have c2b0 : decide (x4_1 < (l0.length : Int)) = false := decide_eq_false c2
        clear c2
        obtain rfl := Option.some.inj H
        go_wp2
        repeat (go_quiet (fail); try go_wp2)
        go_ret
        exact ⟨by first | rfl | (simp; done) | (simp [*]; done), by repeat (first | exact Drawn0.refl _ | apply Drawn0.step)⟩

end Go.Proofs.YtofkpinikkfmeaaDoor.PFnMtLeast
