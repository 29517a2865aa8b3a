import Derived.Test.YtmccgfjhmbioeaaDoorPFnPgThreadsy0
namespace Go.Proofs.YtmccgfjhmbioeaaDoor.PFnPgThreads
open Go.RowKit Go.Proofs.YtmccgfjhmbioeaaDoorW.PrintWords Go.Proofs.YtmccgfjhmbioeaaDoorW.PrintLast Go.Proofs.YtmccgfjhmbioeaaDoorW.PrintMore
attribute [local go_sem] max2_int min2_int max_two min_two max_three min_three max_four min_four
set_option linter.unusedVariables false
set_option linter.unusedSimpArgs false
def impl_characters.l0 : Nat → List Int → Int → Int → Option (Bool)
 | 0, _, _, _ => none
 | k + 1, x5, x6, x7 => if x7 < x6 then (if 0 ≤ x7 then (if x7 < (x5.length : Int) then (if (rd x5 x7) < 0 then (some false) else (if (rd x5 x7) > 1114111 then (some false) else (impl_characters.l0 k x5 x6 (wrap64 (x7 + 1))))) else (none)) else (none)) else (some true)
def impl_characters.f (k : Nat) (l0 : List Int) : Option (Bool) := impl_characters.l0 k l0 (l0.length : Int) 0
theorem impl_characters.mono_l : ∀ k, (∀ y0 y1 y2, LeO (impl_characters.l0 k y0 y1 y2) (impl_characters.l0 (k + 1) y0 y1 y2))
 | 0 => fun _ _ _ r h => by simp [impl_characters.l0] at h
 | k + 1 => by
  have ih0 := impl_characters.mono_l k
  ·intro y0 y1 y2
   unfold impl_characters.l0
   repeat' first
   | (with_reducible exact ih0 _ _ _)
   | (with_reducible exact LeO.refl _)
   | (with_reducible exact LeO.none _)
   | (with_reducible refine LeO.ite ?_ ?_)
   | (with_reducible refine LeO.bind ?_ (fun _ => ?_))
   | exact ih0 _ _ _
   | exact LeO.none _
   | refine LeO.ite ?_ ?_
   | refine LeO.bind ?_ (fun _ => ?_)
theorem impl_characters.mono : ∀ a0 k, LeO (impl_characters.f k a0) (impl_characters.f (k + 1) a0) := by
 intro a0 k
 have ih0 := impl_characters.mono_l k
 unfold impl_characters.f
 repeat' first
   | (with_reducible exact ih0 _ _ _)
   | (with_reducible exact LeO.refl _)
   | (with_reducible exact LeO.none _)
   | (with_reducible refine LeO.ite ?_ ?_)
   | (with_reducible refine LeO.bind ?_ (fun _ => ?_))
   | exact ih0 _ _ _
   | exact LeO.none _
   | refine LeO.ite ?_ ?_
   | refine LeO.bind ?_ (fun _ => ?_)
set_option maxHeartbeats 8000000 in
set_option maxRecDepth 100000 in
theorem impl_characters.calls (k : Nat) (A0 : Option Addr) (c0 : Nat) (l0 : List Int) (r : Bool) (w : World) (hr0 : Kd.C (Kd.int .i32) w A0 l0.length l0) (hc0 : l0.length ≤ c0) (h : impl_characters.f k l0 = some r) :
  Calls Tryd.prog 53 #[.slice A0 l0.length c0] w fun e w' => e = .returned (.bool r) ∧ Drawn0 w w' := by
 have HR0 := Aside0.mk hr0
 have HC0 := Aside0.mk hc0
 clear hr0 hc0
 have H : (impl_characters.l0 k l0 (l0.length : Int) 0) = some r := h
 clear h
 have H' := Aside0.mk H
 clear H
 go_enter Tryd.func53, Tryd.ntmps53
 go_wp2
 go_loopg [7] k (fun kq v7 w' => ∃ (x7_1 : Int), v7 = .int .i64 x7_1 ∧ Aside0 (impl_characters.l0 kq l0 (l0.length : Int) x7_1 = some r) ∧ Aside0 (kq ≤ k) ∧ Drawn0 w w')
 case atStart => exact ⟨(0), (by first | rfl | (simp; done) | (simp [*]; done)), H', ⟨Nat.le_refl _⟩, by repeat (first | exact Drawn0.refl _ | apply Drawn0.step)⟩
 case round =>
  clear H'
  obtain ⟨x7_1, rfl, HA, HK1, ⟨m1, rfl⟩⟩ := hrel
  cases gk with
  | zero => exact absurd HA.out (by simp [impl_characters.l0])
  | succ k1 =>
   have H := HA.out
   clear HA
   simp only [impl_characters.l0] at H
   by_cases c2 : x7_1 < (l0.length : Int)
   ·rw [if_pos c2] at H
    have c2b0 : decide (x7_1 < (l0.length : Int)) = true := decide_eq_true c2
    clear c2
    by_cases c3 : 0 ≤ x7_1
    ·rw [if_pos c3] at H
     have c3b0 : decide (0 ≤ x7_1) = true := decide_eq_true c3
     clear c3
     by_cases c4 : x7_1 < (l0.length : Int)
     ·rw [if_pos c4] at H
      have c4b0 : decide (x7_1 < (l0.length : Int)) = true := decide_eq_true c4
      clear c4
      by_cases c5 : (rd l0 x7_1) < 0
      ·rw [if_pos c5] at H
       have c5b0 : decide ((rd l0 x7_1) < 0) = true := decide_eq_true c5
       clear c5
       obtain rfl := Option.some.inj H
       have p151 : 0 ≤ (x7_1 : Int) := of_decide_eq_true (by first | (with_reducible assumption) | assumption)
       have q151 : x7_1 < (l0.length : Int) := of_decide_eq_true (by first | (with_reducible assumption) | assumption)
       obtain ⟨ad151, e151, hx151_0⟩ := Kd.at_int HR0.out x7_1 p151 q151
       cases e151
       replace p151 := eq_true p151
       replace q151 := eq_true q151
       go_wp2
       go_ret
       exact ⟨by first | rfl | (simp; done) | (simp [*]; done), by repeat (first | exact Drawn0.refl _ | apply Drawn0.step)⟩
      ·rw [if_neg c5] at H
       have c5b0 : decide ((rd l0 x7_1) < 0) = false := decide_eq_false c5
       clear c5
       by_cases c6 : (rd l0 x7_1) > 1114111
       ·rw [if_pos c6] at H
        have c6b0 : decide (1114111 < (rd l0 x7_1)) = true := decide_eq_true c6
        clear c6
        obtain rfl := Option.some.inj H
        have p151 : 0 ≤ (x7_1 : Int) := of_decide_eq_true (by first | (with_reducible assumption) | assumption)
        have q151 : x7_1 < (l0.length : Int) := of_decide_eq_true (by first | (with_reducible assumption) | assumption)
        obtain ⟨ad151, e151, hx151_0⟩ := Kd.at_int HR0.out x7_1 p151 q151
        cases e151
        replace p151 := eq_true p151
        replace q151 := eq_true q151
        go_wp2
        go_ret
        exact ⟨by first | rfl | (simp; done) | (simp [*]; done), by repeat (first | exact Drawn0.refl _ | apply Drawn0.step)⟩
       ·rw [if_neg c6] at H
        have c6b0 : decide (1114111 < (rd l0 x7_1)) = false := decide_eq_false c6
        clear c6
        have H' := Aside0.mk H
        clear H
        have p151 : 0 ≤ (x7_1 : Int) := of_decide_eq_true (by first | (with_reducible assumption) | assumption)
        have q151 : x7_1 < (l0.length : Int) := of_decide_eq_true (by first | (with_reducible assumption) | assumption)
        obtain ⟨ad151, e151, hx151_0⟩ := Kd.at_int HR0.out x7_1 p151 q151
        cases e151
        replace p151 := eq_true p151
        replace q151 := eq_true q151
        go_wp2
        go_roundg k1
        case measure => have := HK1.out; omega
        case rel => exact ⟨(wrap64 (x7_1 + 1)), (by first | rfl | (simp; done) | (simp [*]; done)), H', ⟨by have := HK1.out; omega⟩, by repeat (first | exact Drawn0.refl _ | apply Drawn0.step)⟩
     ·rw [if_neg c4] at H
      exact absurd H (by simp)
    ·rw [if_neg c3] at H
     exact absurd H (by simp)
   ·rw [if_neg c2] at H
    have c2b0 : decide (x7_1 < (l0.length : Int)) = false := decide_eq_false c2
    clear c2
    obtain rfl := Option.some.inj H
    go_wp2
    go_ret
    exact ⟨by first | rfl | (simp; done) | (simp [*]; done), by repeat (first | exact Drawn0.refl _ | apply Drawn0.step)⟩
def impl_pairs.l0 : Nat → List Int → Int → Int → Option (Bool)
 | 0, _, _, _ => none
 | k + 1, x0, x3, x4 => if x4 < (x0.length : Int) then (if (wrap64 (x4 + 1)) = (x0.length : Int) then (some false) else (if 0 ≤ x4 then (if (rd x0 x4) ≤ x3 then (some false) else (if 0 ≤ (wrap64 (x4 + 1)) then (if (wrap64 (x4 + 1)) < (x0.length : Int) then (if (rd x0 (wrap64 (x4 + 1))) < (rd x0 x4) then (some false) else (if (rd x0 (wrap64 (x4 + 1))) > 1114111 then (some false) else (impl_pairs.l0 k x0 (rd x0 (wrap64 (x4 + 1))) (wrap64 (x4 + 2))))) else (none)) else (none))) else (none))) else (some true)
def impl_pairs.f (k : Nat) (l0 : List Int) : Option (Bool) := impl_pairs.l0 k l0 (-1) 0
theorem impl_pairs.mono_l : ∀ k, (∀ y0 y1 y2, LeO (impl_pairs.l0 k y0 y1 y2) (impl_pairs.l0 (k + 1) y0 y1 y2))
 | 0 => fun _ _ _ r h => by simp [impl_pairs.l0] at h
 | k + 1 => by
  have ih0 := impl_pairs.mono_l k
  ·intro y0 y1 y2
   unfold impl_pairs.l0
   repeat' first
   | (with_reducible exact ih0 _ _ _)
   | (with_reducible exact LeO.refl _)
   | (with_reducible exact LeO.none _)
   | (with_reducible refine LeO.ite ?_ ?_)
   | (with_reducible refine LeO.bind ?_ (fun _ => ?_))
   | exact ih0 _ _ _
   | exact LeO.none _
   | refine LeO.ite ?_ ?_
   | refine LeO.bind ?_ (fun _ => ?_)
theorem impl_pairs.mono : ∀ a0 k, LeO (impl_pairs.f k a0) (impl_pairs.f (k + 1) a0) := by
 intro a0 k
 have ih0 := impl_pairs.mono_l k
 unfold impl_pairs.f
 repeat' first
   | (with_reducible exact ih0 _ _ _)
   | (with_reducible exact LeO.refl _)
   | (with_reducible exact LeO.none _)
   | (with_reducible refine LeO.ite ?_ ?_)
   | (with_reducible refine LeO.bind ?_ (fun _ => ?_))
   | exact ih0 _ _ _
   | exact LeO.none _
   | refine LeO.ite ?_ ?_
   | refine LeO.bind ?_ (fun _ => ?_)
set_option maxHeartbeats 8000000 in
set_option maxRecDepth 100000 in
theorem impl_pairs.calls (k : Nat) (A0 : Option Addr) (c0 : Nat) (l0 : List Int) (r : Bool) (w : World) (hr0 : Kd.C (Kd.int .i32) w A0 l0.length l0) (hc0 : l0.length ≤ c0) (h : impl_pairs.f k l0 = some r) :
  Calls Tryd.prog 54 #[.slice A0 l0.length c0] w fun e w' => e = .returned (.bool r) ∧ Drawn0 w w' := by
 have HR0 := Aside0.mk hr0
 have HC0 := Aside0.mk hc0
 clear hr0 hc0
 have H : (impl_pairs.l0 k l0 (-1) 0) = some r := h
 clear h
 have H' := Aside0.mk H
 clear H
 go_enter Tryd.func54, Tryd.ntmps54
 go_wp2
 repeat (go_quiet (fail); try go_wp2)
 go_loopg [3, 4] k (fun kq v3 v4 w' => ∃ (x3_1 : Int) (x4_1 : Int), v3 = .int .i32 x3_1 ∧ v4 = .int .i64 x4_1 ∧ Aside0 (impl_pairs.l0 kq l0 x3_1 x4_1 = some r) ∧ Aside0 (kq ≤ k) ∧ Drawn0 w w')
 case atStart => exact ⟨((-1)), (0), (by first | rfl | (simp; done) | (simp [*]; done)), (by first | rfl | (simp; done) | (simp [*]; done)), H', ⟨Nat.le_refl _⟩, by repeat (first | exact Drawn0.refl _ | apply Drawn0.step)⟩
 case round =>
  clear H'
  obtain ⟨x3_1, x4_1, rfl, rfl, HA, HK1, ⟨m1, rfl⟩⟩ := hrel
  cases gk with
  | zero => exact absurd HA.out (by simp [impl_pairs.l0])
  | succ k1 =>
   have H := HA.out
   clear HA
   simp only [impl_pairs.l0] at H
   by_cases c2 : x4_1 < (l0.length : Int)
   ·rw [if_pos c2] at H
    have c2b0 : decide (x4_1 < (l0.length : Int)) = true := decide_eq_true c2
    clear c2
    by_cases c3 : (wrap64 (x4_1 + 1)) = (l0.length : Int)
    ·rw [if_pos c3] at H
     have c3b0 : ((wrap64 (x4_1 + 1)) == (l0.length : Int)) = true := beq_iff_eq.mpr c3
     have c3b1 : ((wrap64 (x4_1 + 1)) != (l0.length : Int)) = false := bne_eq_false_iff_eq.mpr c3
     clear c3
     obtain rfl := Option.some.inj H
     go_wp2
     repeat (go_quiet (fail); try go_wp2)
     go_ret
     exact ⟨by first | rfl | (simp; done) | (simp [*]; done), by repeat (first | exact Drawn0.refl _ | apply Drawn0.step)⟩
    ·rw [if_neg c3] at H
     have c3b0 : ((wrap64 (x4_1 + 1)) == (l0.length : Int)) = false := beq_eq_false_iff_ne.mpr c3
     have c3b1 : ((wrap64 (x4_1 + 1)) != (l0.length : Int)) = true := bne_iff_ne.mpr c3
     by_cases c4 : 0 ≤ x4_1
     ·rw [if_pos c4] at H
      have c4b0 : decide (0 ≤ x4_1) = true := decide_eq_true c4
      clear c4
      by_cases c5 : (rd l0 x4_1) ≤ x3_1
      ·rw [if_pos c5] at H
       have c5b0 : decide ((rd l0 x4_1) ≤ x3_1) = true := decide_eq_true c5
       clear c5
       obtain rfl := Option.some.inj H
       have p152 : 0 ≤ (x4_1 : Int) := of_decide_eq_true (by first | (with_reducible assumption) | assumption)
       have q152 : x4_1 < (l0.length : Int) := of_decide_eq_true (by first | (with_reducible assumption) | assumption)
       obtain ⟨ad152, e152, hx152_0⟩ := Kd.at_int HR0.out x4_1 p152 q152
       cases e152
       replace p152 := eq_true p152
       replace q152 := eq_true q152
       go_wp2
       repeat (go_quiet (fail); try go_wp2)
       go_ret
       exact ⟨by first | rfl | (simp; done) | (simp [*]; done), by repeat (first | exact Drawn0.refl _ | apply Drawn0.step)⟩
      ·rw [if_neg c5] at H
       have c5b0 : decide ((rd l0 x4_1) ≤ x3_1) = false := decide_eq_false c5
       clear c5
       obtain ⟨ji6, hji6⟩ : ∃ j_ : Int, (wrap64 (x4_1 + 1)) = j_ := ⟨_, rfl⟩
       replace H : (if 0 ≤ (ji6) then (if (ji6) < (l0.length : Int) then (if (rd l0 (ji6)) < (rd l0 x4_1) then (some false) else (if (rd l0 (ji6)) > 1114111 then (some false) else (impl_pairs.l0 k1 l0 (rd l0 (ji6)) (wrap64 (x4_1 + 2))))) else (none)) else (none)) = some r := by first | (rw [hji6] at H; exact H) | (simp only [hji6] at H ⊢; exact H)
       (try rw [hji6] at c3b0)
       (try rw [hji6] at c3b1)
       have hji6w : (IntKind.i64.wrap (x4_1 + 1)) = ji6 := (i64_w _).trans hji6
       by_cases c7 : 0 ≤ (ji6)
       ·rw [if_pos c7] at H
        have c7b0 : decide (0 ≤ (ji6)) = true := decide_eq_true c7
        clear c7
        by_cases c8 : (ji6) < (l0.length : Int)
        ·rw [if_pos c8] at H
         have c8b0 : decide ((ji6) < (l0.length : Int)) = true := decide_eq_true c8
         clear c8
         by_cases c9 : (rd l0 (ji6)) < (rd l0 x4_1)
         ·rw [if_pos c9] at H
          have c9b0 : decide ((rd l0 (ji6)) < (rd l0 x4_1)) = true := decide_eq_true c9
          clear c9
          obtain rfl := Option.some.inj H
          have p152 : 0 ≤ (x4_1 : Int) := of_decide_eq_true (by first | (with_reducible assumption) | assumption)
          have q152 : x4_1 < (l0.length : Int) := of_decide_eq_true (by first | (with_reducible assumption) | assumption)
          obtain ⟨ad152, e152, hx152_0⟩ := Kd.at_int HR0.out x4_1 p152 q152
          cases e152
          replace p152 := eq_true p152
          replace q152 := eq_true q152
          have p153 : 0 ≤ ((ji6) : Int) := of_decide_eq_true (by first | (with_reducible assumption) | assumption)
          have q153 : (ji6) < (l0.length : Int) := of_decide_eq_true (by first | (with_reducible assumption) | assumption)
          obtain ⟨ad153, e153, hx153_0⟩ := Kd.at_int HR0.out (ji6) p153 q153
          obtain rfl : ad152 = ad153 := (by injection e153)
          replace p153 := eq_true p153
          replace q153 := eq_true q153
          have p154 : 0 ≤ (x4_1 : Int) := of_decide_eq_true (by first | (with_reducible assumption) | assumption)
          have q154 : x4_1 < (l0.length : Int) := of_decide_eq_true (by first | (with_reducible assumption) | assumption)
          obtain ⟨ad154, e154, hx154_0⟩ := Kd.at_int HR0.out x4_1 p154 q154
          obtain rfl : ad152 = ad154 := (by injection e154)
          replace p154 := eq_true p154
          replace q154 := eq_true q154
          go_wp2
          repeat (go_quiet (fail); try go_wp2)
          go_ret
          exact ⟨by first | rfl | (simp; done) | (simp only [← hji6] <;> (first | rfl | simp)) | (simp [*]; done), by repeat (first | exact Drawn0.refl _ | apply Drawn0.step)⟩
         ·rw [if_neg c9] at H
          have c9b0 : decide ((rd l0 (ji6)) < (rd l0 x4_1)) = false := decide_eq_false c9
          clear c9
          by_cases c10 : (rd l0 (ji6)) > 1114111
          ·rw [if_pos c10] at H
           have c10b0 : decide (1114111 < (rd l0 (ji6))) = true := decide_eq_true c10
           clear c10
           obtain rfl := Option.some.inj H
           have p152 : 0 ≤ (x4_1 : Int) := of_decide_eq_true (by first | (with_reducible assumption) | assumption)
           have q152 : x4_1 < (l0.length : Int) := of_decide_eq_true (by first | (with_reducible assumption) | assumption)
           obtain ⟨ad152, e152, hx152_0⟩ := Kd.at_int HR0.out x4_1 p152 q152
           cases e152
           replace p152 := eq_true p152
           replace q152 := eq_true q152
           have p153 : 0 ≤ ((ji6) : Int) := of_decide_eq_true (by first | (with_reducible assumption) | assumption)
           have q153 : (ji6) < (l0.length : Int) := of_decide_eq_true (by first | (with_reducible assumption) | assumption)
           obtain ⟨ad153, e153, hx153_0⟩ := Kd.at_int HR0.out (ji6) p153 q153
           obtain rfl : ad152 = ad153 := (by injection e153)
           replace p153 := eq_true p153
           replace q153 := eq_true q153
           have p154 : 0 ≤ (x4_1 : Int) := of_decide_eq_true (by first | (with_reducible assumption) | assumption)
           have q154 : x4_1 < (l0.length : Int) := of_decide_eq_true (by first | (with_reducible assumption) | assumption)
           obtain ⟨ad154, e154, hx154_0⟩ := Kd.at_int HR0.out x4_1 p154 q154
           obtain rfl : ad152 = ad154 := (by injection e154)
           replace p154 := eq_true p154
           replace q154 := eq_true q154
           have p155 : 0 ≤ ((ji6) : Int) := of_decide_eq_true (by first | (with_reducible assumption) | assumption)
           have q155 : (ji6) < (l0.length : Int) := of_decide_eq_true (by first | (with_reducible assumption) | assumption)
           obtain ⟨ad155, e155, hx155_0⟩ := Kd.at_int HR0.out (ji6) p155 q155
           obtain rfl : ad152 = ad155 := (by injection e155)
           replace p155 := eq_true p155
           replace q155 := eq_true q155
           go_wp2
           repeat (go_quiet (fail); try go_wp2)
           go_ret
           exact ⟨by first | rfl | (simp; done) | (simp only [← hji6] <;> (first | rfl | simp)) | (simp [*]; done), by repeat (first | exact Drawn0.refl _ | apply Drawn0.step)⟩
          ·rw [if_neg c10] at H
           have c10b0 : decide (1114111 < (rd l0 (ji6))) = false := decide_eq_false c10
           clear c10
           have H' := Aside0.mk H
           clear H
           have p152 : 0 ≤ (x4_1 : Int) := of_decide_eq_true (by first | (with_reducible assumption) | assumption)
           have q152 : x4_1 < (l0.length : Int) := of_decide_eq_true (by first | (with_reducible assumption) | assumption)
           obtain ⟨ad152, e152, hx152_0⟩ := Kd.at_int HR0.out x4_1 p152 q152
           cases e152
           replace p152 := eq_true p152
           replace q152 := eq_true q152
           have p153 : 0 ≤ ((ji6) : Int) := of_decide_eq_true (by first | (with_reducible assumption) | assumption)
           have q153 : (ji6) < (l0.length : Int) := of_decide_eq_true (by first | (with_reducible assumption) | assumption)
           obtain ⟨ad153, e153, hx153_0⟩ := Kd.at_int HR0.out (ji6) p153 q153
           obtain rfl : ad152 = ad153 := (by injection e153)
           replace p153 := eq_true p153
           replace q153 := eq_true q153
           have p154 : 0 ≤ (x4_1 : Int) := of_decide_eq_true (by first | (with_reducible assumption) | assumption)
           have q154 : x4_1 < (l0.length : Int) := of_decide_eq_true (by first | (with_reducible assumption) | assumption)
           obtain ⟨ad154, e154, hx154_0⟩ := Kd.at_int HR0.out x4_1 p154 q154
           obtain rfl : ad152 = ad154 := (by injection e154)
           replace p154 := eq_true p154
           replace q154 := eq_true q154
           have p155 : 0 ≤ ((ji6) : Int) := of_decide_eq_true (by first | (with_reducible assumption) | assumption)
           have q155 : (ji6) < (l0.length : Int) := of_decide_eq_true (by first | (with_reducible assumption) | assumption)
           obtain ⟨ad155, e155, hx155_0⟩ := Kd.at_int HR0.out (ji6) p155 q155
           obtain rfl : ad152 = ad155 := (by injection e155)
           replace p155 := eq_true p155
           replace q155 := eq_true q155
           have p156 : 0 ≤ ((ji6) : Int) := of_decide_eq_true (by first | (with_reducible assumption) | assumption)
           have q156 : (ji6) < (l0.length : Int) := of_decide_eq_true (by first | (with_reducible assumption) | assumption)
           obtain ⟨ad156, e156, hx156_0⟩ := Kd.at_int HR0.out (ji6) p156 q156
           obtain rfl : ad152 = ad156 := (by injection e156)
           replace p156 := eq_true p156
           replace q156 := eq_true q156
           go_wp2
           repeat (go_quiet (fail); try go_wp2)
           go_roundg k1
           case measure => have := HK1.out; omega
           case rel => exact ⟨(rd l0 (ji6)), (wrap64 (x4_1 + 2)), (by first | rfl | (simp; done) | (simp only [← hji6] <;> (first | rfl | simp)) | (simp [*]; done)), (by first | rfl | (simp; done) | (simp [*]; done)), H', ⟨by have := HK1.out; omega⟩, by repeat (first | exact Drawn0.refl _ | apply Drawn0.step)⟩
        ·rw [if_neg c8] at H
         exact absurd H (by simp)
       ·rw [if_neg c7] at H
        exact absurd H (by simp)
     ·rw [if_neg c4] at H
      exact absurd H (by simp)
   ·rw [if_neg c2] at H
    have c2b0 : decide (x4_1 < (l0.length : Int)) = false := decide_eq_false c2
    clear c2
    obtain rfl := Option.some.inj H
    go_wp2
    repeat (go_quiet (fail); try go_wp2)
    go_ret
    exact ⟨by first | rfl | (simp; done) | (simp [*]; done), by repeat (first | exact Drawn0.refl _ | apply Drawn0.step)⟩
end Go.Proofs.YtmccgfjhmbioeaaDoor.PFnPgThreads
