import Derived.Test.YtmccgfjhmbioeaaDoorPFnPgThreadsy0
import Derived.Test.YtmccgfjhmbioeaaDoorPFnPgThreadsy7
namespace Go.Proofs.YtmccgfjhmbioeaaDoor.PFnPgThreads
open Go.RowKit Go.Proofs.YtmccgfjhmbioeaaDoorW.PrintWords Go.Proofs.YtmccgfjhmbioeaaDoorW.PrintLast Go.Proofs.YtmccgfjhmbioeaaDoorW.PrintMore
attribute [local go_sem] max2_int min2_int max_two min_two max_three min_three max_four min_four
set_option linter.unusedVariables false
set_option linter.unusedSimpArgs false
mutual
def regexp_lazyFlag_match.j0 : Nat → Int → Int → Int → Option (Bool)
 | 0, _, _, _ => none
 | k + 1, x0, x1, x5 => if (Go.bits .and .u8 x1 4) = 0 then (regexp_lazyFlag_match.j1 k x0 x1 x5) else (if x5 ≥ 0 then (some false) else (regexp_lazyFlag_match.j1 k x0 (Go.bits .andNot .u8 x1 4) x5))
def regexp_lazyFlag_match.j1 : Nat → Int → Int → Int → Option (Bool)
 | 0, _, _, _ => none
 | k + 1, x0, x1, x5 => if x1 = 0 then (some true) else (if (Go.bits .and .u8 x1 2) = 0 then (regexp_lazyFlag_match.j2 k x1 x5 (wrap32 (x0))) else (if (wrap32 (x0)) = 10 then (regexp_lazyFlag_match.j2 k (Go.bits .andNot .u8 x1 2) x5 (wrap32 (x0))) else (if (wrap32 (x0)) ≥ 0 then (some false) else (regexp_lazyFlag_match.j2 k (Go.bits .andNot .u8 x1 2) x5 (wrap32 (x0))))))
def regexp_lazyFlag_match.j2 : Nat → Int → Int → Int → Option (Bool)
 | 0, _, _, _ => none
 | k + 1, x1, x5, x6 => if (Go.bits .and .u8 x1 8) = 0 then (regexp_lazyFlag_match.j3 k x1 x5 x6) else (if x6 ≥ 0 then (some false) else (regexp_lazyFlag_match.j3 k (Go.bits .andNot .u8 x1 8) x5 x6))
def regexp_lazyFlag_match.j3 : Nat → Int → Int → Int → Option (Bool)
 | 0, _, _, _ => none
 | k + 1, x1, x5, x6 => if x1 = 0 then (some true) else ((regexpsyntax_IsWordChar.f x5).bind fun t187 => ((regexpsyntax_IsWordChar.f x6).bind fun t188 => (if (t187 != t188) = true then (some ((Go.bits .andNot .u8 x1 16) == 0)) else (some ((Go.bits .andNot .u8 x1 32) == 0)))))
end
def regexp_lazyFlag_match.f (k : Nat) (a0 : Int) (a1 : Int) : Option (Bool) := if a1 = 0 then (some true) else (if (Go.bits .and .u8 a1 1) = 0 then (regexp_lazyFlag_match.j0 k a0 a1 (wrap32 (a0 / 4294967296))) else (if (wrap32 (a0 / 4294967296)) = 10 then (regexp_lazyFlag_match.j0 k a0 (Go.bits .andNot .u8 a1 1) (wrap32 (a0 / 4294967296))) else (if (wrap32 (a0 / 4294967296)) ≥ 0 then (some false) else (regexp_lazyFlag_match.j0 k a0 (Go.bits .andNot .u8 a1 1) (wrap32 (a0 / 4294967296))))))
theorem regexp_lazyFlag_match.mono_l : ∀ k, (∀ y0 y1 y2, LeO (regexp_lazyFlag_match.j0 k y0 y1 y2) (regexp_lazyFlag_match.j0 (k + 1) y0 y1 y2)) ∧ (∀ y0 y1 y2, LeO (regexp_lazyFlag_match.j1 k y0 y1 y2) (regexp_lazyFlag_match.j1 (k + 1) y0 y1 y2)) ∧ (∀ y0 y1 y2, LeO (regexp_lazyFlag_match.j2 k y0 y1 y2) (regexp_lazyFlag_match.j2 (k + 1) y0 y1 y2)) ∧ (∀ y0 y1 y2, LeO (regexp_lazyFlag_match.j3 k y0 y1 y2) (regexp_lazyFlag_match.j3 (k + 1) y0 y1 y2))
 | 0 => ⟨fun _ _ _ r h => by simp [regexp_lazyFlag_match.j0] at h, fun _ _ _ r h => by simp [regexp_lazyFlag_match.j1] at h, fun _ _ _ r h => by simp [regexp_lazyFlag_match.j2] at h, fun _ _ _ r h => by simp [regexp_lazyFlag_match.j3] at h⟩
 | k + 1 => by
  obtain ⟨ih0, ih1, ih2, ih3⟩ := regexp_lazyFlag_match.mono_l k
  refine ⟨?_, ?_, ?_, ?_⟩
  ·intro y0 y1 y2
   unfold regexp_lazyFlag_match.j0
   repeat' first
   | (with_reducible exact ih0 _ _ _)
   | (with_reducible exact ih1 _ _ _)
   | (with_reducible exact ih2 _ _ _)
   | (with_reducible exact ih3 _ _ _)
   | (with_reducible exact LeO.refl _)
   | (with_reducible exact LeO.none _)
   | (with_reducible refine LeO.ite ?_ ?_)
   | (with_reducible refine LeO.bind ?_ (fun _ => ?_))
   | exact ih0 _ _ _
   | exact ih1 _ _ _
   | exact ih2 _ _ _
   | exact ih3 _ _ _
   | exact LeO.none _
   | refine LeO.ite ?_ ?_
   | refine LeO.bind ?_ (fun _ => ?_)
  ·intro y0 y1 y2
   unfold regexp_lazyFlag_match.j1
   repeat' first
   | (with_reducible exact ih0 _ _ _)
   | (with_reducible exact ih1 _ _ _)
   | (with_reducible exact ih2 _ _ _)
   | (with_reducible exact ih3 _ _ _)
   | (with_reducible exact LeO.refl _)
   | (with_reducible exact LeO.none _)
   | (with_reducible refine LeO.ite ?_ ?_)
   | (with_reducible refine LeO.bind ?_ (fun _ => ?_))
   | exact ih0 _ _ _
   | exact ih1 _ _ _
   | exact ih2 _ _ _
   | exact ih3 _ _ _
   | exact LeO.none _
   | refine LeO.ite ?_ ?_
   | refine LeO.bind ?_ (fun _ => ?_)
  ·intro y0 y1 y2
   unfold regexp_lazyFlag_match.j2
   repeat' first
   | (with_reducible exact ih0 _ _ _)
   | (with_reducible exact ih1 _ _ _)
   | (with_reducible exact ih2 _ _ _)
   | (with_reducible exact ih3 _ _ _)
   | (with_reducible exact LeO.refl _)
   | (with_reducible exact LeO.none _)
   | (with_reducible refine LeO.ite ?_ ?_)
   | (with_reducible refine LeO.bind ?_ (fun _ => ?_))
   | exact ih0 _ _ _
   | exact ih1 _ _ _
   | exact ih2 _ _ _
   | exact ih3 _ _ _
   | exact LeO.none _
   | refine LeO.ite ?_ ?_
   | refine LeO.bind ?_ (fun _ => ?_)
  ·intro y0 y1 y2
   unfold regexp_lazyFlag_match.j3
   repeat' first
   | (with_reducible exact ih0 _ _ _)
   | (with_reducible exact ih1 _ _ _)
   | (with_reducible exact ih2 _ _ _)
   | (with_reducible exact ih3 _ _ _)
   | (with_reducible exact LeO.refl _)
   | (with_reducible exact LeO.none _)
   | (with_reducible refine LeO.ite ?_ ?_)
   | (with_reducible refine LeO.bind ?_ (fun _ => ?_))
   | exact ih0 _ _ _
   | exact ih1 _ _ _
   | exact ih2 _ _ _
   | exact ih3 _ _ _
   | exact LeO.none _
   | refine LeO.ite ?_ ?_
   | refine LeO.bind ?_ (fun _ => ?_)
theorem regexp_lazyFlag_match.mono : ∀ a0 a1 k, LeO (regexp_lazyFlag_match.f k a0 a1) (regexp_lazyFlag_match.f (k + 1) a0 a1) := by
 intro a0 a1 k
 obtain ⟨ih0, ih1, ih2, ih3⟩ := regexp_lazyFlag_match.mono_l k
 unfold regexp_lazyFlag_match.f
 repeat' first
   | (with_reducible exact ih0 _ _ _)
   | (with_reducible exact ih1 _ _ _)
   | (with_reducible exact ih2 _ _ _)
   | (with_reducible exact ih3 _ _ _)
   | (with_reducible exact LeO.refl _)
   | (with_reducible exact LeO.none _)
   | (with_reducible refine LeO.ite ?_ ?_)
   | (with_reducible refine LeO.bind ?_ (fun _ => ?_))
   | exact ih0 _ _ _
   | exact ih1 _ _ _
   | exact ih2 _ _ _
   | exact ih3 _ _ _
   | exact LeO.none _
   | refine LeO.ite ?_ ?_
   | refine LeO.bind ?_ (fun _ => ?_)
set_option maxHeartbeats 8000000 in
set_option maxRecDepth 100000 in
theorem regexp_lazyFlag_match.calls (k : Nat) (a0 : Int) (a1 : Int) (r : Bool) (w : World) (h : regexp_lazyFlag_match.f k a0 a1 = some r) :
  Calls Tryd.prog 56 #[.int .u64 a0, .int .u8 a1] w fun e w' => e = .returned (.bool r) ∧ Drawn0 w w' := by
 have H : (if a1 = 0 then (some true) else (if (Go.bits .and .u8 a1 1) = 0 then (regexp_lazyFlag_match.j0 k a0 a1 (wrap32 (a0 / 4294967296))) else (if (wrap32 (a0 / 4294967296)) = 10 then (regexp_lazyFlag_match.j0 k a0 (Go.bits .andNot .u8 a1 1) (wrap32 (a0 / 4294967296))) else (if (wrap32 (a0 / 4294967296)) ≥ 0 then (some false) else (regexp_lazyFlag_match.j0 k a0 (Go.bits .andNot .u8 a1 1) (wrap32 (a0 / 4294967296))))))) = some r := h
 clear h
 by_cases c3 : a1 = 0
 ·rw [if_pos c3] at H
  have c3b0 : (a1 == 0) = true := beq_iff_eq.mpr c3
  have c3b1 : (a1 != 0) = false := bne_eq_false_iff_eq.mpr c3
  clear c3
  obtain rfl := Option.some.inj H
  go_enter Tryd.func56, Tryd.ntmps56
  go_wp2
  go_ret
  exact ⟨by first | rfl | (simp; done) | (simp [*]; done), by repeat (first | exact Drawn0.refl _ | apply Drawn0.step)⟩
 ·rw [if_neg c3] at H
  have c3b0 : (a1 == 0) = false := beq_eq_false_iff_ne.mpr c3
  have c3b1 : (a1 != 0) = true := bne_iff_ne.mpr c3
  have HC4 := Aside0.mk H
  clear H
  go_enter Tryd.func56, Tryd.ntmps56
  go_upto_if 14 with (fail)
  go_cut [1] (fun v1 wc => ∃ (kq : Nat) (x1_3 : Int), v1 = .int .u8 x1_3 ∧ Aside0 (regexp_lazyFlag_match.j0 kq a0 x1_3 (wrap32 (a0 / 4294967296)) = some r) ∧ Aside0 (kq ≤ k) ∧ Drawn0 w wc)
  case first =>
   have H := HC4.out
   clear HC4
   by_cases c5 : (Go.bits .and .u8 a1 1) = 0
   ·rw [if_pos c5] at H
    have c5b0 : ((Go.bits .and .u8 a1 1) == 0) = true := beq_iff_eq.mpr c5
    have c5b1 : ((Go.bits .and .u8 a1 1) != 0) = false := bne_eq_false_iff_eq.mpr c5
    clear c5
    (first | rw [c5b0] | (simp only [i64_w, i32_w]; rw [c5b0]) | skip)
    have H' := Aside0.mk H
    clear H
    go_wp2
    go_meet
    case rel => exact ⟨_, (a1), (by first | rfl | (simp; done) | (simp [*]; done)), H', ⟨by first | omega | exact Nat.le_refl _⟩, by repeat (first | exact Drawn0.refl _ | apply Drawn0.step)⟩
   ·rw [if_neg c5] at H
    have c5b0 : ((Go.bits .and .u8 a1 1) == 0) = false := beq_eq_false_iff_ne.mpr c5
    have c5b1 : ((Go.bits .and .u8 a1 1) != 0) = true := bne_iff_ne.mpr c5
    (first | rw [c5b0] | (simp only [i64_w, i32_w]; rw [c5b0]) | skip)
    by_cases c6 : (wrap32 (a0 / 4294967296)) = 10
    ·rw [if_pos c6] at H
     have c6b0 : ((wrap32 (a0 / 4294967296)) == 10) = true := beq_iff_eq.mpr c6
     have c6b1 : ((wrap32 (a0 / 4294967296)) != 10) = false := bne_eq_false_iff_eq.mpr c6
     clear c6
     have H' := Aside0.mk H
     clear H
     go_wp2
     go_meet
     case rel => exact ⟨_, (Go.bits .andNot .u8 a1 1), (by first | rfl | (simp; done) | (simp [*]; done)), H', ⟨by first | omega | exact Nat.le_refl _⟩, by repeat (first | exact Drawn0.refl _ | apply Drawn0.step)⟩
    ·rw [if_neg c6] at H
     have c6b0 : ((wrap32 (a0 / 4294967296)) == 10) = false := beq_eq_false_iff_ne.mpr c6
     have c6b1 : ((wrap32 (a0 / 4294967296)) != 10) = true := bne_iff_ne.mpr c6
     by_cases c7 : (wrap32 (a0 / 4294967296)) ≥ 0
     ·rw [if_pos c7] at H
      have c7b0 : decide (0 ≤ (wrap32 (a0 / 4294967296))) = true := decide_eq_true c7
      clear c7
      obtain rfl := Option.some.inj H
      go_wp2
      go_ret
      exact ⟨by first | rfl | (simp; done) | (simp [*]; done), by repeat (first | exact Drawn0.refl _ | apply Drawn0.step)⟩
     ·rw [if_neg c7] at H
      have c7b0 : decide (0 ≤ (wrap32 (a0 / 4294967296))) = false := decide_eq_false c7
      clear c7
      have H' := Aside0.mk H
      clear H
      go_wp2
      go_meet
      case rel => exact ⟨_, (Go.bits .andNot .u8 a1 1), (by first | rfl | (simp; done) | (simp [*]; done)), H', ⟨by first | omega | exact Nat.le_refl _⟩, by repeat (first | exact Drawn0.refl _ | apply Drawn0.step)⟩
  case rest =>
   clear HC4
   try clear p2
   try clear c3
   try clear c3b0
   try clear c3b1
   try clear p3
   try clear c5
   try clear c5b0
   try clear c5b1
   try clear c6
   try clear c6b0
   try clear c6b1
   try clear c7
   try clear c7b0
   obtain ⟨kq, x1_3, rfl, HA, HJ3, ⟨mc3, rfl⟩⟩ := hcut
   cases kq with
   | zero => exact absurd HA.out (by simp [regexp_lazyFlag_match.j0])
   | succ kj3 =>
    have H := HA.out
    clear HA
    simp only [regexp_lazyFlag_match.j0] at H
    have HC8 := Aside0.mk H
    clear H
    go_upto_if 25 with (fail)
    go_cut [1] (fun v1 wc => ∃ (kq : Nat) (x1_7 : Int), v1 = .int .u8 x1_7 ∧ Aside0 (regexp_lazyFlag_match.j1 kq a0 x1_7 (wrap32 (a0 / 4294967296)) = some r) ∧ Aside0 (kq ≤ kj3) ∧ Drawn0 w wc)
    case first =>
     have H := HC8.out
     clear HC8
     by_cases c9 : (Go.bits .and .u8 x1_3 4) = 0
     ·rw [if_pos c9] at H
      have c9b0 : ((Go.bits .and .u8 x1_3 4) == 0) = true := beq_iff_eq.mpr c9
      have c9b1 : ((Go.bits .and .u8 x1_3 4) != 0) = false := bne_eq_false_iff_eq.mpr c9
      clear c9
      (first | rw [c9b0] | (simp only [i64_w, i32_w]; rw [c9b0]) | skip)
      have H' := Aside0.mk H
      clear H
      go_wp2
      go_meet
      case rel => exact ⟨_, (x1_3), (by first | rfl | (simp; done) | (simp [*]; done)), H', ⟨by have := HJ3.out; first | omega | exact Nat.le_refl _⟩, by repeat (first | exact Drawn0.refl _ | apply Drawn0.step)⟩
     ·rw [if_neg c9] at H
      have c9b0 : ((Go.bits .and .u8 x1_3 4) == 0) = false := beq_eq_false_iff_ne.mpr c9
      have c9b1 : ((Go.bits .and .u8 x1_3 4) != 0) = true := bne_iff_ne.mpr c9
      (first | rw [c9b0] | (simp only [i64_w, i32_w]; rw [c9b0]) | skip)
      by_cases c10 : (wrap32 (a0 / 4294967296)) ≥ 0
      ·rw [if_pos c10] at H
       have c10b0 : decide (0 ≤ (wrap32 (a0 / 4294967296))) = true := decide_eq_true c10
       clear c10
       obtain rfl := Option.some.inj H
       go_wp2
       go_ret
       exact ⟨by first | rfl | (simp; done) | (simp [*]; done), by repeat (first | exact Drawn0.refl _ | apply Drawn0.step)⟩
      ·rw [if_neg c10] at H
       have c10b0 : decide (0 ≤ (wrap32 (a0 / 4294967296))) = false := decide_eq_false c10
       clear c10
       have H' := Aside0.mk H
       clear H
       go_wp2
       go_meet
       case rel => exact ⟨_, (Go.bits .andNot .u8 x1_3 4), (by first | rfl | (simp; done) | (simp [*]; done)), H', ⟨by have := HJ3.out; first | omega | exact Nat.le_refl _⟩, by repeat (first | exact Drawn0.refl _ | apply Drawn0.step)⟩
    case rest =>
     clear HC8
     try clear c1
     try clear p2
     try clear c3
     try clear c3b0
     try clear c3b1
     try clear p3
     try clear c5
     try clear c5b0
     try clear c5b1
     try clear c6
     try clear c6b0
     try clear c6b1
     try clear c7
     try clear c7b0
     try clear c9
     try clear c9b0
     try clear c9b1
     try clear c10
     try clear c10b0
     try clear p2
     try clear p3
     obtain ⟨kq, x1_7, rfl, HA, HJ7, ⟨mc7, rfl⟩⟩ := hcut
     cases kq with
     | zero => exact absurd HA.out (by simp [regexp_lazyFlag_match.j1])
     | succ kj7 =>
      have H := HA.out
      clear HA
      simp only [regexp_lazyFlag_match.j1] at H
      by_cases c11 : x1_7 = 0
      ·rw [if_pos c11] at H
       have c11b0 : (x1_7 == 0) = true := beq_iff_eq.mpr c11
       have c11b1 : (x1_7 != 0) = false := bne_eq_false_iff_eq.mpr c11
       clear c11
       obtain rfl := Option.some.inj H
       go_wp2
       go_ret
       exact ⟨by first | rfl | (simp; done) | (simp [*]; done), by repeat (first | exact Drawn0.refl _ | apply Drawn0.step)⟩
      ·rw [if_neg c11] at H
       have c11b0 : (x1_7 == 0) = false := beq_eq_false_iff_ne.mpr c11
       have c11b1 : (x1_7 != 0) = true := bne_iff_ne.mpr c11
       have HC12 := Aside0.mk H
       clear H
       go_upto_if 36 with (fail)
       go_cut [1] (fun v1 wc => ∃ (kq : Nat) (x1_11 : Int), v1 = .int .u8 x1_11 ∧ Aside0 (regexp_lazyFlag_match.j2 kq x1_11 (wrap32 (a0 / 4294967296)) (wrap32 (a0)) = some r) ∧ Aside0 (kq ≤ kj7) ∧ Drawn0 w wc)
       case first =>
        have H := HC12.out
        clear HC12
        by_cases c13 : (Go.bits .and .u8 x1_7 2) = 0
        ·rw [if_pos c13] at H
         have c13b0 : ((Go.bits .and .u8 x1_7 2) == 0) = true := beq_iff_eq.mpr c13
         have c13b1 : ((Go.bits .and .u8 x1_7 2) != 0) = false := bne_eq_false_iff_eq.mpr c13
         clear c13
         (first | rw [c13b0] | (simp only [i64_w, i32_w]; rw [c13b0]) | skip)
         have H' := Aside0.mk H
         clear H
         go_wp2
         go_meet
         case rel => exact ⟨_, (x1_7), (by first | rfl | (simp; done) | (simp [*]; done)), H', ⟨by have := HJ3.out; have := HJ7.out; first | omega | exact Nat.le_refl _⟩, by repeat (first | exact Drawn0.refl _ | apply Drawn0.step)⟩
        ·rw [if_neg c13] at H
         have c13b0 : ((Go.bits .and .u8 x1_7 2) == 0) = false := beq_eq_false_iff_ne.mpr c13
         have c13b1 : ((Go.bits .and .u8 x1_7 2) != 0) = true := bne_iff_ne.mpr c13
         (first | rw [c13b0] | (simp only [i64_w, i32_w]; rw [c13b0]) | skip)
         by_cases c14 : (wrap32 (a0)) = 10
         ·rw [if_pos c14] at H
          have c14b0 : ((wrap32 (a0)) == 10) = true := beq_iff_eq.mpr c14
          have c14b1 : ((wrap32 (a0)) != 10) = false := bne_eq_false_iff_eq.mpr c14
          clear c14
          have H' := Aside0.mk H
          clear H
          go_wp2
          go_meet
          case rel => exact ⟨_, (Go.bits .andNot .u8 x1_7 2), (by first | rfl | (simp; done) | (simp [*]; done)), H', ⟨by have := HJ3.out; have := HJ7.out; first | omega | exact Nat.le_refl _⟩, by repeat (first | exact Drawn0.refl _ | apply Drawn0.step)⟩
         ·rw [if_neg c14] at H
          have c14b0 : ((wrap32 (a0)) == 10) = false := beq_eq_false_iff_ne.mpr c14
          have c14b1 : ((wrap32 (a0)) != 10) = true := bne_iff_ne.mpr c14
          by_cases c15 : (wrap32 (a0)) ≥ 0
          ·rw [if_pos c15] at H
           have c15b0 : decide (0 ≤ (wrap32 (a0))) = true := decide_eq_true c15
           clear c15
           obtain rfl := Option.some.inj H
           go_wp2
           go_ret
           exact ⟨by first | rfl | (simp; done) | (simp [*]; done), by repeat (first | exact Drawn0.refl _ | apply Drawn0.step)⟩
          ·rw [if_neg c15] at H
           have c15b0 : decide (0 ≤ (wrap32 (a0))) = false := decide_eq_false c15
           clear c15
           have H' := Aside0.mk H
           clear H
           go_wp2
           go_meet
           case rel => exact ⟨_, (Go.bits .andNot .u8 x1_7 2), (by first | rfl | (simp; done) | (simp [*]; done)), H', ⟨by have := HJ3.out; have := HJ7.out; first | omega | exact Nat.le_refl _⟩, by repeat (first | exact Drawn0.refl _ | apply Drawn0.step)⟩
       case rest =>
        clear HC12
        try clear c1
        try clear p2
        try clear c3
        try clear c3b0
        try clear c3b1
        try clear p3
        try clear c5
        try clear c5b0
        try clear c5b1
        try clear c6
        try clear c6b0
        try clear c6b1
        try clear c7
        try clear c7b0
        try clear c9
        try clear c9b0
        try clear c9b1
        try clear c10
        try clear c10b0
        try clear c11
        try clear c11b0
        try clear c11b1
        try clear c13
        try clear c13b0
        try clear c13b1
        try clear c14
        try clear c14b0
        try clear c14b1
        try clear c15
        try clear c15b0
        try clear p2
        try clear p3
        obtain ⟨kq, x1_11, rfl, HA, HJ11, ⟨mc11, rfl⟩⟩ := hcut
        cases kq with
        | zero => exact absurd HA.out (by simp [regexp_lazyFlag_match.j2])
        | succ kj11 =>
         have H := HA.out
         clear HA
         simp only [regexp_lazyFlag_match.j2] at H
         have HC16 := Aside0.mk H
         clear H
         go_upto_if 47 with (fail)
         go_cut [1] (fun v1 wc => ∃ (kq : Nat) (x1_15 : Int), v1 = .int .u8 x1_15 ∧ Aside0 (regexp_lazyFlag_match.j3 kq x1_15 (wrap32 (a0 / 4294967296)) (wrap32 (a0)) = some r) ∧ Aside0 (kq ≤ kj11) ∧ Drawn0 w wc)
         case first =>
          have H := HC16.out
          clear HC16
          by_cases c17 : (Go.bits .and .u8 x1_11 8) = 0
          ·rw [if_pos c17] at H
           have c17b0 : ((Go.bits .and .u8 x1_11 8) == 0) = true := beq_iff_eq.mpr c17
           have c17b1 : ((Go.bits .and .u8 x1_11 8) != 0) = false := bne_eq_false_iff_eq.mpr c17
           clear c17
           (first | rw [c17b0] | (simp only [i64_w, i32_w]; rw [c17b0]) | skip)
           have H' := Aside0.mk H
           clear H
           go_wp2
           go_meet
           case rel => exact ⟨_, (x1_11), (by first | rfl | (simp; done) | (simp [*]; done)), H', ⟨by have := HJ3.out; have := HJ7.out; have := HJ11.out; first | omega | exact Nat.le_refl _⟩, by repeat (first | exact Drawn0.refl _ | apply Drawn0.step)⟩
          ·rw [if_neg c17] at H
           have c17b0 : ((Go.bits .and .u8 x1_11 8) == 0) = false := beq_eq_false_iff_ne.mpr c17
           have c17b1 : ((Go.bits .and .u8 x1_11 8) != 0) = true := bne_iff_ne.mpr c17
           (first | rw [c17b0] | (simp only [i64_w, i32_w]; rw [c17b0]) | skip)
           by_cases c18 : (wrap32 (a0)) ≥ 0
           ·rw [if_pos c18] at H
            have c18b0 : decide (0 ≤ (wrap32 (a0))) = true := decide_eq_true c18
            clear c18
            obtain rfl := Option.some.inj H
            go_wp2
            go_ret
            exact ⟨by first | rfl | (simp; done) | (simp [*]; done), by repeat (first | exact Drawn0.refl _ | apply Drawn0.step)⟩
           ·rw [if_neg c18] at H
            have c18b0 : decide (0 ≤ (wrap32 (a0))) = false := decide_eq_false c18
            clear c18
            have H' := Aside0.mk H
            clear H
            go_wp2
            go_meet
            case rel => exact ⟨_, (Go.bits .andNot .u8 x1_11 8), (by first | rfl | (simp; done) | (simp [*]; done)), H', ⟨by have := HJ3.out; have := HJ7.out; have := HJ11.out; first | omega | exact Nat.le_refl _⟩, by repeat (first | exact Drawn0.refl _ | apply Drawn0.step)⟩
         case rest =>
          clear HC16
          try clear c1
          try clear p2
          try clear c3
          try clear c3b0
          try clear c3b1
          try clear p3
          try clear c5
          try clear c5b0
          try clear c5b1
          try clear c6
          try clear c6b0
          try clear c6b1
          try clear c7
          try clear c7b0
          try clear c9
          try clear c9b0
          try clear c9b1
          try clear c10
          try clear c10b0
          try clear c11
          try clear c11b0
          try clear c11b1
          try clear c13
          try clear c13b0
          try clear c13b1
          try clear c14
          try clear c14b0
          try clear c14b1
          try clear c15
          try clear c15b0
          try clear c17
          try clear c17b0
          try clear c17b1
          try clear c18
          try clear c18b0
          try clear p2
          try clear p3
          obtain ⟨kq, x1_15, rfl, HA, HJ15, ⟨mc15, rfl⟩⟩ := hcut
          cases kq with
          | zero => exact absurd HA.out (by simp [regexp_lazyFlag_match.j3])
          | succ kj15 =>
           have H := HA.out
           clear HA
           simp only [regexp_lazyFlag_match.j3] at H
           by_cases c19 : x1_15 = 0
           ·rw [if_pos c19] at H
            have c19b0 : (x1_15 == 0) = true := beq_iff_eq.mpr c19
            have c19b1 : (x1_15 != 0) = false := bne_eq_false_iff_eq.mpr c19
            clear c19
            obtain rfl := Option.some.inj H
            go_wp2
            go_ret
            exact ⟨by first | rfl | (simp; done) | (simp [*]; done), by repeat (first | exact Drawn0.refl _ | apply Drawn0.step)⟩
           ·rw [if_neg c19] at H
            have c19b0 : (x1_15 == 0) = false := beq_eq_false_iff_ne.mpr c19
            have c19b1 : (x1_15 != 0) = true := bne_iff_ne.mpr c19
            replace H := Option.bind_eq_some_iff.mp H
            obtain ⟨t187, A200, H⟩ := H
            replace H : ((regexpsyntax_IsWordChar.f (wrap32 (a0))).bind fun t188 => (if (t187 != t188) = true then (some ((Go.bits .andNot .u8 x1_15 16) == 0)) else (some ((Go.bits .andNot .u8 x1_15 32) == 0)))) = some r := H
            have A20 := Aside0.mk A200
            clear A200
            replace H := Option.bind_eq_some_iff.mp H
            obtain ⟨t188, A210, H⟩ := H
            replace H : (if (t187 != t188) = true then (some ((Go.bits .andNot .u8 x1_15 16) == 0)) else (some ((Go.bits .andNot .u8 x1_15 32) == 0))) = some r := H
            have A21 := Aside0.mk A210
            clear A210
            by_cases c22 : (t187 != t188) = true
            ·rw [if_pos c22] at H
             have c22b0 : (t187 != t188) = true := c22
             (try (have c22b1 : decide (t187 = t188) = false := by simpa using c22))
             (try (have c22b2 : (t187 == t188) = false := by simpa using c22))
             (try (have c22b3 : ¬ (t187 = t188) := by simpa using c22))
             clear c22
             obtain rfl := Option.some.inj H
             go_wp2_with (first | ((with_reducible refine gate_callee (f := 62) rfl ?_); refine goesL_ (some 55) rfl rfl Tryd.func62 (by kernel_rfl) rfl #[.int .i32 (wrap32 (a0 / 4294967296))] rfl (by (try simp only [List.map_toArray, List.map_cons, List.map_nil]); first | done | rfl | (simp only [List.length_drop, List.length_take]; rfl)) ?_; (with_reducible refine (regexpsyntax_IsWordChar.calls (wrap32 (a0 / 4294967296)) t187 _ A20.out).mono ?_); rintro e w' ⟨rfl, ⟨nd, rfl⟩⟩; refine ⟨_, rfl, ?_⟩) | ((with_reducible refine gate_callee (f := 62) rfl ?_); refine goesL_ (some 57) rfl rfl Tryd.func62 (by kernel_rfl) rfl #[.int .i32 (wrap32 (a0))] rfl (by (try simp only [List.map_toArray, List.map_cons, List.map_nil]); first | done | rfl | (simp only [List.length_drop, List.length_take]; rfl)) ?_; (with_reducible refine (regexpsyntax_IsWordChar.calls (wrap32 (a0)) t188 _ A21.out).mono ?_); rintro e w' ⟨rfl, ⟨nd, rfl⟩⟩; refine ⟨_, rfl, ?_⟩))
             go_ret
             exact ⟨by first | rfl | (simp; done) | (simp [*]; done), by repeat (first | exact Drawn0.refl _ | apply Drawn0.step)⟩
            ·rw [if_neg c22] at H
             have c22b0 : (t187 != t188) = false := by simpa using c22
             (try (have c22b1 : decide (t187 = t188) = true := by simpa using c22))
             (try (have c22b2 : (t187 == t188) = true := by simpa using c22))
             clear c22
             obtain rfl := Option.some.inj H
             go_wp2_with (first | ((with_reducible refine gate_callee (f := 62) rfl ?_); refine goesL_ (some 55) rfl rfl Tryd.func62 (by kernel_rfl) rfl #[.int .i32 (wrap32 (a0 / 4294967296))] rfl (by (try simp only [List.map_toArray, List.map_cons, List.map_nil]); first | done | rfl | (simp only [List.length_drop, List.length_take]; rfl)) ?_; (with_reducible refine (regexpsyntax_IsWordChar.calls (wrap32 (a0 / 4294967296)) t187 _ A20.out).mono ?_); rintro e w' ⟨rfl, ⟨nd, rfl⟩⟩; refine ⟨_, rfl, ?_⟩) | ((with_reducible refine gate_callee (f := 62) rfl ?_); refine goesL_ (some 57) rfl rfl Tryd.func62 (by kernel_rfl) rfl #[.int .i32 (wrap32 (a0))] rfl (by (try simp only [List.map_toArray, List.map_cons, List.map_nil]); first | done | rfl | (simp only [List.length_drop, List.length_take]; rfl)) ?_; (with_reducible refine (regexpsyntax_IsWordChar.calls (wrap32 (a0)) t188 _ A21.out).mono ?_); rintro e w' ⟨rfl, ⟨nd, rfl⟩⟩; refine ⟨_, rfl, ?_⟩))
             go_ret
             exact ⟨by first | rfl | (simp; done) | (simp [*]; done), by repeat (first | exact Drawn0.refl _ | apply Drawn0.step)⟩
def spec_reWord.f (a0 : Int) : Option (Bool) := if 97 ≤ a0 then (if a0 ≤ 122 then (some true) else (if 65 ≤ a0 then (if a0 ≤ 90 then (some true) else (if 48 ≤ a0 then (if a0 ≤ 57 then (some true) else (some (a0 == 95))) else (some (a0 == 95)))) else (if 48 ≤ a0 then (if a0 ≤ 57 then (some true) else (some (a0 == 95))) else (some (a0 == 95))))) else (if 65 ≤ a0 then (if a0 ≤ 90 then (some true) else (if 48 ≤ a0 then (if a0 ≤ 57 then (some true) else (some (a0 == 95))) else (some (a0 == 95)))) else (if 48 ≤ a0 then (if a0 ≤ 57 then (some true) else (some (a0 == 95))) else (some (a0 == 95))))
set_option maxHeartbeats 8000000 in
set_option maxRecDepth 100000 in
theorem spec_reWord.calls (a0 : Int) (r : Bool) (w : World) (h : spec_reWord.f a0 = some r) :
  Calls Tryd.prog 59 #[.int .i32 a0] w fun e w' => e = .returned (.bool r) ∧ Drawn0 w w' := by
 have H : (if 97 ≤ a0 then (if a0 ≤ 122 then (some true) else (if 65 ≤ a0 then (if a0 ≤ 90 then (some true) else (if 48 ≤ a0 then (if a0 ≤ 57 then (some true) else (some (a0 == 95))) else (some (a0 == 95)))) else (if 48 ≤ a0 then (if a0 ≤ 57 then (some true) else (some (a0 == 95))) else (some (a0 == 95))))) else (if 65 ≤ a0 then (if a0 ≤ 90 then (some true) else (if 48 ≤ a0 then (if a0 ≤ 57 then (some true) else (some (a0 == 95))) else (some (a0 == 95)))) else (if 48 ≤ a0 then (if a0 ≤ 57 then (some true) else (some (a0 == 95))) else (some (a0 == 95))))) = some r := h
 clear h
 by_cases c2 : 97 ≤ a0
 ·rw [if_pos c2] at H
  have c2b0 : decide (97 ≤ a0) = true := decide_eq_true c2
  clear c2
  by_cases c3 : a0 ≤ 122
  ·rw [if_pos c3] at H
   have c3b0 : decide (a0 ≤ 122) = true := decide_eq_true c3
   clear c3
   obtain rfl := Option.some.inj H
   go_enter Tryd.func59, Tryd.ntmps59
   go_wp2
   go_ret
   exact ⟨by first | rfl | (simp; done) | (simp [*]; done), by repeat (first | exact Drawn0.refl _ | apply Drawn0.step)⟩
  ·rw [if_neg c3] at H
   have c3b0 : decide (a0 ≤ 122) = false := decide_eq_false c3
   clear c3
   by_cases c4 : 65 ≤ a0
   ·rw [if_pos c4] at H
    have c4b0 : decide (65 ≤ a0) = true := decide_eq_true c4
    clear c4
    by_cases c5 : a0 ≤ 90
    ·rw [if_pos c5] at H
     have c5b0 : decide (a0 ≤ 90) = true := decide_eq_true c5
     clear c5
     obtain rfl := Option.some.inj H
     go_enter Tryd.func59, Tryd.ntmps59
     go_wp2
     go_ret
     exact ⟨by first | rfl | (simp; done) | (simp [*]; done), by repeat (first | exact Drawn0.refl _ | apply Drawn0.step)⟩
    ·rw [if_neg c5] at H
     have c5b0 : decide (a0 ≤ 90) = false := decide_eq_false c5
     clear c5
     by_cases c6 : 48 ≤ a0
     ·rw [if_pos c6] at H
      have c6b0 : decide (48 ≤ a0) = true := decide_eq_true c6
      clear c6
      by_cases c7 : a0 ≤ 57
      ·rw [if_pos c7] at H
       have c7b0 : decide (a0 ≤ 57) = true := decide_eq_true c7
       clear c7
       obtain rfl := Option.some.inj H
       go_enter Tryd.func59, Tryd.ntmps59
       go_wp2
       go_ret
       exact ⟨by first | rfl | (simp; done) | (simp [*]; done), by repeat (first | exact Drawn0.refl _ | apply Drawn0.step)⟩
      ·rw [if_neg c7] at H
       have c7b0 : decide (a0 ≤ 57) = false := decide_eq_false c7
       clear c7
       obtain rfl := Option.some.inj H
       go_enter Tryd.func59, Tryd.ntmps59
       go_wp2
       go_ret
       exact ⟨by first | rfl | (simp; done) | (simp [*]; done), by repeat (first | exact Drawn0.refl _ | apply Drawn0.step)⟩
     ·rw [if_neg c6] at H
      have c6b0 : decide (48 ≤ a0) = false := decide_eq_false c6
      clear c6
      obtain rfl := Option.some.inj H
      go_enter Tryd.func59, Tryd.ntmps59
      go_wp2
      go_ret
      exact ⟨by first | rfl | (simp; done) | (simp [*]; done), by repeat (first | exact Drawn0.refl _ | apply Drawn0.step)⟩
   ·rw [if_neg c4] at H
    have c4b0 : decide (65 ≤ a0) = false := decide_eq_false c4
    clear c4
    by_cases c8 : 48 ≤ a0
    ·rw [if_pos c8] at H
     have c8b0 : decide (48 ≤ a0) = true := decide_eq_true c8
     clear c8
     by_cases c9 : a0 ≤ 57
     ·rw [if_pos c9] at H
      have c9b0 : decide (a0 ≤ 57) = true := decide_eq_true c9
      clear c9
      obtain rfl := Option.some.inj H
      go_enter Tryd.func59, Tryd.ntmps59
      go_wp2
      go_ret
      exact ⟨by first | rfl | (simp; done) | (simp [*]; done), by repeat (first | exact Drawn0.refl _ | apply Drawn0.step)⟩
     ·rw [if_neg c9] at H
      have c9b0 : decide (a0 ≤ 57) = false := decide_eq_false c9
      clear c9
      obtain rfl := Option.some.inj H
      go_enter Tryd.func59, Tryd.ntmps59
      go_wp2
      go_ret
      exact ⟨by first | rfl | (simp; done) | (simp [*]; done), by repeat (first | exact Drawn0.refl _ | apply Drawn0.step)⟩
    ·rw [if_neg c8] at H
     have c8b0 : decide (48 ≤ a0) = false := decide_eq_false c8
     clear c8
     obtain rfl := Option.some.inj H
     go_enter Tryd.func59, Tryd.ntmps59
     go_wp2
     go_ret
     exact ⟨by first | rfl | (simp; done) | (simp [*]; done), by repeat (first | exact Drawn0.refl _ | apply Drawn0.step)⟩
 ·rw [if_neg c2] at H
  have c2b0 : decide (97 ≤ a0) = false := decide_eq_false c2
  clear c2
  by_cases c10 : 65 ≤ a0
  ·rw [if_pos c10] at H
   have c10b0 : decide (65 ≤ a0) = true := decide_eq_true c10
   clear c10
   by_cases c11 : a0 ≤ 90
   ·rw [if_pos c11] at H
    have c11b0 : decide (a0 ≤ 90) = true := decide_eq_true c11
    clear c11
    obtain rfl := Option.some.inj H
    go_enter Tryd.func59, Tryd.ntmps59
    go_wp2
    go_ret
    exact ⟨by first | rfl | (simp; done) | (simp [*]; done), by repeat (first | exact Drawn0.refl _ | apply Drawn0.step)⟩
   ·rw [if_neg c11] at H
    have c11b0 : decide (a0 ≤ 90) = false := decide_eq_false c11
    clear c11
    by_cases c12 : 48 ≤ a0
    ·rw [if_pos c12] at H
     have c12b0 : decide (48 ≤ a0) = true := decide_eq_true c12
     clear c12
     by_cases c13 : a0 ≤ 57
     ·rw [if_pos c13] at H
      have c13b0 : decide (a0 ≤ 57) = true := decide_eq_true c13
      clear c13
      obtain rfl := Option.some.inj H
      go_enter Tryd.func59, Tryd.ntmps59
      go_wp2
      go_ret
      exact ⟨by first | rfl | (simp; done) | (simp [*]; done), by repeat (first | exact Drawn0.refl _ | apply Drawn0.step)⟩
     ·rw [if_neg c13] at H
      have c13b0 : decide (a0 ≤ 57) = false := decide_eq_false c13
      clear c13
      obtain rfl := Option.some.inj H
      go_enter Tryd.func59, Tryd.ntmps59
      go_wp2
      go_ret
      exact ⟨by first | rfl | (simp; done) | (simp [*]; done), by repeat (first | exact Drawn0.refl _ | apply Drawn0.step)⟩
    ·rw [if_neg c12] at H
     have c12b0 : decide (48 ≤ a0) = false := decide_eq_false c12
     clear c12
     obtain rfl := Option.some.inj H
     go_enter Tryd.func59, Tryd.ntmps59
     go_wp2
     go_ret
     exact ⟨by first | rfl | (simp; done) | (simp [*]; done), by repeat (first | exact Drawn0.refl _ | apply Drawn0.step)⟩
  ·rw [if_neg c10] at H
   have c10b0 : decide (65 ≤ a0) = false := decide_eq_false c10
   clear c10
   by_cases c14 : 48 ≤ a0
   ·rw [if_pos c14] at H
    have c14b0 : decide (48 ≤ a0) = true := decide_eq_true c14
    clear c14
    by_cases c15 : a0 ≤ 57
    ·rw [if_pos c15] at H
     have c15b0 : decide (a0 ≤ 57) = true := decide_eq_true c15
     clear c15
     obtain rfl := Option.some.inj H
     go_enter Tryd.func59, Tryd.ntmps59
     go_wp2
     go_ret
     exact ⟨by first | rfl | (simp; done) | (simp [*]; done), by repeat (first | exact Drawn0.refl _ | apply Drawn0.step)⟩
    ·rw [if_neg c15] at H
     have c15b0 : decide (a0 ≤ 57) = false := decide_eq_false c15
     clear c15
     obtain rfl := Option.some.inj H
     go_enter Tryd.func59, Tryd.ntmps59
     go_wp2
     go_ret
     exact ⟨by first | rfl | (simp; done) | (simp [*]; done), by repeat (first | exact Drawn0.refl _ | apply Drawn0.step)⟩
   ·rw [if_neg c14] at H
    have c14b0 : decide (48 ≤ a0) = false := decide_eq_false c14
    clear c14
    obtain rfl := Option.some.inj H
    go_enter Tryd.func59, Tryd.ntmps59
    go_wp2
    go_ret
    exact ⟨by first | rfl | (simp; done) | (simp [*]; done), by repeat (first | exact Drawn0.refl _ | apply Drawn0.step)⟩
end Go.Proofs.YtmccgfjhmbioeaaDoor.PFnPgThreads
