import Derived.Test.YtmccgfjhmbioeaaDoorPFnPgThreadsy0
import Derived.Test.YtmccgfjhmbioeaaDoorPFnPgThreadsy8
namespace Go.Proofs.YtmccgfjhmbioeaaDoor.PFnPgThreads
open Go.RowKit Go.Proofs.YtmccgfjhmbioeaaDoorW.PrintWords Go.Proofs.YtmccgfjhmbioeaaDoorW.PrintLast Go.Proofs.YtmccgfjhmbioeaaDoorW.PrintMore
attribute [local go_sem] max2_int min2_int max_two min_two max_three min_three max_four min_four
set_option linter.unusedVariables false
set_option linter.unusedSimpArgs false
mutual
def spec_CondBetween.j0 : Nat → Int → Int → Int → Option (Int)
 | 0, _, _, _ => none
 | k + 1, x0, x1, x5 => if x0 = (-1) then (spec_CondBetween.j1 k x0 x1 x5 true) else (spec_CondBetween.j1 k x0 x1 x5 (x0 == 10))
def spec_CondBetween.j1 : Nat → Int → Int → Int → Bool → Option (Int)
 | 0, _, _, _, _ => none
 | k + 1, x0, x1, x5, x15 => if x15 = true then (spec_CondBetween.j2 k x0 x1 (Go.bits .or .i64 x5 1)) else (spec_CondBetween.j2 k x0 x1 x5)
def spec_CondBetween.j2 : Nat → Int → Int → Int → Option (Int)
 | 0, _, _, _ => none
 | k + 1, x0, x1, x5 => if x1 = (-1) then (spec_CondBetween.j3 k x0 x1 (Go.bits .or .i64 x5 8)) else (spec_CondBetween.j3 k x0 x1 x5)
def spec_CondBetween.j3 : Nat → Int → Int → Int → Option (Int)
 | 0, _, _, _ => none
 | k + 1, x0, x1, x5 => if x1 = (-1) then (spec_CondBetween.j4 k x0 x1 x5 true) else (spec_CondBetween.j4 k x0 x1 x5 (x1 == 10))
def spec_CondBetween.j4 : Nat → Int → Int → Int → Bool → Option (Int)
 | 0, _, _, _, _ => none
 | k + 1, x0, x1, x5, x27 => if x27 = true then (spec_CondBetween.j5 k x0 x1 (Go.bits .or .i64 x5 2)) else (spec_CondBetween.j5 k x0 x1 x5)
def spec_CondBetween.j5 : Nat → Int → Int → Int → Option (Int)
 | 0, _, _, _ => none
 | k + 1, x0, x1, x5 => (spec_reWord.f x0).bind fun t191 => ((spec_reWord.f x1).bind fun t192 => (if (t191 != t192) = true then (some (Go.bits .or .i64 x5 16)) else (some (Go.bits .or .i64 x5 32))))
end
def spec_CondBetween.f (k : Nat) (a0 : Int) (a1 : Int) : Option (Int) := if a0 = (-1) then (spec_CondBetween.j0 k a0 a1 (Go.bits .or .i64 0 4)) else (spec_CondBetween.j0 k a0 a1 0)
theorem spec_CondBetween.mono_l : ∀ k, (∀ y0 y1 y2, LeO (spec_CondBetween.j0 k y0 y1 y2) (spec_CondBetween.j0 (k + 1) y0 y1 y2)) ∧ (∀ y0 y1 y2 y3, LeO (spec_CondBetween.j1 k y0 y1 y2 y3) (spec_CondBetween.j1 (k + 1) y0 y1 y2 y3)) ∧ (∀ y0 y1 y2, LeO (spec_CondBetween.j2 k y0 y1 y2) (spec_CondBetween.j2 (k + 1) y0 y1 y2)) ∧ (∀ y0 y1 y2, LeO (spec_CondBetween.j3 k y0 y1 y2) (spec_CondBetween.j3 (k + 1) y0 y1 y2)) ∧ (∀ y0 y1 y2 y3, LeO (spec_CondBetween.j4 k y0 y1 y2 y3) (spec_CondBetween.j4 (k + 1) y0 y1 y2 y3)) ∧ (∀ y0 y1 y2, LeO (spec_CondBetween.j5 k y0 y1 y2) (spec_CondBetween.j5 (k + 1) y0 y1 y2))
 | 0 => ⟨fun _ _ _ r h => by simp [spec_CondBetween.j0] at h, fun _ _ _ _ r h => by simp [spec_CondBetween.j1] at h, fun _ _ _ r h => by simp [spec_CondBetween.j2] at h, fun _ _ _ r h => by simp [spec_CondBetween.j3] at h, fun _ _ _ _ r h => by simp [spec_CondBetween.j4] at h, fun _ _ _ r h => by simp [spec_CondBetween.j5] at h⟩
 | k + 1 => by
  obtain ⟨ih0, ih1, ih2, ih3, ih4, ih5⟩ := spec_CondBetween.mono_l k
  refine ⟨?_, ?_, ?_, ?_, ?_, ?_⟩
  ·intro y0 y1 y2
   unfold spec_CondBetween.j0
   repeat' first
   | (with_reducible exact ih0 _ _ _)
   | (with_reducible exact ih1 _ _ _ _)
   | (with_reducible exact ih2 _ _ _)
   | (with_reducible exact ih3 _ _ _)
   | (with_reducible exact ih4 _ _ _ _)
   | (with_reducible exact ih5 _ _ _)
   | (with_reducible exact LeO.refl _)
   | (with_reducible exact LeO.none _)
   | (with_reducible refine LeO.ite ?_ ?_)
   | (with_reducible refine LeO.bind ?_ (fun _ => ?_))
   | exact ih0 _ _ _
   | exact ih1 _ _ _ _
   | exact ih2 _ _ _
   | exact ih3 _ _ _
   | exact ih4 _ _ _ _
   | exact ih5 _ _ _
   | exact LeO.none _
   | refine LeO.ite ?_ ?_
   | refine LeO.bind ?_ (fun _ => ?_)
  ·intro y0 y1 y2 y3
   unfold spec_CondBetween.j1
   repeat' first
   | (with_reducible exact ih0 _ _ _)
   | (with_reducible exact ih1 _ _ _ _)
   | (with_reducible exact ih2 _ _ _)
   | (with_reducible exact ih3 _ _ _)
   | (with_reducible exact ih4 _ _ _ _)
   | (with_reducible exact ih5 _ _ _)
   | (with_reducible exact LeO.refl _)
   | (with_reducible exact LeO.none _)
   | (with_reducible refine LeO.ite ?_ ?_)
   | (with_reducible refine LeO.bind ?_ (fun _ => ?_))
   | exact ih0 _ _ _
   | exact ih1 _ _ _ _
   | exact ih2 _ _ _
   | exact ih3 _ _ _
   | exact ih4 _ _ _ _
   | exact ih5 _ _ _
   | exact LeO.none _
   | refine LeO.ite ?_ ?_
   | refine LeO.bind ?_ (fun _ => ?_)
  ·intro y0 y1 y2
   unfold spec_CondBetween.j2
   repeat' first
   | (with_reducible exact ih0 _ _ _)
   | (with_reducible exact ih1 _ _ _ _)
   | (with_reducible exact ih2 _ _ _)
   | (with_reducible exact ih3 _ _ _)
   | (with_reducible exact ih4 _ _ _ _)
   | (with_reducible exact ih5 _ _ _)
   | (with_reducible exact LeO.refl _)
   | (with_reducible exact LeO.none _)
   | (with_reducible refine LeO.ite ?_ ?_)
   | (with_reducible refine LeO.bind ?_ (fun _ => ?_))
   | exact ih0 _ _ _
   | exact ih1 _ _ _ _
   | exact ih2 _ _ _
   | exact ih3 _ _ _
   | exact ih4 _ _ _ _
   | exact ih5 _ _ _
   | exact LeO.none _
   | refine LeO.ite ?_ ?_
   | refine LeO.bind ?_ (fun _ => ?_)
  ·intro y0 y1 y2
   unfold spec_CondBetween.j3
   repeat' first
   | (with_reducible exact ih0 _ _ _)
   | (with_reducible exact ih1 _ _ _ _)
   | (with_reducible exact ih2 _ _ _)
   | (with_reducible exact ih3 _ _ _)
   | (with_reducible exact ih4 _ _ _ _)
   | (with_reducible exact ih5 _ _ _)
   | (with_reducible exact LeO.refl _)
   | (with_reducible exact LeO.none _)
   | (with_reducible refine LeO.ite ?_ ?_)
   | (with_reducible refine LeO.bind ?_ (fun _ => ?_))
   | exact ih0 _ _ _
   | exact ih1 _ _ _ _
   | exact ih2 _ _ _
   | exact ih3 _ _ _
   | exact ih4 _ _ _ _
   | exact ih5 _ _ _
   | exact LeO.none _
   | refine LeO.ite ?_ ?_
   | refine LeO.bind ?_ (fun _ => ?_)
  ·intro y0 y1 y2 y3
   unfold spec_CondBetween.j4
   repeat' first
   | (with_reducible exact ih0 _ _ _)
   | (with_reducible exact ih1 _ _ _ _)
   | (with_reducible exact ih2 _ _ _)
   | (with_reducible exact ih3 _ _ _)
   | (with_reducible exact ih4 _ _ _ _)
   | (with_reducible exact ih5 _ _ _)
   | (with_reducible exact LeO.refl _)
   | (with_reducible exact LeO.none _)
   | (with_reducible refine LeO.ite ?_ ?_)
   | (with_reducible refine LeO.bind ?_ (fun _ => ?_))
   | exact ih0 _ _ _
   | exact ih1 _ _ _ _
   | exact ih2 _ _ _
   | exact ih3 _ _ _
   | exact ih4 _ _ _ _
   | exact ih5 _ _ _
   | exact LeO.none _
   | refine LeO.ite ?_ ?_
   | refine LeO.bind ?_ (fun _ => ?_)
  ·intro y0 y1 y2
   unfold spec_CondBetween.j5
   repeat' first
   | (with_reducible exact ih0 _ _ _)
   | (with_reducible exact ih1 _ _ _ _)
   | (with_reducible exact ih2 _ _ _)
   | (with_reducible exact ih3 _ _ _)
   | (with_reducible exact ih4 _ _ _ _)
   | (with_reducible exact ih5 _ _ _)
   | (with_reducible exact LeO.refl _)
   | (with_reducible exact LeO.none _)
   | (with_reducible refine LeO.ite ?_ ?_)
   | (with_reducible refine LeO.bind ?_ (fun _ => ?_))
   | exact ih0 _ _ _
   | exact ih1 _ _ _ _
   | exact ih2 _ _ _
   | exact ih3 _ _ _
   | exact ih4 _ _ _ _
   | exact ih5 _ _ _
   | exact LeO.none _
   | refine LeO.ite ?_ ?_
   | refine LeO.bind ?_ (fun _ => ?_)
theorem spec_CondBetween.mono : ∀ a0 a1 k, LeO (spec_CondBetween.f k a0 a1) (spec_CondBetween.f (k + 1) a0 a1) := by
 intro a0 a1 k
 obtain ⟨ih0, ih1, ih2, ih3, ih4, ih5⟩ := spec_CondBetween.mono_l k
 unfold spec_CondBetween.f
 repeat' first
   | (with_reducible exact ih0 _ _ _)
   | (with_reducible exact ih1 _ _ _ _)
   | (with_reducible exact ih2 _ _ _)
   | (with_reducible exact ih3 _ _ _)
   | (with_reducible exact ih4 _ _ _ _)
   | (with_reducible exact ih5 _ _ _)
   | (with_reducible exact LeO.refl _)
   | (with_reducible exact LeO.none _)
   | (with_reducible refine LeO.ite ?_ ?_)
   | (with_reducible refine LeO.bind ?_ (fun _ => ?_))
   | exact ih0 _ _ _
   | exact ih1 _ _ _ _
   | exact ih2 _ _ _
   | exact ih3 _ _ _
   | exact ih4 _ _ _ _
   | exact ih5 _ _ _
   | exact LeO.none _
   | refine LeO.ite ?_ ?_
   | refine LeO.bind ?_ (fun _ => ?_)
set_option maxHeartbeats 8000000 in
set_option maxRecDepth 100000 in
theorem spec_CondBetween.calls (k : Nat) (a0 : Int) (a1 : Int) (r : Int) (w : World) (h : spec_CondBetween.f k a0 a1 = some r) :
  Calls Tryd.prog 48 #[.int .i32 a0, .int .i32 a1] w fun e w' => e = .returned (.int .i64 r) ∧ Drawn0 w w' := by
 have H : (if a0 = (-1) then (spec_CondBetween.j0 k a0 a1 (Go.bits .or .i64 0 4)) else (spec_CondBetween.j0 k a0 a1 0)) = some r := h
 clear h
 have HC3 := Aside0.mk H
 clear H
 go_enter Tryd.func48, Tryd.ntmps48
 go_upto_if 7 with (fail)
 go_cut [5] (fun v5 wc => ∃ (kq : Nat) (x5_2 : Int), v5 = .int .i64 x5_2 ∧ Aside0 (spec_CondBetween.j0 kq a0 a1 x5_2 = some r) ∧ Aside0 (kq ≤ k) ∧ Drawn0 w wc)
 case first =>
  have H := HC3.out
  clear HC3
  by_cases c4 : a0 = (-1)
  ·rw [if_pos c4] at H
   have c4b0 : (a0 == (-1)) = true := beq_iff_eq.mpr c4
   have c4b1 : (a0 != (-1)) = false := bne_eq_false_iff_eq.mpr c4
   clear c4
   (first | rw [c4b0] | (simp only [i64_w, i32_w]; rw [c4b0]) | skip)
   have H' := Aside0.mk H
   clear H
   go_wp2
   go_meet
   case rel => exact ⟨_, (Go.bits .or .i64 0 4), (by first | rfl | (simp; done) | (simp [*]; done)), H', ⟨by first | omega | exact Nat.le_refl _⟩, by repeat (first | exact Drawn0.refl _ | apply Drawn0.step)⟩
  ·rw [if_neg c4] at H
   have c4b0 : (a0 == (-1)) = false := beq_eq_false_iff_ne.mpr c4
   have c4b1 : (a0 != (-1)) = true := bne_iff_ne.mpr c4
   (first | rw [c4b0] | (simp only [i64_w, i32_w]; rw [c4b0]) | skip)
   have H' := Aside0.mk H
   clear H
   go_wp2
   go_meet
   case rel => exact ⟨_, (0), (by first | rfl | (simp; done) | (simp [*]; done)), H', ⟨by first | omega | exact Nat.le_refl _⟩, by repeat (first | exact Drawn0.refl _ | apply Drawn0.step)⟩
 case rest =>
  clear HC3
  try clear p2
  try clear c4
  try clear c4b0
  try clear c4b1
  obtain ⟨kq, x5_2, rfl, HA, HJ2, ⟨mc2, rfl⟩⟩ := hcut
  cases kq with
  | zero => exact absurd HA.out (by simp [spec_CondBetween.j0])
  | succ kj2 =>
   have H := HA.out
   clear HA
   simp only [spec_CondBetween.j0] at H
   have HC5 := Aside0.mk H
   clear H
   go_upto_region 4 with (fail)
   go_cut [15] (fun v15 wc => ∃ (kq : Nat) (x15_4 : Bool), v15 = .bool x15_4 ∧ Aside0 (spec_CondBetween.j1 kq a0 a1 x5_2 x15_4 = some r) ∧ Aside0 (kq ≤ kj2) ∧ Drawn0 w wc)
   case first =>
    have H := HC5.out
    clear HC5
    by_cases c6 : a0 = (-1)
    ·rw [if_pos c6] at H
     have c6b0 : (a0 == (-1)) = true := beq_iff_eq.mpr c6
     have c6b1 : (a0 != (-1)) = false := bne_eq_false_iff_eq.mpr c6
     clear c6
     (first | rw [c6b0] | (simp only [i64_w, i32_w]; rw [c6b0]) | skip)
     have H' := Aside0.mk H
     clear H
     go_wp2
     go_meet
     case rel => exact ⟨_, (true), (by first | rfl | (simp; done) | (simp [*]; done)), H', ⟨by have := HJ2.out; first | omega | exact Nat.le_refl _⟩, by repeat (first | exact Drawn0.refl _ | apply Drawn0.step)⟩
    ·rw [if_neg c6] at H
     have c6b0 : (a0 == (-1)) = false := beq_eq_false_iff_ne.mpr c6
     have c6b1 : (a0 != (-1)) = true := bne_iff_ne.mpr c6
     (first | rw [c6b0] | (simp only [i64_w, i32_w]; rw [c6b0]) | skip)
     have H' := Aside0.mk H
     clear H
     go_wp2
     go_meet
     case rel => exact ⟨_, ((a0 == 10)), (by first | rfl | (simp; done) | (simp [*]; done)), H', ⟨by have := HJ2.out; first | omega | exact Nat.le_refl _⟩, by repeat (first | exact Drawn0.refl _ | apply Drawn0.step)⟩
   case rest =>
    clear HC5
    try clear c2
    try clear p2
    try clear c4
    try clear c4b0
    try clear c4b1
    try clear c6
    try clear c6b0
    try clear c6b1
    try clear p2
    obtain ⟨kq, x15_4, rfl, HA, HJ4, ⟨mc4, rfl⟩⟩ := hcut
    cases kq with
    | zero => exact absurd HA.out (by simp [spec_CondBetween.j1])
    | succ kj4 =>
     have H := HA.out
     clear HA
     simp only [spec_CondBetween.j1] at H
     have HC7 := Aside0.mk H
     clear H
     go_upto_if 15 with (fail)
     go_cut [5] (fun v5 wc => ∃ (kq : Nat) (x5_6 : Int), v5 = .int .i64 x5_6 ∧ Aside0 (spec_CondBetween.j2 kq a0 a1 x5_6 = some r) ∧ Aside0 (kq ≤ kj4) ∧ Drawn0 w wc)
     case first =>
      have H := HC7.out
      clear HC7
      by_cases c8 : x15_4 = true
      ·subst c8
       have H1 : (spec_CondBetween.j2 kj4 a0 a1 (Go.bits .or .i64 x5_2 1)) = some r := by rw [if_pos rfl] at H; exact H
       clear H
       have H := H1
       clear H1
       have H' := Aside0.mk H
       clear H
       go_wp2
       go_meet
       case rel => exact ⟨_, (Go.bits .or .i64 x5_2 1), (by first | rfl | (simp; done) | (simp [*]; done)), H', ⟨by have := HJ2.out; have := HJ4.out; first | omega | exact Nat.le_refl _⟩, by repeat (first | exact Drawn0.refl _ | apply Drawn0.step)⟩
      ·replace c8 := Bool.eq_false_iff.mpr c8
       subst c8
       have H1 : (spec_CondBetween.j2 kj4 a0 a1 x5_2) = some r := by rw [if_neg (show ¬ (false = true) by decide)] at H; exact H
       clear H
       have H := H1
       clear H1
       have H' := Aside0.mk H
       clear H
       go_wp2
       go_meet
       case rel => exact ⟨_, (x5_2), (by first | rfl | (simp; done) | (simp [*]; done)), H', ⟨by have := HJ2.out; have := HJ4.out; first | omega | exact Nat.le_refl _⟩, by repeat (first | exact Drawn0.refl _ | apply Drawn0.step)⟩
     case rest =>
      clear HC7
      try clear c2
      try clear p2
      try clear c4
      try clear c4b0
      try clear c4b1
      try clear c6
      try clear c6b0
      try clear c6b1
      try clear c8
      try clear p2
      obtain ⟨kq, x5_6, rfl, HA, HJ6, ⟨mc6, rfl⟩⟩ := hcut
      cases kq with
      | zero => exact absurd HA.out (by simp [spec_CondBetween.j2])
      | succ kj6 =>
       have H := HA.out
       clear HA
       simp only [spec_CondBetween.j2] at H
       have HC9 := Aside0.mk H
       clear H
       go_upto_if 19 with (fail)
       go_cut [5] (fun v5 wc => ∃ (kq : Nat) (x5_8 : Int), v5 = .int .i64 x5_8 ∧ Aside0 (spec_CondBetween.j3 kq a0 a1 x5_8 = some r) ∧ Aside0 (kq ≤ kj6) ∧ Drawn0 w wc)
       case first =>
        have H := HC9.out
        clear HC9
        by_cases c10 : a1 = (-1)
        ·rw [if_pos c10] at H
         have c10b0 : (a1 == (-1)) = true := beq_iff_eq.mpr c10
         have c10b1 : (a1 != (-1)) = false := bne_eq_false_iff_eq.mpr c10
         clear c10
         (first | rw [c10b0] | (simp only [i64_w, i32_w]; rw [c10b0]) | skip)
         have H' := Aside0.mk H
         clear H
         go_wp2
         go_meet
         case rel => exact ⟨_, (Go.bits .or .i64 x5_6 8), (by first | rfl | (simp; done) | (simp [*]; done)), H', ⟨by have := HJ2.out; have := HJ4.out; have := HJ6.out; first | omega | exact Nat.le_refl _⟩, by repeat (first | exact Drawn0.refl _ | apply Drawn0.step)⟩
        ·rw [if_neg c10] at H
         have c10b0 : (a1 == (-1)) = false := beq_eq_false_iff_ne.mpr c10
         have c10b1 : (a1 != (-1)) = true := bne_iff_ne.mpr c10
         (first | rw [c10b0] | (simp only [i64_w, i32_w]; rw [c10b0]) | skip)
         have H' := Aside0.mk H
         clear H
         go_wp2
         go_meet
         case rel => exact ⟨_, (x5_6), (by first | rfl | (simp; done) | (simp [*]; done)), H', ⟨by have := HJ2.out; have := HJ4.out; have := HJ6.out; first | omega | exact Nat.le_refl _⟩, by repeat (first | exact Drawn0.refl _ | apply Drawn0.step)⟩
       case rest =>
        clear HC9
        try clear c1
        try clear c2
        try clear p2
        try clear c4
        try clear c4b0
        try clear c4b1
        try clear c6
        try clear c6b0
        try clear c6b1
        try clear c8
        try clear c10
        try clear c10b0
        try clear c10b1
        try clear p2
        obtain ⟨kq, x5_8, rfl, HA, HJ8, ⟨mc8, rfl⟩⟩ := hcut
        cases kq with
        | zero => exact absurd HA.out (by simp [spec_CondBetween.j3])
        | succ kj8 =>
         have H := HA.out
         clear HA
         simp only [spec_CondBetween.j3] at H
         have HC11 := Aside0.mk H
         clear H
         go_upto_region 8 with (fail)
         go_cut [27] (fun v27 wc => ∃ (kq : Nat) (x27_10 : Bool), v27 = .bool x27_10 ∧ Aside0 (spec_CondBetween.j4 kq a0 a1 x5_8 x27_10 = some r) ∧ Aside0 (kq ≤ kj8) ∧ Drawn0 w wc)
         case first =>
          have H := HC11.out
          clear HC11
          by_cases c12 : a1 = (-1)
          ·rw [if_pos c12] at H
           have c12b0 : (a1 == (-1)) = true := beq_iff_eq.mpr c12
           have c12b1 : (a1 != (-1)) = false := bne_eq_false_iff_eq.mpr c12
           clear c12
           (first | rw [c12b0] | (simp only [i64_w, i32_w]; rw [c12b0]) | skip)
           have H' := Aside0.mk H
           clear H
           go_wp2
           go_meet
           case rel => exact ⟨_, (true), (by first | rfl | (simp; done) | (simp [*]; done)), H', ⟨by have := HJ2.out; have := HJ4.out; have := HJ6.out; have := HJ8.out; first | omega | exact Nat.le_refl _⟩, by repeat (first | exact Drawn0.refl _ | apply Drawn0.step)⟩
          ·rw [if_neg c12] at H
           have c12b0 : (a1 == (-1)) = false := beq_eq_false_iff_ne.mpr c12
           have c12b1 : (a1 != (-1)) = true := bne_iff_ne.mpr c12
           (first | rw [c12b0] | (simp only [i64_w, i32_w]; rw [c12b0]) | skip)
           have H' := Aside0.mk H
           clear H
           go_wp2
           go_meet
           case rel => exact ⟨_, ((a1 == 10)), (by first | rfl | (simp; done) | (simp [*]; done)), H', ⟨by have := HJ2.out; have := HJ4.out; have := HJ6.out; have := HJ8.out; first | omega | exact Nat.le_refl _⟩, by repeat (first | exact Drawn0.refl _ | apply Drawn0.step)⟩
         case rest =>
          clear HC11
          try clear c1
          try clear c2
          try clear p2
          try clear c4
          try clear c4b0
          try clear c4b1
          try clear c6
          try clear c6b0
          try clear c6b1
          try clear c8
          try clear c10
          try clear c10b0
          try clear c10b1
          try clear c12
          try clear c12b0
          try clear c12b1
          try clear p2
          obtain ⟨kq, x27_10, rfl, HA, HJ10, ⟨mc10, rfl⟩⟩ := hcut
          cases kq with
          | zero => exact absurd HA.out (by simp [spec_CondBetween.j4])
          | succ kj10 =>
           have H := HA.out
           clear HA
           simp only [spec_CondBetween.j4] at H
           have HC13 := Aside0.mk H
           clear H
           go_upto_if 27 with (fail)
           go_cut [5] (fun v5 wc => ∃ (kq : Nat) (x5_12 : Int), v5 = .int .i64 x5_12 ∧ Aside0 (spec_CondBetween.j5 kq a0 a1 x5_12 = some r) ∧ Aside0 (kq ≤ kj10) ∧ Drawn0 w wc)
           case first =>
            have H := HC13.out
            clear HC13
            by_cases c14 : x27_10 = true
            ·subst c14
             have H1 : (spec_CondBetween.j5 kj10 a0 a1 (Go.bits .or .i64 x5_8 2)) = some r := by rw [if_pos rfl] at H; exact H
             clear H
             have H := H1
             clear H1
             have H' := Aside0.mk H
             clear H
             go_wp2
             go_meet
             case rel => exact ⟨_, (Go.bits .or .i64 x5_8 2), (by first | rfl | (simp; done) | (simp [*]; done)), H', ⟨by have := HJ2.out; have := HJ4.out; have := HJ6.out; have := HJ8.out; have := HJ10.out; first | omega | exact Nat.le_refl _⟩, by repeat (first | exact Drawn0.refl _ | apply Drawn0.step)⟩
            ·replace c14 := Bool.eq_false_iff.mpr c14
             subst c14
             have H1 : (spec_CondBetween.j5 kj10 a0 a1 x5_8) = some r := by rw [if_neg (show ¬ (false = true) by decide)] at H; exact H
             clear H
             have H := H1
             clear H1
             have H' := Aside0.mk H
             clear H
             go_wp2
             go_meet
             case rel => exact ⟨_, (x5_8), (by first | rfl | (simp; done) | (simp [*]; done)), H', ⟨by have := HJ2.out; have := HJ4.out; have := HJ6.out; have := HJ8.out; have := HJ10.out; first | omega | exact Nat.le_refl _⟩, by repeat (first | exact Drawn0.refl _ | apply Drawn0.step)⟩
           case rest =>
            clear HC13
            try clear c1
            try clear c2
            try clear p2
            try clear c4
            try clear c4b0
            try clear c4b1
            try clear c6
            try clear c6b0
            try clear c6b1
            try clear c8
            try clear c10
            try clear c10b0
            try clear c10b1
            try clear c12
            try clear c12b0
            try clear c12b1
            try clear c14
            try clear p2
            obtain ⟨kq, x5_12, rfl, HA, HJ12, ⟨mc12, rfl⟩⟩ := hcut
            cases kq with
            | zero => exact absurd HA.out (by simp [spec_CondBetween.j5])
            | succ kj12 =>
             have H := HA.out
             clear HA
             simp only [spec_CondBetween.j5] at H
             replace H := Option.bind_eq_some_iff.mp H
             obtain ⟨t191, A150, H⟩ := H
             replace H : ((spec_reWord.f a1).bind fun t192 => (if (t191 != t192) = true then (some (Go.bits .or .i64 x5_12 16)) else (some (Go.bits .or .i64 x5_12 32)))) = some r := H
             have A15 := Aside0.mk A150
             clear A150
             replace H := Option.bind_eq_some_iff.mp H
             obtain ⟨t192, A160, H⟩ := H
             replace H : (if (t191 != t192) = true then (some (Go.bits .or .i64 x5_12 16)) else (some (Go.bits .or .i64 x5_12 32))) = some r := H
             have A16 := Aside0.mk A160
             clear A160
             by_cases c17 : (t191 != t192) = true
             ·rw [if_pos c17] at H
              have c17b0 : (t191 != t192) = true := c17
              (try (have c17b1 : decide (t191 = t192) = false := by simpa using c17))
              (try (have c17b2 : (t191 == t192) = false := by simpa using c17))
              (try (have c17b3 : ¬ (t191 = t192) := by simpa using c17))
              clear c17
              obtain rfl := Option.some.inj H
              go_wp2_with (first | ((with_reducible refine gate_callee (f := 59) rfl ?_); refine goesL_ (some 31) rfl rfl Tryd.func59 (by kernel_rfl) rfl #[.int .i32 a0] rfl (by (try simp only [List.map_toArray, List.map_cons, List.map_nil]); first | done | rfl | (simp only [List.length_drop, List.length_take]; rfl)) ?_; (with_reducible refine (spec_reWord.calls a0 t191 _ A15.out).mono ?_); rintro e w' ⟨rfl, ⟨nd, rfl⟩⟩; refine ⟨_, rfl, ?_⟩) | ((with_reducible refine gate_callee (f := 59) rfl ?_); refine goesL_ (some 33) rfl rfl Tryd.func59 (by kernel_rfl) rfl #[.int .i32 a1] rfl (by (try simp only [List.map_toArray, List.map_cons, List.map_nil]); first | done | rfl | (simp only [List.length_drop, List.length_take]; rfl)) ?_; (with_reducible refine (spec_reWord.calls a1 t192 _ A16.out).mono ?_); rintro e w' ⟨rfl, ⟨nd, rfl⟩⟩; refine ⟨_, rfl, ?_⟩))
              go_ret
              exact ⟨by first | rfl | (simp; done) | (simp [*]; done), by repeat (first | exact Drawn0.refl _ | apply Drawn0.step)⟩
             ·rw [if_neg c17] at H
              have c17b0 : (t191 != t192) = false := by simpa using c17
              (try (have c17b1 : decide (t191 = t192) = true := by simpa using c17))
              (try (have c17b2 : (t191 == t192) = true := by simpa using c17))
              clear c17
              obtain rfl := Option.some.inj H
              go_wp2_with (first | ((with_reducible refine gate_callee (f := 59) rfl ?_); refine goesL_ (some 31) rfl rfl Tryd.func59 (by kernel_rfl) rfl #[.int .i32 a0] rfl (by (try simp only [List.map_toArray, List.map_cons, List.map_nil]); first | done | rfl | (simp only [List.length_drop, List.length_take]; rfl)) ?_; (with_reducible refine (spec_reWord.calls a0 t191 _ A15.out).mono ?_); rintro e w' ⟨rfl, ⟨nd, rfl⟩⟩; refine ⟨_, rfl, ?_⟩) | ((with_reducible refine gate_callee (f := 59) rfl ?_); refine goesL_ (some 33) rfl rfl Tryd.func59 (by kernel_rfl) rfl #[.int .i32 a1] rfl (by (try simp only [List.map_toArray, List.map_cons, List.map_nil]); first | done | rfl | (simp only [List.length_drop, List.length_take]; rfl)) ?_; (with_reducible refine (spec_reWord.calls a1 t192 _ A16.out).mono ?_); rintro e w' ⟨rfl, ⟨nd, rfl⟩⟩; refine ⟨_, rfl, ?_⟩))
              go_ret
              exact ⟨by first | rfl | (simp; done) | (simp [*]; done), by repeat (first | exact Drawn0.refl _ | apply Drawn0.step)⟩
def utf8_RuneStart.f (a0 : Int) : Option (Bool) := some ((Go.bits .and .u8 a0 192) != 128)
set_option maxHeartbeats 8000000 in
set_option maxRecDepth 100000 in
theorem utf8_RuneStart.calls (a0 : Int) (r : Bool) (w : World) (h : utf8_RuneStart.f a0 = some r) :
  Calls Tryd.prog 64 #[.int .u8 a0] w fun e w' => e = .returned (.bool r) ∧ Drawn0 w w' := by
 have H : (some ((Go.bits .and .u8 a0 192) != 128)) = some r := h
 clear h
 obtain rfl := Option.some.inj H
 go_enter Tryd.func64, Tryd.ntmps64
 go_wp2
 go_ret
 exact ⟨by first | rfl | (simp; done) | (simp [*]; done), by repeat (first | exact Drawn0.refl _ | apply Drawn0.step)⟩
def spec_reInClass.l0 : Nat → List Int → Int → Int → Option (Bool)
 | 0, _, _, _ => none
 | k + 1, x0, x1, x5 => if (wrap64 (x5 + 1)) < (x0.length : Int) then (if 0 ≤ x5 then (if x5 < (x0.length : Int) then (if (rd x0 x5) ≤ x1 then (if 0 ≤ (wrap64 (x5 + 1)) then (if x1 ≤ (rd x0 (wrap64 (x5 + 1))) then (some true) else (spec_reInClass.l0 k x0 x1 (wrap64 (x5 + 2)))) else (none)) else (spec_reInClass.l0 k x0 x1 (wrap64 (x5 + 2)))) else (none)) else (none)) else (some false)
def spec_reInClass.f (k : Nat) (l0 : List Int) (a1 : Int) : Option (Bool) := spec_reInClass.l0 k l0 a1 0
theorem spec_reInClass.mono_l : ∀ k, (∀ y0 y1 y2, LeO (spec_reInClass.l0 k y0 y1 y2) (spec_reInClass.l0 (k + 1) y0 y1 y2))
 | 0 => fun _ _ _ r h => by simp [spec_reInClass.l0] at h
 | k + 1 => by
  have ih0 := spec_reInClass.mono_l k
  ·intro y0 y1 y2
   unfold spec_reInClass.l0
   repeat' first
   | (with_reducible exact ih0 _ _ _)
   | (with_reducible exact LeO.refl _)
   | (with_reducible exact LeO.none _)
   | (with_reducible refine LeO.ite ?_ ?_)
   | (with_reducible refine LeO.bind ?_ (fun _ => ?_))
   | exact ih0 _ _ _
   | exact LeO.none _
   | refine LeO.ite ?_ ?_
   | refine LeO.bind ?_ (fun _ => ?_)
theorem spec_reInClass.mono : ∀ a0 a1 k, LeO (spec_reInClass.f k a0 a1) (spec_reInClass.f (k + 1) a0 a1) := by
 intro a0 a1 k
 have ih0 := spec_reInClass.mono_l k
 unfold spec_reInClass.f
 repeat' first
   | (with_reducible exact ih0 _ _ _)
   | (with_reducible exact LeO.refl _)
   | (with_reducible exact LeO.none _)
   | (with_reducible refine LeO.ite ?_ ?_)
   | (with_reducible refine LeO.bind ?_ (fun _ => ?_))
   | exact ih0 _ _ _
   | exact LeO.none _
   | refine LeO.ite ?_ ?_
   | refine LeO.bind ?_ (fun _ => ?_)
set_option maxHeartbeats 8000000 in
set_option maxRecDepth 100000 in
theorem spec_reInClass.calls (k : Nat) (A0 : Option Addr) (c0 : Nat) (l0 : List Int) (a1 : Int) (r : Bool) (w : World) (hr0 : Kd.C (Kd.int .i32) w A0 l0.length l0) (hc0 : l0.length ≤ c0) (h : spec_reInClass.f k l0 a1 = some r) :
  Calls Tryd.prog 51 #[.slice A0 l0.length c0, .int .i32 a1] w fun e w' => e = .returned (.bool r) ∧ Drawn0 w w' := by
 have HR0 := Aside0.mk hr0
 have HC0 := Aside0.mk hc0
 clear hr0 hc0
 have H : (spec_reInClass.l0 k l0 a1 0) = some r := h
 clear h
 have H' := Aside0.mk H
 clear H
 go_enter Tryd.func51, Tryd.ntmps51
 go_wp2
 go_loopg [5] k (fun kq v5 w' => ∃ (x5_1 : Int), v5 = .int .i64 x5_1 ∧ Aside0 (spec_reInClass.l0 kq l0 a1 x5_1 = some r) ∧ Aside0 (kq ≤ k) ∧ Drawn0 w w')
 case atStart => exact ⟨(0), (by first | rfl | (simp; done) | (simp [*]; done)), H', ⟨Nat.le_refl _⟩, by repeat (first | exact Drawn0.refl _ | apply Drawn0.step)⟩
 case round =>
  clear H'
  try clear p2
  obtain ⟨x5_1, rfl, HA, HK1, ⟨m1, rfl⟩⟩ := hrel
  cases gk with
  | zero => exact absurd HA.out (by simp [spec_reInClass.l0])
  | succ k1 =>
   have H := HA.out
   clear HA
   simp only [spec_reInClass.l0] at H
   by_cases c3 : (wrap64 (x5_1 + 1)) < (l0.length : Int)
   ·rw [if_pos c3] at H
    have c3b0 : decide ((wrap64 (x5_1 + 1)) < (l0.length : Int)) = true := decide_eq_true c3
    clear c3
    by_cases c4 : 0 ≤ x5_1
    ·rw [if_pos c4] at H
     have c4b0 : decide (0 ≤ x5_1) = true := decide_eq_true c4
     clear c4
     by_cases c5 : x5_1 < (l0.length : Int)
     ·rw [if_pos c5] at H
      have c5b0 : decide (x5_1 < (l0.length : Int)) = true := decide_eq_true c5
      clear c5
      by_cases c6 : (rd l0 x5_1) ≤ a1
      ·rw [if_pos c6] at H
       have c6b0 : decide ((rd l0 x5_1) ≤ a1) = true := decide_eq_true c6
       clear c6
       obtain ⟨ji7, hji7⟩ : ∃ j_ : Int, (wrap64 (x5_1 + 1)) = j_ := ⟨_, rfl⟩
       replace H : (if 0 ≤ (ji7) then (if a1 ≤ (rd l0 (ji7)) then (some true) else (spec_reInClass.l0 k1 l0 a1 (wrap64 (x5_1 + 2)))) else (none)) = some r := by first | (rw [hji7] at H; exact H) | (simp only [hji7] at H ⊢; exact H)
       (try rw [hji7] at c3b0)
       have hji7w : (IntKind.i64.wrap (x5_1 + 1)) = ji7 := (i64_w _).trans hji7
       by_cases c8 : 0 ≤ (ji7)
       ·rw [if_pos c8] at H
        have c8b0 : decide (0 ≤ (ji7)) = true := decide_eq_true c8
        clear c8
        by_cases c9 : a1 ≤ (rd l0 (ji7))
        ·rw [if_pos c9] at H
         have c9b0 : decide (a1 ≤ (rd l0 (ji7))) = true := decide_eq_true c9
         clear c9
         obtain rfl := Option.some.inj H
         have p194 : 0 ≤ (x5_1 : Int) := of_decide_eq_true (by first | (with_reducible assumption) | assumption)
         have q194 : x5_1 < (l0.length : Int) := of_decide_eq_true (by first | (with_reducible assumption) | assumption)
         obtain ⟨ad194, e194, hx194_0⟩ := Kd.at_int HR0.out x5_1 p194 q194
         cases e194
         replace p194 := eq_true p194
         replace q194 := eq_true q194
         have p195 : 0 ≤ ((ji7) : Int) := of_decide_eq_true (by first | (with_reducible assumption) | assumption)
         have q195 : (ji7) < (l0.length : Int) := of_decide_eq_true (by first | (with_reducible assumption) | assumption)
         obtain ⟨ad195, e195, hx195_0⟩ := Kd.at_int HR0.out (ji7) p195 q195
         obtain rfl : ad194 = ad195 := (by injection e195)
         replace p195 := eq_true p195
         replace q195 := eq_true q195
         go_wp2
         go_ret
         exact ⟨by first | rfl | (simp; done) | (simp only [← hji7] <;> (first | rfl | simp)) | (simp [*]; done), by repeat (first | exact Drawn0.refl _ | apply Drawn0.step)⟩
        ·rw [if_neg c9] at H
         have c9b0 : decide (a1 ≤ (rd l0 (ji7))) = false := decide_eq_false c9
         clear c9
         have H' := Aside0.mk H
         clear H
         have p194 : 0 ≤ (x5_1 : Int) := of_decide_eq_true (by first | (with_reducible assumption) | assumption)
         have q194 : x5_1 < (l0.length : Int) := of_decide_eq_true (by first | (with_reducible assumption) | assumption)
         obtain ⟨ad194, e194, hx194_0⟩ := Kd.at_int HR0.out x5_1 p194 q194
         cases e194
         replace p194 := eq_true p194
         replace q194 := eq_true q194
         have p195 : 0 ≤ ((ji7) : Int) := of_decide_eq_true (by first | (with_reducible assumption) | assumption)
         have q195 : (ji7) < (l0.length : Int) := of_decide_eq_true (by first | (with_reducible assumption) | assumption)
         obtain ⟨ad195, e195, hx195_0⟩ := Kd.at_int HR0.out (ji7) p195 q195
         obtain rfl : ad194 = ad195 := (by injection e195)
         replace p195 := eq_true p195
         replace q195 := eq_true q195
         go_wp2
         go_roundg k1
         case measure => have := HK1.out; omega
         case rel => exact ⟨(wrap64 (x5_1 + 2)), (by first | rfl | (simp; done) | (simp [*]; done)), H', ⟨by have := HK1.out; omega⟩, by repeat (first | exact Drawn0.refl _ | apply Drawn0.step)⟩
       ·rw [if_neg c8] at H
        exact absurd H (by simp)
      ·rw [if_neg c6] at H
       have c6b0 : decide ((rd l0 x5_1) ≤ a1) = false := decide_eq_false c6
       clear c6
       have H' := Aside0.mk H
       clear H
       have p194 : 0 ≤ (x5_1 : Int) := of_decide_eq_true (by first | (with_reducible assumption) | assumption)
       have q194 : x5_1 < (l0.length : Int) := of_decide_eq_true (by first | (with_reducible assumption) | assumption)
       obtain ⟨ad194, e194, hx194_0⟩ := Kd.at_int HR0.out x5_1 p194 q194
       cases e194
       replace p194 := eq_true p194
       replace q194 := eq_true q194
       go_wp2
       go_roundg k1
       case measure => have := HK1.out; omega
       case rel => exact ⟨(wrap64 (x5_1 + 2)), (by first | rfl | (simp; done) | (simp [*]; done)), H', ⟨by have := HK1.out; omega⟩, by repeat (first | exact Drawn0.refl _ | apply Drawn0.step)⟩
     ·rw [if_neg c5] at H
      exact absurd H (by simp)
    ·rw [if_neg c4] at H
     exact absurd H (by simp)
   ·rw [if_neg c3] at H
    have c3b0 : decide ((wrap64 (x5_1 + 1)) < (l0.length : Int)) = false := decide_eq_false c3
    clear c3
    obtain rfl := Option.some.inj H
    go_wp2
    go_ret
    exact ⟨by first | rfl | (simp; done) | (simp [*]; done), by repeat (first | exact Drawn0.refl _ | apply Drawn0.step)⟩
end Go.Proofs.YtmccgfjhmbioeaaDoor.PFnPgThreads
