/- Machine-made: walks of functions of the program, out of the print's own lines. -/
import Derived.Test.YtofkpinikkfmeaaDoorPFnMtLeasty0
import Derived.Test.YtofkpinikkfmeaaDoorPFnMtLeasty8
namespace Go.Proofs.YtofkpinikkfmeaaDoor.PFnMtLeast
open Go.RowKit Go.Proofs.YtofkpinikkfmeaaDoorW.PrintWords Go.Proofs.YtofkpinikkfmeaaDoorW.PrintLast Go.Proofs.YtofkpinikkfmeaaDoorW.PrintMore
attribute [local go_sem] max2_int min2_int max_two min_two max_three min_three max_four min_four   -- for this text's walks alone
set_option linter.unusedVariables false
set_option linter.unusedSimpArgs false

/-! ### spec_CondBetween: function 53 -/
mutual
def spec_CondBetween.j0 : Nat → Int → Int → Int → Option (Int)
  | 0, _, _, _ => none
  | k + 1, x0, x1, x5 => if x0 = (-1) then (spec_CondBetween.j1 k x0 x1 x5 true) else (spec_CondBetween.j1 k x0 x1 x5 (x0 == 10))
def spec_CondBetween.j1 : Nat → Int → Int → Int → Bool → Option (Int)
  | 0, _, _, _, _ => none
  | k + 1, x0, x1, x5, x15 => if x15 = true then (spec_CondBetween.j2 k x0 x1 (Go.bits .or .i64 x5 1)) else (spec_CondBetween.j2 k x0 x1 x5)
def spec_CondBetween.j2 : Nat → Int → Int → Int → Option (Int)
  | 0, _, _, _ => none
  | k + 1, x0, x1, x5 => if x1 = (-1) then (spec_CondBetween.j3 k x0 x1 (Go.bits .or .i64 x5 8)) else (spec_CondBetween.j3 k x0 x1 x5)
def spec_CondBetween.j3 : Nat → Int → Int → Int → Option (Int)
  | 0, _, _, _ => none
  | k + 1, x0, x1, x5 => if x1 = (-1) then (spec_CondBetween.j4 k x0 x1 x5 true) else (spec_CondBetween.j4 k x0 x1 x5 (x1 == 10))
def spec_CondBetween.j4 : Nat → Int → Int → Int → Bool → Option (Int)
  | 0, _, _, _, _ => none
  | k + 1, x0, x1, x5, x27 => if x27 = true then (spec_CondBetween.j5 k x0 x1 (Go.bits .or .i64 x5 2)) else (spec_CondBetween.j5 k x0 x1 x5)
def spec_CondBetween.j5 : Nat → Int → Int → Int → Option (Int)
  | 0, _, _, _ => none
  | k + 1, x0, x1, x5 => (spec_reWord.f x0).bind fun t174 => ((spec_reWord.f x1).bind fun t175 => (if (t174 != t175) = true then (some (Go.bits .or .i64 x5 16)) else (some (Go.bits .or .i64 x5 32))))
end
def spec_CondBetween.f (k : Nat) (a0 : Int) (a1 : Int) : Option (Int) := if a0 = (-1) then (spec_CondBetween.j0 k a0 a1 (Go.bits .or .i64 0 4)) else (spec_CondBetween.j0 k a0 a1 0)
theorem spec_CondBetween.mono_l : ∀ k, (∀ y0 y1 y2, LeO (spec_CondBetween.j0 k y0 y1 y2) (spec_CondBetween.j0 (k + 1) y0 y1 y2)) ∧ (∀ y0 y1 y2 y3, LeO (spec_CondBetween.j1 k y0 y1 y2 y3) (spec_CondBetween.j1 (k + 1) y0 y1 y2 y3)) ∧ (∀ y0 y1 y2, LeO (spec_CondBetween.j2 k y0 y1 y2) (spec_CondBetween.j2 (k + 1) y0 y1 y2)) ∧ (∀ y0 y1 y2, LeO (spec_CondBetween.j3 k y0 y1 y2) (spec_CondBetween.j3 (k + 1) y0 y1 y2)) ∧ (∀ y0 y1 y2 y3, LeO (spec_CondBetween.j4 k y0 y1 y2 y3) (spec_CondBetween.j4 (k + 1) y0 y1 y2 y3)) ∧ (∀ y0 y1 y2, LeO (spec_CondBetween.j5 k y0 y1 y2) (spec_CondBetween.j5 (k + 1) y0 y1 y2))
  | 0 => ⟨fun _ _ _ r h => by simp [spec_CondBetween.j0] at h, fun _ _ _ _ r h => by simp [spec_CondBetween.j1] at h, fun _ _ _ r h => by simp [spec_CondBetween.j2] at h, fun _ _ _ r h => by simp [spec_CondBetween.j3] at h, fun _ _ _ _ r h => by simp [spec_CondBetween.j4] at h, fun _ _ _ r h => by simp [spec_CondBetween.j5] at h⟩
  | k + 1 => by
    obtain ⟨ih0, ih1, ih2, ih3, ih4, ih5⟩ := spec_CondBetween.mono_l k
    refine ⟨?_, ?_, ?_, ?_, ?_, ?_⟩
    · intro y0 y1 y2
      unfold spec_CondBetween.j0
      repeat' first
      | (with_reducible exact ih0 _ _ _)
      | (with_reducible exact ih1 _ _ _ _)
      | (with_reducible exact ih2 _ _ _)
      | (with_reducible exact ih3 _ _ _)
      | (with_reducible exact ih4 _ _ _ _)
      | (with_reducible exact ih5 _ _ _)
      | (with_reducible exact LeO.refl _)
      | (with_reducible exact LeO.none _)
      | (with_reducible refine LeO.ite ?_ ?_)
      | (with_reducible refine LeO.bind ?_ (fun _ => ?_))
      | exact ih0 _ _ _
      | exact ih1 _ _ _ _
      | exact ih2 _ _ _
      | exact ih3 _ _ _
      | exact ih4 _ _ _ _
      | exact ih5 _ _ _
      | exact LeO.none _
      | refine LeO.ite ?_ ?_
      | refine LeO.bind ?_ (fun _ => ?_)
    · intro y0 y1 y2 y3
      unfold spec_CondBetween.j1
      repeat' first
      | (with_reducible exact ih0 _ _ _)
      | (with_reducible exact ih1 _ _ _ _)
      | (with_reducible exact ih2 _ _ _)
      | (with_reducible exact ih3 _ _ _)
      | (with_reducible exact ih4 _ _ _ _)
      | (with_reducible exact ih5 _ _ _)
      | (with_reducible exact LeO.refl _)
      | (with_reducible exact LeO.none _)
      | (with_reducible refine LeO.ite ?_ ?_)
      | (with_reducible refine LeO.bind ?_ (fun _ => ?_))
      | exact ih0 _ _ _
      | exact ih1 _ _ _ _
      | exact ih2 _ _ _
      | exact ih3 _ _ _
      | exact ih4 _ _ _ _
      | exact ih5 _ _ _
      | exact LeO.none _
      | refine LeO.ite ?_ ?_
      | refine LeO.bind ?_ (fun _ => ?_)
    · intro y0 y1 y2
      unfold spec_CondBetween.j2
      repeat' first
      | (with_reducible exact ih0 _ _ _)
      | (with_reducible exact ih1 _ _ _ _)
      | (with_reducible exact ih2 _ _ _)
      | (with_reducible exact ih3 _ _ _)
      | (with_reducible exact ih4 _ _ _ _)
      | (with_reducible exact ih5 _ _ _)
      | (with_reducible exact LeO.refl _)
      | (with_reducible exact LeO.none _)
      | (with_reducible refine LeO.ite ?_ ?_)
      | (with_reducible refine LeO.bind ?_ (fun _ => ?_))
      | exact ih0 _ _ _
      | exact ih1 _ _ _ _
      | exact ih2 _ _ _
      | exact ih3 _ _ _
      | exact ih4 _ _ _ _
      | exact ih5 _ _ _
      | exact LeO.none _
      | refine LeO.ite ?_ ?_
      | refine LeO.bind ?_ (fun _ => ?_)
    · intro y0 y1 y2
      unfold spec_CondBetween.j3
      repeat' first
      | (with_reducible exact ih0 _ _ _)
      | (with_reducible exact ih1 _ _ _ _)
      | (with_reducible exact ih2 _ _ _)
      | (with_reducible exact ih3 _ _ _)
      | (with_reducible exact ih4 _ _ _ _)
      | (with_reducible exact ih5 _ _ _)
      | (with_reducible exact LeO.refl _)
      | (with_reducible exact LeO.none _)
      | (with_reducible refine LeO.ite ?_ ?_)
      | (with_reducible refine LeO.bind ?_ (fun _ => ?_))
      | exact ih0 _ _ _
      | exact ih1 _ _ _ _
      | exact ih2 _ _ _
      | exact ih3 _ _ _
      | exact ih4 _ _ _ _
      | exact ih5 _ _ _
      | exact LeO.none _
      | refine LeO.ite ?_ ?_
      | refine LeO.bind ?_ (fun _ => ?_)
    · intro y0 y1 y2 y3
      unfold spec_CondBetween.j4
      repeat' first
      | (with_reducible exact ih0 _ _ _)
      | (with_reducible exact ih1 _ _ _ _)
      | (with_reducible exact ih2 _ _ _)
      | (with_reducible exact ih3 _ _ _)
      | (with_reducible exact ih4 _ _ _ _)
      | (with_reducible exact ih5 _ _ _)
      | (with_reducible exact LeO.refl _)
      | (with_reducible exact LeO.none _)
      | (with_reducible refine LeO.ite ?_ ?_)
      | (with_reducible refine LeO.bind ?_ (fun _ => ?_))
      | exact ih0 _ _ _
      | exact ih1 _ _ _ _
      | exact ih2 _ _ _
      | exact ih3 _ _ _
      | exact ih4 _ _ _ _
      | exact ih5 _ _ _
      | exact LeO.none _
      | refine LeO.ite ?_ ?_
      | refine LeO.bind ?_ (fun _ => ?_)
    · intro y0 y1 y2
      unfold spec_CondBetween.j5
      repeat' first
      | (with_reducible exact ih0 _ _ _)
      | (with_reducible exact ih1 _ _ _ _)
      | (with_reducible exact ih2 _ _ _)
      | (with_reducible exact ih3 _ _ _)
      | (with_reducible exact ih4 _ _ _ _)
      | (with_reducible exact ih5 _ _ _)
      | (with_reducible exact LeO.refl _)
      | (with_reducible exact LeO.none _)
      | (with_reducible refine LeO.ite ?_ ?_)
      | (with_reducible refine LeO.bind ?_ (fun _ => ?_))
      | exact ih0 _ _ _
      | exact ih1 _ _ _ _
      | exact ih2 _ _ _
      | exact ih3 _ _ _
      | exact ih4 _ _ _ _
      | exact ih5 _ _ _
      | exact LeO.none _
      | refine LeO.ite ?_ ?_
      | refine LeO.bind ?_ (fun _ => ?_)
theorem spec_CondBetween.mono : ∀ a0 a1 k, LeO (spec_CondBetween.f k a0 a1) (spec_CondBetween.f (k + 1) a0 a1) := by
  intro a0 a1 k
  obtain ⟨ih0, ih1, ih2, ih3, ih4, ih5⟩ := spec_CondBetween.mono_l k
  unfold spec_CondBetween.f
  repeat' first
      | (with_reducible exact ih0 _ _ _)
      | (with_reducible exact ih1 _ _ _ _)
      | (with_reducible exact ih2 _ _ _)
      | (with_reducible exact ih3 _ _ _)
      | (with_reducible exact ih4 _ _ _ _)
      | (with_reducible exact ih5 _ _ _)
      | (with_reducible exact LeO.refl _)
      | (with_reducible exact LeO.none _)
      | (with_reducible refine LeO.ite ?_ ?_)
      | (with_reducible refine LeO.bind ?_ (fun _ => ?_))
      | exact ih0 _ _ _
      | exact ih1 _ _ _ _
      | exact ih2 _ _ _
      | exact ih3 _ _ _
      | exact ih4 _ _ _ _
      | exact ih5 _ _ _
      | exact LeO.none _
      | refine LeO.ite ?_ ?_
      | refine LeO.bind ?_ (fun _ => ?_)
set_option maxHeartbeats 8000000 in
set_option maxRecDepth 100000 in
theorem spec_CondBetween.calls (k : Nat) (a0 : Int) (a1 : Int) (r : Int) (w : World) (h : spec_CondBetween.f k a0 a1 = some r) :
    Calls Tryd.prog 53 #[.int .i32 a0, .int .i32 a1] w fun e w' => e = .returned (.int .i64 r) ∧ Drawn0 w w' := by
  have H : (if a0 = (-1) then (spec_CondBetween.j0 k a0 a1 (Go.bits .or .i64 0 4)) else (spec_CondBetween.j0 k a0 a1 0)) = some r := h
  clear h
  have HC3 := Aside0.mk H
  clear H
  go_enter Tryd.func53, Tryd.ntmps53
  go_upto_if 7 with (fail)
  go_cut [5] (fun v5 wc => ∃ (kq : Nat) (x5_2 : Int), v5 = .int .i64 x5_2 ∧ Aside0 (spec_CondBetween.j0 kq a0 a1 x5_2 = some r) ∧ Aside0 (kq ≤ k) ∧ Drawn0 w wc)
  case first =>
    have H := HC3.out
    clear HC3
    by_cases c4 : a0 = (-1)
    · rw [if_pos c4] at H
      have c4b0 : (a0 == (-1)) = true := beq_iff_eq.mpr c4
      have c4b1 : (a0 != (-1)) = false := bne_eq_false_iff_eq.mpr c4
      clear c4
      (first | rw [c4b0] | (simp only [i64_w, i32_w]; rw [c4b0]) | skip)
      have H' := Aside0.mk H
      clear H
      go_wp2
      go_meet
      case rel => exact ⟨_, (Go.bits .or .i64 0 4), (by first | rfl | (simp; done) | (simp [*]; done)), H', ⟨by first | omega | exact Nat.le_refl _⟩, by repeat (first | exact Drawn0.refl _ | apply Drawn0.step)⟩
    · rw [if_neg c4] at H
      have c4b0 : (a0 == (-1)) = false := beq_eq_false_iff_ne.mpr c4
      have c4b1 : (a0 != (-1)) = true := bne_iff_ne.mpr c4
      (first | rw [c4b0] | (simp only [i64_w, i32_w]; rw [c4b0]) | skip)
      have H' := Aside0.mk H
      clear H
      go_wp2
      go_meet
      case rel => exact ⟨_, (0), (by first | rfl | (simp; done) | (simp [*]; done)), H', ⟨by first | omega | exact Nat.le_refl _⟩, by repeat (first | exact Drawn0.refl _ | apply Drawn0.step)⟩
  case rest =>
    clear HC3
    try clear p2
    try clear c4
    try clear c4b0
    try clear c4b1
    obtain ⟨kq, x5_2, rfl, HA, HJ2, ⟨mc2, rfl⟩⟩ := hcut
    cases kq with
    | zero => exact absurd HA.out (by simp [spec_CondBetween.j0])
    | succ kj2 =>
      have H := HA.out
      clear HA
      simp only [spec_CondBetween.j0] at H
      have HC5 := Aside0.mk H
      clear H
      go_upto_region 4 with (fail)
      go_cut [15] (fun v15 wc => ∃ (kq : Nat) (x15_4 : Bool), v15 = .bool x15_4 ∧ Aside0 (spec_CondBetween.j1 kq a0 a1 x5_2 x15_4 = some r) ∧ Aside0 (kq ≤ kj2) ∧ Drawn0 w wc)
      case first =>
        have H := HC5.out
        clear HC5
        by_cases c6 : a0 = (-1)
        · rw [if_pos c6] at H
          have c6b0 : (a0 == (-1)) = true := beq_iff_eq.mpr c6
          have c6b1 : (a0 != (-1)) = false := bne_eq_false_iff_eq.mpr c6
          clear c6
          (first | rw [c6b0] | (simp only [i64_w, i32_w]; rw [c6b0]) | skip)
          have H' := Aside0.mk H
          clear H
          go_wp2
          go_meet
          case rel => exact ⟨_, (true), (by first | rfl | (simp; done) | (simp [*]; done)), H', ⟨by have := HJ2.out; first | omega | exact Nat.le_refl _⟩, by repeat (first | exact Drawn0.refl _ | apply Drawn0.step)⟩
        · rw [if_neg c6] at H
          have c6b0 : (a0 == (-1)) = false := beq_eq_false_iff_ne.mpr c6
          have c6b1 : (a0 != (-1)) = true := bne_iff_ne.mpr c6
          (first | rw [c6b0] | (simp only [i64_w, i32_w]; rw [c6b0]) | skip)
          have H' := Aside0.mk H
          clear H
          go_wp2
          go_meet
          case rel => exact ⟨_, ((a0 == 10)), (by first | rfl | (simp; done) | (simp [*]; done)), H', ⟨by have := HJ2.out; first | omega | exact Nat.le_refl _⟩, by repeat (first | exact Drawn0.refl _ | apply Drawn0.step)⟩
      case rest =>
        clear HC5
        try clear c2
        try clear p2
        try clear c4
        try clear c4b0
        try clear c4b1
        try clear c5
        try clear c6
        try clear c6b0
        try clear c6b1
        try clear p2
        obtain ⟨kq, x15_4, rfl, HA, HJ4, ⟨mc4, rfl⟩⟩ := hcut
        cases kq with
        | zero => exact absurd HA.out (by simp [spec_CondBetween.j1])
        | succ kj4 =>
          have H := HA.out
          clear HA
          simp only [spec_CondBetween.j1] at H
          have HC7 := Aside0.mk H
          clear H
          go_upto_if 15 with (fail)
          go_cut [5] (fun v5 wc => ∃ (kq : Nat) (x5_6 : Int), v5 = .int .i64 x5_6 ∧ Aside0 (spec_CondBetween.j2 kq a0 a1 x5_6 = some r) ∧ Aside0 (kq ≤ kj4) ∧ Drawn0 w wc)
          case first =>
            have H := HC7.out
            clear HC7
            by_cases c8 : x15_4 = true
            · subst c8
              have H1 : (spec_CondBetween.j2 kj4 a0 a1 (Go.bits .or .i64 x5_2 1)) = some r := by rw [if_pos rfl] at H; exact H
              clear H
              have H := H1
              clear H1
              have H' := Aside0.mk H
              clear H
              go_wp2
              go_meet
              case rel => exact ⟨_, (Go.bits .or .i64 x5_2 1), (by first | rfl | (simp; done) | (simp [*]; done)), H', ⟨by have := HJ2.out; have := HJ4.out; first | omega | exact Nat.le_refl _⟩, by repeat (first | exact Drawn0.refl _ | apply Drawn0.step)⟩
            · replace c8 := Bool.eq_false_iff.mpr c8
              subst c8
              have H1 : (spec_CondBetween.j2 kj4 a0 a1 x5_2) = some r := by rw [if_neg (show ¬ (false = true) by decide)] at H; exact H
              clear H
              have H := H1
              clear H1
              have H' := Aside0.mk H
              clear H
              go_wp2
              go_meet
              case rel => exact ⟨_, (x5_2), (by first | rfl | (simp; done) | (simp [*]; done)), H', ⟨by have := HJ2.out; have := HJ4.out; first | omega | exact Nat.le_refl _⟩, by repeat (first | exact Drawn0.refl _ | apply Drawn0.step)⟩
          case rest =>
            clear HC7
            try clear c2
            try clear p2
            try clear c4
            try clear c4b0
            try clear c4b1
            try clear c5
            try clear c6
            try clear c6b0
            try clear c6b1
            try clear c8
            try clear p2
            obtain ⟨kq, x5_6, rfl, HA, HJ6, ⟨mc6, rfl⟩⟩ := hcut
            cases kq with
            | zero => exact absurd HA.out (by simp [spec_CondBetween.j2])
            | succ kj6 =>
              have H := HA.out
              clear HA
              simp only [spec_CondBetween.j2] at H
              have HC9 := Aside0.mk H
              clear H
              go_upto_if 19 with (fail)
              go_cut [5] (fun v5 wc => ∃ (kq : Nat) (x5_8 : Int), v5 = .int .i64 x5_8 ∧ Aside0 (spec_CondBetween.j3 kq a0 a1 x5_8 = some r) ∧ Aside0 (kq ≤ kj6) ∧ Drawn0 w wc)
              case first =>
                have H := HC9.out
                clear HC9
                by_cases c10 : a1 = (-1)
                · rw [if_pos c10] at H
                  have c10b0 : (a1 == (-1)) = true := beq_iff_eq.mpr c10
                  have c10b1 : (a1 != (-1)) = false := bne_eq_false_iff_eq.mpr c10
                  clear c10
                  (first | rw [c10b0] | (simp only [i64_w, i32_w]; rw [c10b0]) | skip)
                  have H' := Aside0.mk H
                  clear H
                  go_wp2
                  go_meet
                  case rel => exact ⟨_, (Go.bits .or .i64 x5_6 8), (by first | rfl | (simp; done) | (simp [*]; done)), H', ⟨by have := HJ2.out; have := HJ4.out; have := HJ6.out; first | omega | exact Nat.le_refl _⟩, by repeat (first | exact Drawn0.refl _ | apply Drawn0.step)⟩
                · rw [if_neg c10] at H
                  have c10b0 : (a1 == (-1)) = false := beq_eq_false_iff_ne.mpr c10
                  have c10b1 : (a1 != (-1)) = true := bne_iff_ne.mpr c10
                  (first | rw [c10b0] | (simp only [i64_w, i32_w]; rw [c10b0]) | skip)
                  have H' := Aside0.mk H
                  clear H
                  go_wp2
                  go_meet
                  case rel => exact ⟨_, (x5_6), (by first | rfl | (simp; done) | (simp [*]; done)), H', ⟨by have := HJ2.out; have := HJ4.out; have := HJ6.out; first | omega | exact Nat.le_refl _⟩, by repeat (first | exact Drawn0.refl _ | apply Drawn0.step)⟩
              case rest =>
                clear HC9
                try clear c1
                try clear c2
                try clear p2
                try clear c4
                try clear c4b0
                try clear c4b1
                try clear c5
                try clear c6
                try clear c6b0
                try clear c6b1
                try clear c8
                try clear c10
                try clear c10b0
                try clear c10b1
                try clear p2
                obtain ⟨kq, x5_8, rfl, HA, HJ8, ⟨mc8, rfl⟩⟩ := hcut
                cases kq with
                | zero => exact absurd HA.out (by simp [spec_CondBetween.j3])
                | succ kj8 =>
                  have H := HA.out
                  clear HA
                  simp only [spec_CondBetween.j3] at H
                  have HC11 := Aside0.mk H
                  clear H
                  go_upto_region 8 with (fail)
                  go_cut [27] (fun v27 wc => ∃ (kq : Nat) (x27_10 : Bool), v27 = .bool x27_10 ∧ Aside0 (spec_CondBetween.j4 kq a0 a1 x5_8 x27_10 = some r) ∧ Aside0 (kq ≤ kj8) ∧ Drawn0 w wc)
                  case first =>
                    have H := HC11.out
                    clear HC11
                    by_cases c12 : a1 = (-1)
                    · rw [if_pos c12] at H
                      have c12b0 : (a1 == (-1)) = true := beq_iff_eq.mpr c12
                      have c12b1 : (a1 != (-1)) = false := bne_eq_false_iff_eq.mpr c12
                      clear c12
                      (first | rw [c12b0] | (simp only [i64_w, i32_w]; rw [c12b0]) | skip)
                      have H' := Aside0.mk H
                      clear H
                      go_wp2
                      go_meet
                      case rel => exact ⟨_, (true), (by first | rfl | (simp; done) | (simp [*]; done)), H', ⟨by have := HJ2.out; have := HJ4.out; have := HJ6.out; have := HJ8.out; first | omega | exact Nat.le_refl _⟩, by repeat (first | exact Drawn0.refl _ | apply Drawn0.step)⟩
                    · rw [if_neg c12] at H
                      have c12b0 : (a1 == (-1)) = false := beq_eq_false_iff_ne.mpr c12
                      have c12b1 : (a1 != (-1)) = true := bne_iff_ne.mpr c12
                      (first | rw [c12b0] | (simp only [i64_w, i32_w]; rw [c12b0]) | skip)
                      have H' := Aside0.mk H
                      clear H
                      go_wp2
                      go_meet
                      case rel => exact ⟨_, ((a1 == 10)), (by first | rfl | (simp; done) | (simp [*]; done)), H', ⟨by have := HJ2.out; have := HJ4.out; have := HJ6.out; have := HJ8.out; first | omega | exact Nat.le_refl _⟩, by repeat (first | exact Drawn0.refl _ | apply Drawn0.step)⟩
                  case rest =>
                    clear HC11
                    try clear c1
                    try clear c2
                    try clear p2
                    try clear c4
                    try clear c4b0
                    try clear c4b1
                    try clear c5
                    try clear c6
                    try clear c6b0
                    try clear c6b1
                    try clear c8
                    try clear c10
                    try clear c10b0
                    try clear c10b1
                    try clear c12
                    try clear c12b0
                    try clear c12b1
                    try clear p2
                    obtain ⟨kq, x27_10, rfl, HA, HJ10, ⟨mc10, rfl⟩⟩ := hcut
                    cases kq with
                    | zero => exact absurd HA.out (by simp [spec_CondBetween.j4])
                    | succ kj10 =>
                      have H := HA.out
                      clear HA
                      simp only [spec_CondBetween.j4] at H
                      have HC13 := Aside0.mk H
                      clear H
                      go_upto_if 27 with (fail)
                      go_cut [5] (fun v5 wc => ∃ (kq : Nat) (x5_12 : Int), v5 = .int .i64 x5_12 ∧ Aside0 (spec_CondBetween.j5 kq a0 a1 x5_12 = some r) ∧ Aside0 (kq ≤ kj10) ∧ Drawn0 w wc)
                      case first =>
                        have H := HC13.out
                        clear HC13
                        by_cases c14 : x27_10 = true
                        · subst c14
                          have H1 : (spec_CondBetween.j5 kj10 a0 a1 (Go.bits .or .i64 x5_8 2)) = some r := by rw [if_pos rfl] at H; exact H
                          clear H
                          have H := H1
                          clear H1
                          have H' := Aside0.mk H
                          clear H
                          go_wp2
                          go_meet
                          case rel => exact ⟨_, (Go.bits .or .i64 x5_8 2), (by first | rfl | (simp; done) | (simp [*]; done)), H', ⟨by have := HJ2.out; have := HJ4.out; have := HJ6.out; have := HJ8.out; have := HJ10.out; first | omega | exact Nat.le_refl _⟩, by repeat (first | exact Drawn0.refl _ | apply Drawn0.step)⟩
                        · replace c14 := Bool.eq_false_iff.mpr c14
                          subst c14
                          have H1 : (spec_CondBetween.j5 kj10 a0 a1 x5_8) = some r := by rw [if_neg (show ¬ (false = true) by decide)] at H; exact H
                          clear H
                          have H := H1
                          clear H1
                          have H' := Aside0.mk H
                          clear H
                          go_wp2
                          go_meet
                          case rel => exact ⟨_, (x5_8), (by first | rfl | (simp; done) | (simp [*]; done)), H', ⟨by have := HJ2.out; have := HJ4.out; have := HJ6.out; have := HJ8.out; have := HJ10.out; first | omega | exact Nat.le_refl _⟩, by repeat (first | exact Drawn0.refl _ | apply Drawn0.step)⟩
                      case rest =>
                        clear HC13
                        try clear c1
                        try clear c2
                        try clear p2
                        try clear c4
                        try clear c4b0
                        try clear c4b1
                        try clear c5
                        try clear c6
                        try clear c6b0
                        try clear c6b1
                        try clear c8
                        try clear c10
                        try clear c10b0
                        try clear c10b1
                        try clear c12
                        try clear c12b0
                        try clear c12b1
                        try clear c14
                        try clear p2
                        obtain ⟨kq, x5_12, rfl, HA, HJ12, ⟨mc12, rfl⟩⟩ := hcut
                        cases kq with
                        | zero => exact absurd HA.out (by simp [spec_CondBetween.j5])
                        | succ kj12 =>
                          have H := HA.out
                          clear HA
                          simp only [spec_CondBetween.j5] at H
                          replace H := Option.bind_eq_some_iff.mp H
                          obtain ⟨t174, A150, H⟩ := H
                          replace H : ((spec_reWord.f a1).bind fun t175 => (if (t174 != t175) = true then (some (Go.bits .or .i64 x5_12 16)) else (some (Go.bits .or .i64 x5_12 32)))) = some r := H
                          have A15 := Aside0.mk A150
                          clear A150
                          replace H := Option.bind_eq_some_iff.mp H
                          obtain ⟨t175, A160, H⟩ := H
                          replace H : (if (t174 != t175) = true then (some (Go.bits .or .i64 x5_12 16)) else (some (Go.bits .or .i64 x5_12 32))) = some r := H
                          have A16 := Aside0.mk A160
                          clear A160
                          by_cases c17 : (t174 != t175) = true
                          · rw [if_pos c17] at H
                            have c17b0 : (t174 != t175) = true := c17
                            (try (have c17b1 : decide (t174 = t175) = false := by simpa using c17))
                            (try (have c17b2 : (t174 == t175) = false := by simpa using c17))
                            (try (have c17b3 : ¬ (t174 = t175) := by simpa using c17))
                            clear c17
                            obtain rfl := Option.some.inj H
                            go_wp2_with (first | ((with_reducible refine gate_callee (f := 56) rfl ?_); refine goesL_ (some 31) rfl rfl Tryd.func56 (by kernel_rfl) rfl #[.int .i32 a0] rfl (by (try simp only [List.map_toArray, List.map_cons, List.map_nil]); first | done | rfl | (simp only [List.length_drop, List.length_take]; rfl)) ?_; (with_reducible refine (spec_reWord.calls a0 t174 _ A15.out).mono ?_); rintro e w' ⟨rfl, ⟨nd, rfl⟩⟩; refine ⟨_, rfl, ?_⟩) | ((with_reducible refine gate_callee (f := 56) rfl ?_); refine goesL_ (some 33) rfl rfl Tryd.func56 (by kernel_rfl) rfl #[.int .i32 a1] rfl (by (try simp only [List.map_toArray, List.map_cons, List.map_nil]); first | done | rfl | (simp only [List.length_drop, List.length_take]; rfl)) ?_; (with_reducible refine (spec_reWord.calls a1 t175 _ A16.out).mono ?_); rintro e w' ⟨rfl, ⟨nd, rfl⟩⟩; refine ⟨_, rfl, ?_⟩))
                            go_ret
                            exact ⟨by first | rfl | (simp; done) | (simp [*]; done), by repeat (first | exact Drawn0.refl _ | apply Drawn0.step)⟩
                          · rw [if_neg c17] at H
                            have c17b0 : (t174 != t175) = false := by simpa using c17
                            (try (have c17b1 : decide (t174 = t175) = true := by simpa using c17))
                            (try (have c17b2 : (t174 == t175) = true := by simpa using c17))
                            clear c17
                            obtain rfl := Option.some.inj H
                            go_wp2_with (first | ((with_reducible refine gate_callee (f := 56) rfl ?_); refine goesL_ (some 31) rfl rfl Tryd.func56 (by kernel_rfl) rfl #[.int .i32 a0] rfl (by (try simp only [List.map_toArray, List.map_cons, List.map_nil]); first | done | rfl | (simp only [List.length_drop, List.length_take]; rfl)) ?_; (with_reducible refine (spec_reWord.calls a0 t174 _ A15.out).mono ?_); rintro e w' ⟨rfl, ⟨nd, rfl⟩⟩; refine ⟨_, rfl, ?_⟩) | ((with_reducible refine gate_callee (f := 56) rfl ?_); refine goesL_ (some 33) rfl rfl Tryd.func56 (by kernel_rfl) rfl #[.int .i32 a1] rfl (by (try simp only [List.map_toArray, List.map_cons, List.map_nil]); first | done | rfl | (simp only [List.length_drop, List.length_take]; rfl)) ?_; (with_reducible refine (spec_reWord.calls a1 t175 _ A16.out).mono ?_); rintro e w' ⟨rfl, ⟨nd, rfl⟩⟩; refine ⟨_, rfl, ?_⟩))
                            go_ret
                            exact ⟨by first | rfl | (simp; done) | (simp [*]; done), by repeat (first | exact Drawn0.refl _ | apply Drawn0.step)⟩

/-! ### utf8_RuneStart: function 58 -/
def utf8_RuneStart.f (a0 : Int) : Option (Bool) := some ((Go.bits .and .u8 a0 192) != 128)
set_option maxHeartbeats 8000000 in
set_option maxRecDepth 100000 in
theorem utf8_RuneStart.calls (a0 : Int) (r : Bool) (w : World) (h : utf8_RuneStart.f a0 = some r) :
    Calls Tryd.prog 58 #[.int .u8 a0] w fun e w' => e = .returned (.bool r) ∧ Drawn0 w w' := by
  have H : (some ((Go.bits .and .u8 a0 192) != 128)) = some r := h
  clear h
  obtain rfl := Option.some.inj H
  go_enter Tryd.func58, Tryd.ntmps58
  go_wp2
  go_ret
  exact ⟨by first | rfl | (simp; done) | (simp [*]; done), by repeat (first | exact Drawn0.refl _ | apply Drawn0.step)⟩

-- NOT PRINTED: function 57 (utf8_DecodeLastRuneInString)

-- NOT PRINTED: function 54 (spec_reLast)

-- NOT PRINTED: function 49 (spec_CondAt)

/-! ### spec_reAsks: function 50 -/
def spec_reAsks.f (a0 : Int) : Option (Int) := if a0 = 7 then (some 1) else (if a0 = 8 then (some 2) else (if a0 = 9 then (some 4) else (if a0 = 10 then (some 8) else (if a0 = 11 then (some 16) else (if a0 = 12 then (some 32) else (some 0))))))
set_option maxHeartbeats 8000000 in
set_option maxRecDepth 100000 in
theorem spec_reAsks.calls (a0 : Int) (r : Int) (w : World) (h : spec_reAsks.f a0 = some r) :
    Calls Tryd.prog 50 #[.int .i64 a0] w fun e w' => e = .returned (.int .i64 r) ∧ Drawn0 w w' := by
  have H : (if a0 = 7 then (some 1) else (if a0 = 8 then (some 2) else (if a0 = 9 then (some 4) else (if a0 = 10 then (some 8) else (if a0 = 11 then (some 16) else (if a0 = 12 then (some 32) else (some 0))))))) = some r := h
  clear h
  by_cases c2 : a0 = 7
  · rw [if_pos c2] at H
    have c2b0 : (a0 == 7) = true := beq_iff_eq.mpr c2
    have c2b1 : (a0 != 7) = false := bne_eq_false_iff_eq.mpr c2
    clear c2
    obtain rfl := Option.some.inj H
    go_enter Tryd.func50, Tryd.ntmps50
    go_wp2
    go_ret
    exact ⟨by first | rfl | (simp; done) | (simp [*]; done), by repeat (first | exact Drawn0.refl _ | apply Drawn0.step)⟩
  · rw [if_neg c2] at H
    have c2b0 : (a0 == 7) = false := beq_eq_false_iff_ne.mpr c2
    have c2b1 : (a0 != 7) = true := bne_iff_ne.mpr c2
    by_cases c3 : a0 = 8
    · rw [if_pos c3] at H
      have c3b0 : (a0 == 8) = true := beq_iff_eq.mpr c3
      have c3b1 : (a0 != 8) = false := bne_eq_false_iff_eq.mpr c3
      clear c3
      obtain rfl := Option.some.inj H
      go_enter Tryd.func50, Tryd.ntmps50
      go_wp2
      go_ret
      exact ⟨by first | rfl | (simp; done) | (simp [*]; done), by repeat (first | exact Drawn0.refl _ | apply Drawn0.step)⟩
    · rw [if_neg c3] at H
      have c3b0 : (a0 == 8) = false := beq_eq_false_iff_ne.mpr c3
      have c3b1 : (a0 != 8) = true := bne_iff_ne.mpr c3
      by_cases c4 : a0 = 9
      · rw [if_pos c4] at H
        have c4b0 : (a0 == 9) = true := beq_iff_eq.mpr c4
        have c4b1 : (a0 != 9) = false := bne_eq_false_iff_eq.mpr c4
        clear c4
        obtain rfl := Option.some.inj H
        go_enter Tryd.func50, Tryd.ntmps50
        go_wp2
        go_ret
        exact ⟨by first | rfl | (simp; done) | (simp [*]; done), by repeat (first | exact Drawn0.refl _ | apply Drawn0.step)⟩
      · rw [if_neg c4] at H
        have c4b0 : (a0 == 9) = false := beq_eq_false_iff_ne.mpr c4
        have c4b1 : (a0 != 9) = true := bne_iff_ne.mpr c4
        by_cases c5 : a0 = 10
        · rw [if_pos c5] at H
          have c5b0 : (a0 == 10) = true := beq_iff_eq.mpr c5
          have c5b1 : (a0 != 10) = false := bne_eq_false_iff_eq.mpr c5
          clear c5
          obtain rfl := Option.some.inj H
          go_enter Tryd.func50, Tryd.ntmps50
          go_wp2
          go_ret
          exact ⟨by first | rfl | (simp; done) | (simp [*]; done), by repeat (first | exact Drawn0.refl _ | apply Drawn0.step)⟩
        · rw [if_neg c5] at H
          have c5b0 : (a0 == 10) = false := beq_eq_false_iff_ne.mpr c5
          have c5b1 : (a0 != 10) = true := bne_iff_ne.mpr c5
          by_cases c6 : a0 = 11
          · rw [if_pos c6] at H
            have c6b0 : (a0 == 11) = true := beq_iff_eq.mpr c6
            have c6b1 : (a0 != 11) = false := bne_eq_false_iff_eq.mpr c6
            clear c6
            obtain rfl := Option.some.inj H
            go_enter Tryd.func50, Tryd.ntmps50
            go_wp2
            go_ret
            exact ⟨by first | rfl | (simp; done) | (simp [*]; done), by repeat (first | exact Drawn0.refl _ | apply Drawn0.step)⟩
          · rw [if_neg c6] at H
            have c6b0 : (a0 == 11) = false := beq_eq_false_iff_ne.mpr c6
            have c6b1 : (a0 != 11) = true := bne_iff_ne.mpr c6
            by_cases c7 : a0 = 12
            · rw [if_pos c7] at H
              have c7b0 : (a0 == 12) = true := beq_iff_eq.mpr c7
              have c7b1 : (a0 != 12) = false := bne_eq_false_iff_eq.mpr c7
              clear c7
              obtain rfl := Option.some.inj H
              go_enter Tryd.func50, Tryd.ntmps50
              go_wp2
              go_ret
              exact ⟨by first | rfl | (simp; done) | (simp [*]; done), by repeat (first | exact Drawn0.refl _ | apply Drawn0.step)⟩
            · rw [if_neg c7] at H
              have c7b0 : (a0 == 12) = false := beq_eq_false_iff_ne.mpr c7
              have c7b1 : (a0 != 12) = true := bne_iff_ne.mpr c7
              obtain rfl := Option.some.inj H
              go_enter Tryd.func50, Tryd.ntmps50
              go_wp2
              go_ret
              exact ⟨by first | rfl | (simp; done) | (simp [*]; done), by repeat (first | exact Drawn0.refl _ | apply Drawn0.step)⟩

-- NOT PRINTED: function 44 (spec_reStep)

-- NOT PRINTED: function 36 (spec_reEach)

-- NOT PRINTED: function 23 (spec_reEnds)

/-! ### spec_rePlace: function 24 -/
def spec_rePlace.f (a0 : ByteArray) (a1 : Int) : Option (List Bool) := if 0 ≤ (wrap64 ((a0.size : Int) + 1)) then (if (wrap64 ((a0.size : Int) + 1) : Int).toNat ≤ 281474976710656 then ((some (List.replicate (wrap64 ((a0.size : Int) + 1) : Int).toNat false : List Bool)).bind fun y184 => (if 0 ≤ a1 then (if a1 < (y184.length : Int) then (some (y184.set (a1 : Int).toNat true)) else (none)) else (none))) else (none)) else (none)
set_option maxHeartbeats 8000000 in
set_option maxRecDepth 100000 in
theorem spec_rePlace.calls (a0 : ByteArray) (a1 : Int) (r : List Bool) (w : World) (h : spec_rePlace.f a0 a1 = some r) :
    Calls Tryd.prog 24 #[.string a0, .int .i64 a1] w fun e w' => ∃ v0_ : Value, e = .returned (v0_) ∧ Kd.R Kd.bool 4 w' w.heap.size (fun _ => True) v0_ r ∧ Below w.heap.size w w' := by
  have HB := Aside0.mk (Below.refl w.heap.size w)
  have H : (if 0 ≤ (wrap64 ((a0.size : Int) + 1)) then (if (wrap64 ((a0.size : Int) + 1) : Int).toNat ≤ 281474976710656 then ((some (List.replicate (wrap64 ((a0.size : Int) + 1) : Int).toNat false : List Bool)).bind fun y184 => (if 0 ≤ a1 then (if a1 < (y184.length : Int) then (some (y184.set (a1 : Int).toNat true)) else (none)) else (none))) else (none)) else (none)) = some r := h
  clear h
  obtain ⟨ji3, hji3⟩ : ∃ j_ : Int, (wrap64 ((a0.size : Int) + 1)) = j_ := ⟨_, rfl⟩
  replace H : (if 0 ≤ (ji3) then (if (ji3 : Int).toNat ≤ 281474976710656 then ((some (List.replicate (ji3 : Int).toNat false : List Bool)).bind fun y184 => (if 0 ≤ a1 then (if a1 < (y184.length : Int) then (some (y184.set (a1 : Int).toNat true)) else (none)) else (none))) else (none)) else (none)) = some r := by first | (rw [hji3] at H; exact H) | (simp only [hji3] at H ⊢; exact H)
  have hji3w : (IntKind.i64.wrap ((a0.size : Int) + 1)) = ji3 := (i64_w _).trans hji3
  by_cases c4 : 0 ≤ (ji3)
  · rw [if_pos c4] at H
    have c4b0 := eq_true c4
    have c4b1 : decide (0 ≤ (ji3)) = true := decide_eq_true c4
    clear c4
    by_cases c5 : (ji3 : Int).toNat ≤ 281474976710656
    · rw [if_pos c5] at H
      have c5b0 := eq_true c5
      have c5b1 : decide ((ji3 : Int).toNat ≤ 281474976710656) = true := decide_eq_true c5
      clear c5
      obtain ⟨y184, hy184⟩ : ∃ y_ : List Bool, y_ = (List.replicate (ji3 : Int).toNat false) := ⟨_, rfl⟩
      replace H : (if 0 ≤ a1 then (if a1 < (y184.length : Int) then (some (y184.set (a1 : Int).toNat true)) else (none)) else (none)) = some r := by first | (rw [hy184]; with_reducible exact H) | (have H2_ := (Option.bind_some _ _).symm.trans H; rw [hy184]; with_reducible exact H2_) | (have H2_ := (Option.bind_some _ _).symm.trans H; with_reducible exact H2_) | with_reducible exact H | (rw [hy184]; exact H) | exact H
      have Ny184 := Aside0.mk hy184
      clear hy184
      by_cases c6 : 0 ≤ a1
      · rw [if_pos c6] at H
        have c6b0 : decide (0 ≤ a1) = true := decide_eq_true c6
        clear c6
        by_cases c7 : a1 < (y184.length : Int)
        · rw [if_pos c7] at H
          have c7b0 : decide (a1 < (y184.length : Int)) = true := decide_eq_true c7
          clear c7
          obtain ⟨y187, hy187⟩ : ∃ y_ : List Bool, y_ = (y184.set (a1 : Int).toNat true) := ⟨_, rfl⟩
          replace H : (some y187) = some r := by first | (rw [hy187]; with_reducible exact H) | (have H2_ := (Option.bind_some _ _).symm.trans H; rw [hy187]; with_reducible exact H2_) | (have H2_ := (Option.bind_some _ _).symm.trans H; with_reducible exact H2_) | with_reducible exact H | (rw [hy187]; exact H) | exact H
          have Ny187 := Aside0.mk hy187
          clear hy187
          obtain rfl := Option.some.inj H
          go_enter Tryd.func24, Tryd.ntmps24
          go_wp2_with (first | ((with_reducible refine gate_dst (N := 9) rfl ?_); refine Kd.R_make Kd.bool _ 4 rfl (N := 9) rfl 47 _ _ rfl ji3 rfl rfl Tryd.underlying47 (.bool false) 1 info4 rfl (by decide) (by omega) false (ok := fun _ => True) (okp := fun _ => True) rfl (fun _ hk => hk) trivial (of_decide_eq_true (by first | (with_reducible assumption) | assumption)) (Nat.le_trans (Nat.mul_le_mul_right _ (of_decide_eq_true (by first | (with_reducible assumption) | assumption) : ji3.toNat ≤ 281474976710656)) (by omega)) (Below.refl _ _) (Nat.le_refl _) ?_; intro v185 w9 ho10 hb hg_ hnew_; clear hg_ hnew_; (first | rw [← Ny184.out] at ho10 | (simp only [Int.reduceToNat] at ho10; rw [← Ny184.out] at ho10)); have n0_ := Aside0.mk (Kd.R_lower ho10 (below_size (by repeat (first | (with_reducible first | exact HB.out | apply below_alloc | apply pw_below_drewN | apply below_drew1) | exact HB.out)))); have n1_ := Aside0.mk (below_step (by repeat (first | (with_reducible first | exact HB.out | apply below_alloc | apply pw_below_drewN | apply below_drew1) | exact HB.out)) hb); clear HB; have HO186 := n0_; have HB := n1_; clear n0_ n1_; clear hb ho10; have p8 : 0 ≤ (a1 : Int) := of_decide_eq_true (by first | (with_reducible assumption) | assumption); have q8 : (a1 : Int) < ((y184.length : Int) : Int) := of_decide_eq_true (by first | (with_reducible assumption) | assumption); obtain ⟨go8, co8, eo8, gb8, gl8, cl8, HG8⟩ := Kd.R_form HO186.out (by omega); (first | cases eo8 | (injection eo8 with ea_ en_ ec_; (first | subst ea_ | (injection ea_ with ea_; subst ea_)); subst ec_; clear en_)); have GB8 := Aside0.mk gb8; have GG8 := Aside0.mk HG8; clear gb8 gl8 HG8; obtain ⟨hx8_0, hf8_0⟩ := Kd.R_celln false HO186.out (a1 : Int) p8 q8; replace p8 := eq_true p8; replace q8 := eq_true q8; obtain ⟨hy11_, hz11_⟩ := Kd.R_celln false HO186.out (a1 : Int) (of_decide_eq_true (by first | (with_reducible assumption) | assumption)) (of_decide_eq_true (by first | (with_reducible assumption) | assumption)); have HP11 := Kd.R_putg HO186.out (a1 : Int) true) | ((with_reducible refine gate_store (t := 4) (p := 12) rfl ?_); refine store_event (t := 4) (p := 12) (v := ?vo_w12) (w1 := (w9.setCell ⟨go8, (a1 : Int).toNat, none⟩ (.bool true))) ?hg ?ho ?hn ?hr ?_; (case ho => rfl); (case hg => rfl); (case hn => rfl); (case hr => first | (go_simp; done) | (go_simp; rfl)); intro w12 hw; have hg : w9.grownBy w12 (some go8) := (by rw [hw]; exact HP11.2); have hp_ : Kd.R Kd.bool 4 w12 w.heap.size (fun _ => True) (.slice (some ⟨go8, 0, none⟩) y184.length co8) y187 := (by rw [hw, Ny187.out]; exact HP11.1); clear HP11; have n0_ := Aside0.mk (hp_); have n1_ := Aside0.mk ((by rw [hw]; exact below_set (HB.out) GB8.out : Below w.heap.size w w12)); clear HO186; clear HB; have HO186 := n0_; have HB := n1_; clear n0_ n1_; clear hg hw hp_))
          go_ret
          exact ⟨_, by first | rfl | (simp [errW_none, errW_some] <;> rfl) | (simp only [← hji3]; first | rfl | (simp [errW_none, errW_some] <;> rfl)) | (simp [*, errW_none, errW_some] <;> rfl), by (with_reducible repeat (first | apply Kd.R_alloc | apply Kd.R_drewN | apply Kd.R_drew)); exact HO186.out, by repeat (first | (with_reducible first | exact HB.out | apply below_alloc | apply pw_below_drewN | apply below_drew1) | exact HB.out)⟩
        · rw [if_neg c7] at H
          exact absurd H (by simp)
      · rw [if_neg c6] at H
        exact absurd H (by simp)
    · rw [if_neg c5] at H
      exact absurd H (by simp)
  · rw [if_neg c4] at H
    exact absurd H (by simp)

-- NOT PRINTED: function 14 (spec_ReEnds)

-- NOT PRINTED: function 7 (spec_ReShortest)

-- NOT PRINTED: function 3 (laws_FnMtLeast)

end Go.Proofs.YtofkpinikkfmeaaDoor.PFnMtLeast
