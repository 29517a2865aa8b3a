-- PRINTED BY print.sh 35421559b90ae4d0a3588c463048766b98c2df88dd9212a6774a882060cdf62d: not written by this session
import Derived.Test.YtaogbmljadaplaaPFnSyContextx0
import Derived.Test.YtaogbmljadaplaaPFnSyContextx1
namespace Go.Proofs.Ytaogbmljadaplaa.PFnSyContext
open Go.RowKit Go.Proofs.YtaogbmljadaplaaW.PrintWords Go.Proofs.YtaogbmljadaplaaW.PrintLast Go.Proofs.YtaogbmljadaplaaW.PrintMore
attribute [local go_sem] max2_int min2_int max_two min_two max_three min_three max_four min_four   -- for this text's walks alone
set_option linter.unusedVariables false
set_option linter.unusedSimpArgs false

/-! ### spec_CondBetween: function 11 -/
mutual
def spec_CondBetween.j0 : Nat → Int → Int → Int → Option (Int)
  | 0, _, _, _ => none
  | k + 1, x0, x1, x5 => if x0 = (-1) then (spec_CondBetween.j1 k x0 x1 x5 true) else (spec_CondBetween.j1 k x0 x1 x5 (x0 == 10))
def spec_CondBetween.j1 : Nat → Int → Int → Int → Bool → Option (Int)
  | 0, _, _, _, _ => none
  | k + 1, x0, x1, x5, x15 => if x15 = true then (spec_CondBetween.j2 k x0 x1 (Go.bits .or .i64 x5 1)) else (spec_CondBetween.j2 k x0 x1 x5)
def spec_CondBetween.j2 : Nat → Int → Int → Int → Option (Int)
  | 0, _, _, _ => none
  | k + 1, x0, x1, x5 => if x1 = (-1) then (spec_CondBetween.j3 k x0 x1 (Go.bits .or .i64 x5 8)) else (spec_CondBetween.j3 k x0 x1 x5)
def spec_CondBetween.j3 : Nat → Int → Int → Int → Option (Int)
  | 0, _, _, _ => none
  | k + 1, x0, x1, x5 => if x1 = (-1) then (spec_CondBetween.j4 k x0 x1 x5 true) else (spec_CondBetween.j4 k x0 x1 x5 (x1 == 10))
def spec_CondBetween.j4 : Nat → Int → Int → Int → Bool → Option (Int)
  | 0, _, _, _, _ => none
  | k + 1, x0, x1, x5, x27 => if x27 = true then (spec_CondBetween.j5 k x0 x1 (Go.bits .or .i64 x5 2)) else (spec_CondBetween.j5 k x0 x1 x5)
def spec_CondBetween.j5 : Nat → Int → Int → Int → Option (Int)
  | 0, _, _, _ => none
  | k + 1, x0, x1, x5 => (spec_reWord.f x0).bind fun t104 => ((spec_reWord.f x1).bind fun t105 => (if (t104 != t105) = true then (some (Go.bits .or .i64 x5 16)) else (some (Go.bits .or .i64 x5 32))))
end
def spec_CondBetween.f (k : Nat) (a0 : Int) (a1 : Int) : Option (Int) := if a0 = (-1) then (spec_CondBetween.j0 k a0 a1 (Go.bits .or .i64 0 4)) else (spec_CondBetween.j0 k a0 a1 0)
theorem spec_CondBetween.mono_l : ∀ k, (∀ y0 y1 y2, LeO (spec_CondBetween.j0 k y0 y1 y2) (spec_CondBetween.j0 (k + 1) y0 y1 y2)) ∧ (∀ y0 y1 y2 y3, LeO (spec_CondBetween.j1 k y0 y1 y2 y3) (spec_CondBetween.j1 (k + 1) y0 y1 y2 y3)) ∧ (∀ y0 y1 y2, LeO (spec_CondBetween.j2 k y0 y1 y2) (spec_CondBetween.j2 (k + 1) y0 y1 y2)) ∧ (∀ y0 y1 y2, LeO (spec_CondBetween.j3 k y0 y1 y2) (spec_CondBetween.j3 (k + 1) y0 y1 y2)) ∧ (∀ y0 y1 y2 y3, LeO (spec_CondBetween.j4 k y0 y1 y2 y3) (spec_CondBetween.j4 (k + 1) y0 y1 y2 y3)) ∧ (∀ y0 y1 y2, LeO (spec_CondBetween.j5 k y0 y1 y2) (spec_CondBetween.j5 (k + 1) y0 y1 y2))
  | 0 => ⟨fun _ _ _ r h => by simp [spec_CondBetween.j0] at h, fun _ _ _ _ r h => by simp [spec_CondBetween.j1] at h, fun _ _ _ r h => by simp [spec_CondBetween.j2] at h, fun _ _ _ r h => by simp [spec_CondBetween.j3] at h, fun _ _ _ _ r h => by simp [spec_CondBetween.j4] at h, fun _ _ _ r h => by simp [spec_CondBetween.j5] at h⟩
  | k + 1 => by
    obtain ⟨ih0, ih1, ih2, ih3, ih4, ih5⟩ := spec_CondBetween.mono_l k
    refine ⟨?_, ?_, ?_, ?_, ?_, ?_⟩
    · intro y0 y1 y2
      unfold spec_CondBetween.j0
      repeat' first
      | (with_reducible exact ih0 _ _ _)
      | (with_reducible exact ih1 _ _ _ _)
      | (with_reducible exact ih2 _ _ _)
      | (with_reducible exact ih3 _ _ _)
      | (with_reducible exact ih4 _ _ _ _)
      | (with_reducible exact ih5 _ _ _)
      | (with_reducible exact LeO.refl _)
      | (with_reducible exact LeO.none _)
      | (with_reducible refine LeO.ite ?_ ?_)
      | (with_reducible refine LeO.bind ?_ (fun _ => ?_))
      | exact ih0 _ _ _
      | exact ih1 _ _ _ _
      | exact ih2 _ _ _
      | exact ih3 _ _ _
      | exact ih4 _ _ _ _
      | exact ih5 _ _ _
      | exact LeO.none _
      | refine LeO.ite ?_ ?_
      | refine LeO.bind ?_ (fun _ => ?_)
    · intro y0 y1 y2 y3
      unfold spec_CondBetween.j1
      repeat' first
      | (with_reducible exact ih0 _ _ _)
      | (with_reducible exact ih1 _ _ _ _)
      | (with_reducible exact ih2 _ _ _)
      | (with_reducible exact ih3 _ _ _)
      | (with_reducible exact ih4 _ _ _ _)
      | (with_reducible exact ih5 _ _ _)
      | (with_reducible exact LeO.refl _)
      | (with_reducible exact LeO.none _)
      | (with_reducible refine LeO.ite ?_ ?_)
      | (with_reducible refine LeO.bind ?_ (fun _ => ?_))
      | exact ih0 _ _ _
      | exact ih1 _ _ _ _
      | exact ih2 _ _ _
      | exact ih3 _ _ _
      | exact ih4 _ _ _ _
      | exact ih5 _ _ _
      | exact LeO.none _
      | refine LeO.ite ?_ ?_
      | refine LeO.bind ?_ (fun _ => ?_)
    · intro y0 y1 y2
      unfold spec_CondBetween.j2
      repeat' first
      | (with_reducible exact ih0 _ _ _)
      | (with_reducible exact ih1 _ _ _ _)
      | (with_reducible exact ih2 _ _ _)
      | (with_reducible exact ih3 _ _ _)
      | (with_reducible exact ih4 _ _ _ _)
      | (with_reducible exact ih5 _ _ _)
      | (with_reducible exact LeO.refl _)
      | (with_reducible exact LeO.none _)
      | (with_reducible refine LeO.ite ?_ ?_)
      | (with_reducible refine LeO.bind ?_ (fun _ => ?_))
      | exact ih0 _ _ _
      | exact ih1 _ _ _ _
      | exact ih2 _ _ _
      | exact ih3 _ _ _
      | exact ih4 _ _ _ _
      | exact ih5 _ _ _
      | exact LeO.none _
      | refine LeO.ite ?_ ?_
      | refine LeO.bind ?_ (fun _ => ?_)
    · intro y0 y1 y2
      unfold spec_CondBetween.j3
      repeat' first
      | (with_reducible exact ih0 _ _ _)
      | (with_reducible exact ih1 _ _ _ _)
      | (with_reducible exact ih2 _ _ _)
      | (with_reducible exact ih3 _ _ _)
      | (with_reducible exact ih4 _ _ _ _)
      | (with_reducible exact ih5 _ _ _)
      | (with_reducible exact LeO.refl _)
      | (with_reducible exact LeO.none _)
      | (with_reducible refine LeO.ite ?_ ?_)
      | (with_reducible refine LeO.bind ?_ (fun _ => ?_))
      | exact ih0 _ _ _
      | exact ih1 _ _ _ _
      | exact ih2 _ _ _
      | exact ih3 _ _ _
      | exact ih4 _ _ _ _
      | exact ih5 _ _ _
      | exact LeO.none _
      | refine LeO.ite ?_ ?_
      | refine LeO.bind ?_ (fun _ => ?_)
    · intro y0 y1 y2 y3
      unfold spec_CondBetween.j4
      repeat' first
      | (with_reducible exact ih0 _ _ _)
      | (with_reducible exact ih1 _ _ _ _)
      | (with_reducible exact ih2 _ _ _)
      | (with_reducible exact ih3 _ _ _)
      | (with_reducible exact ih4 _ _ _ _)
      | (with_reducible exact ih5 _ _ _)
      | (with_reducible exact LeO.refl _)
      | (with_reducible exact LeO.none _)
      | (with_reducible refine LeO.ite ?_ ?_)
      | (with_reducible refine LeO.bind ?_ (fun _ => ?_))
      | exact ih0 _ _ _
      | exact ih1 _ _ _ _
      | exact ih2 _ _ _
      | exact ih3 _ _ _
      | exact ih4 _ _ _ _
      | exact ih5 _ _ _
      | exact LeO.none _
      | refine LeO.ite ?_ ?_
      | refine LeO.bind ?_ (fun _ => ?_)
    · intro y0 y1 y2
      unfold spec_CondBetween.j5
      repeat' first
      | (with_reducible exact ih0 _ _ _)
      | (with_reducible exact ih1 _ _ _ _)
      | (with_reducible exact ih2 _ _ _)
      | (with_reducible exact ih3 _ _ _)
      | (with_reducible exact ih4 _ _ _ _)
      | (with_reducible exact ih5 _ _ _)
      | (with_reducible exact LeO.refl _)
      | (with_reducible exact LeO.none _)
      | (with_reducible refine LeO.ite ?_ ?_)
      | (with_reducible refine LeO.bind ?_ (fun _ => ?_))
      | exact ih0 _ _ _
      | exact ih1 _ _ _ _
      | exact ih2 _ _ _
      | exact ih3 _ _ _
      | exact ih4 _ _ _ _
      | exact ih5 _ _ _
      | exact LeO.none _
      | refine LeO.ite ?_ ?_
      | refine LeO.bind ?_ (fun _ => ?_)
theorem spec_CondBetween.mono : ∀ a0 a1 k, LeO (spec_CondBetween.f k a0 a1) (spec_CondBetween.f (k + 1) a0 a1) := by
  intro a0 a1 k
  obtain ⟨ih0, ih1, ih2, ih3, ih4, ih5⟩ := spec_CondBetween.mono_l k
  unfold spec_CondBetween.f
  repeat' first
      | (with_reducible exact ih0 _ _ _)
      | (with_reducible exact ih1 _ _ _ _)
      | (with_reducible exact ih2 _ _ _)
      | (with_reducible exact ih3 _ _ _)
      | (with_reducible exact ih4 _ _ _ _)
      | (with_reducible exact ih5 _ _ _)
      | (with_reducible exact LeO.refl _)
      | (with_reducible exact LeO.none _)
      | (with_reducible refine LeO.ite ?_ ?_)
      | (with_reducible refine LeO.bind ?_ (fun _ => ?_))
      | exact ih0 _ _ _
      | exact ih1 _ _ _ _
      | exact ih2 _ _ _
      | exact ih3 _ _ _
      | exact ih4 _ _ _ _
      | exact ih5 _ _ _
      | exact LeO.none _
      | refine LeO.ite ?_ ?_
      | refine LeO.bind ?_ (fun _ => ?_)
set_option maxHeartbeats 8000000 in
set_option maxRecDepth 100000 in
theorem spec_CondBetween.calls (k : Nat) (a0 : Int) (a1 : Int) (r : Int) (w : World) (h : spec_CondBetween.f k a0 a1 = some r) :
    Calls Try.prog 11 #[.int .i32 a0, .int .i32 a1] w fun e w' => e = .returned (.int .i64 r) ∧ Drawn0 w w' := by
  have H : (if a0 = (-1) then (spec_CondBetween.j0 k a0 a1 (Go.bits .or .i64 0 4)) else (spec_CondBetween.j0 k a0 a1 0)) = some r := h
  clear h
  have HC3 := Aside0.mk H
  clear H
  go_enter Try.func11, Try.ntmps11
  go_upto_if 7 with (fail)
  go_cut [5] (fun v5 wc => ∃ (kq : Nat) (x5_2 : Int), v5 = .int .i64 x5_2 ∧ Aside0 (spec_CondBetween.j0 kq a0 a1 x5_2 = some r) ∧ Aside0 (kq ≤ k) ∧ Drawn0 w wc)
  case first =>
    have H := HC3.out
    clear HC3
    by_cases c4 : a0 = (-1)
    · rw [if_pos c4] at H
      have c4b0 : (a0 == (-1)) = true := beq_iff_eq.mpr c4
      have c4b1 : (a0 != (-1)) = false := bne_eq_false_iff_eq.mpr c4
      clear c4
      (first | rw [c4b0] | (simp only [i64_w, i32_w]; rw [c4b0]) | skip)
      have H' := Aside0.mk H
      clear H
      go_wp2
      go_meet
      case rel => exact ⟨_, (Go.bits .or .i64 0 4), (by first | rfl | (simp; done) | (simp [*]; done)), H', ⟨by first | omega | exact Nat.le_refl _⟩, by repeat (first | exact Drawn0.refl _ | apply Drawn0.step)⟩
    · rw [if_neg c4] at H
      have c4b0 : (a0 == (-1)) = false := beq_eq_false_iff_ne.mpr c4
      have c4b1 : (a0 != (-1)) = true := bne_iff_ne.mpr c4
      (first | rw [c4b0] | (simp only [i64_w, i32_w]; rw [c4b0]) | skip)
      have H' := Aside0.mk H
      clear H
      go_wp2
      go_meet
      case rel => exact ⟨_, (0), (by first | rfl | (simp; done) | (simp [*]; done)), H', ⟨by first | omega | exact Nat.le_refl _⟩, by repeat (first | exact Drawn0.refl _ | apply Drawn0.step)⟩
  case rest =>
    clear HC3
    try clear c1
    try clear p2
    try clear c4
    try clear c4b0
    try clear c4b1
    obtain ⟨kq, x5_2, rfl, HA, HJ2, ⟨mc2, rfl⟩⟩ := hcut
    cases kq with
    | zero => exact absurd HA.out (by simp [spec_CondBetween.j0])
    | succ kj2 =>
      have H := HA.out
      clear HA
      simp only [spec_CondBetween.j0] at H
      have HC5 := Aside0.mk H
      clear H
      go_upto_region 4 with (fail)
      go_cut [15] (fun v15 wc => ∃ (kq : Nat) (x15_4 : Bool), v15 = .bool x15_4 ∧ Aside0 (spec_CondBetween.j1 kq a0 a1 x5_2 x15_4 = some r) ∧ Aside0 (kq ≤ kj2) ∧ Drawn0 w wc)
      case first =>
        have H := HC5.out
        clear HC5
        by_cases c6 : a0 = (-1)
        · rw [if_pos c6] at H
          have c6b0 : (a0 == (-1)) = true := beq_iff_eq.mpr c6
          have c6b1 : (a0 != (-1)) = false := bne_eq_false_iff_eq.mpr c6
          clear c6
          (first | rw [c6b0] | (simp only [i64_w, i32_w]; rw [c6b0]) | skip)
          have H' := Aside0.mk H
          clear H
          go_wp2
          go_meet
          case rel => exact ⟨_, (true), (by first | rfl | (simp; done) | (simp [*]; done)), H', ⟨by have := HJ2.out; first | omega | exact Nat.le_refl _⟩, by repeat (first | exact Drawn0.refl _ | apply Drawn0.step)⟩
        · rw [if_neg c6] at H
          have c6b0 : (a0 == (-1)) = false := beq_eq_false_iff_ne.mpr c6
          have c6b1 : (a0 != (-1)) = true := bne_iff_ne.mpr c6
          (first | rw [c6b0] | (simp only [i64_w, i32_w]; rw [c6b0]) | skip)
          have H' := Aside0.mk H
          clear H
          go_wp2
          go_meet
          case rel => exact ⟨_, ((a0 == 10)), (by first | rfl | (simp; done) | (simp [*]; done)), H', ⟨by have := HJ2.out; first | omega | exact Nat.le_refl _⟩, by repeat (first | exact Drawn0.refl _ | apply Drawn0.step)⟩
      case rest =>
        clear HC5
        try clear c1
        try clear c2
        try clear p2
        try clear c4
        try clear c4b0
        try clear c4b1
        try clear c6
        try clear c6b0
        try clear c6b1
        try clear p2
        obtain ⟨kq, x15_4, rfl, HA, HJ4, ⟨mc4, rfl⟩⟩ := hcut
        cases kq with
        | zero => exact absurd HA.out (by simp [spec_CondBetween.j1])
        | succ kj4 =>
          have H := HA.out
          clear HA
          simp only [spec_CondBetween.j1] at H
          have HC7 := Aside0.mk H
          clear H
          go_upto_if 15 with (fail)
          go_cut [5] (fun v5 wc => ∃ (kq : Nat) (x5_6 : Int), v5 = .int .i64 x5_6 ∧ Aside0 (spec_CondBetween.j2 kq a0 a1 x5_6 = some r) ∧ Aside0 (kq ≤ kj4) ∧ Drawn0 w wc)
          case first =>
            have H := HC7.out
            clear HC7
            by_cases c8 : x15_4 = true
            · subst c8
              have H1 : (spec_CondBetween.j2 kj4 a0 a1 (Go.bits .or .i64 x5_2 1)) = some r := by rw [if_pos rfl] at H; exact H
              clear H
              have H := H1
              clear H1
              have H' := Aside0.mk H
              clear H
              go_wp2
              go_meet
              case rel => exact ⟨_, (Go.bits .or .i64 x5_2 1), (by first | rfl | (simp; done) | (simp [*]; done)), H', ⟨by have := HJ2.out; have := HJ4.out; first | omega | exact Nat.le_refl _⟩, by repeat (first | exact Drawn0.refl _ | apply Drawn0.step)⟩
            · replace c8 := Bool.eq_false_iff.mpr c8
              subst c8
              have H1 : (spec_CondBetween.j2 kj4 a0 a1 x5_2) = some r := by rw [if_neg (show ¬ (false = true) by decide)] at H; exact H
              clear H
              have H := H1
              clear H1
              have H' := Aside0.mk H
              clear H
              go_wp2
              go_meet
              case rel => exact ⟨_, (x5_2), (by first | rfl | (simp; done) | (simp [*]; done)), H', ⟨by have := HJ2.out; have := HJ4.out; first | omega | exact Nat.le_refl _⟩, by repeat (first | exact Drawn0.refl _ | apply Drawn0.step)⟩
          case rest =>
            clear HC7
            try clear c1
            try clear c2
            try clear p2
            try clear c4
            try clear c4b0
            try clear c4b1
            try clear c6
            try clear c6b0
            try clear c6b1
            try clear c8
            try clear p2
            obtain ⟨kq, x5_6, rfl, HA, HJ6, ⟨mc6, rfl⟩⟩ := hcut
            cases kq with
            | zero => exact absurd HA.out (by simp [spec_CondBetween.j2])
            | succ kj6 =>
              have H := HA.out
              clear HA
              simp only [spec_CondBetween.j2] at H
              have HC9 := Aside0.mk H
              clear H
              go_upto_if 19 with (fail)
              go_cut [5] (fun v5 wc => ∃ (kq : Nat) (x5_8 : Int), v5 = .int .i64 x5_8 ∧ Aside0 (spec_CondBetween.j3 kq a0 a1 x5_8 = some r) ∧ Aside0 (kq ≤ kj6) ∧ Drawn0 w wc)
              case first =>
                have H := HC9.out
                clear HC9
                by_cases c10 : a1 = (-1)
                · rw [if_pos c10] at H
                  have c10b0 : (a1 == (-1)) = true := beq_iff_eq.mpr c10
                  have c10b1 : (a1 != (-1)) = false := bne_eq_false_iff_eq.mpr c10
                  clear c10
                  (first | rw [c10b0] | (simp only [i64_w, i32_w]; rw [c10b0]) | skip)
                  have H' := Aside0.mk H
                  clear H
                  go_wp2
                  go_meet
                  case rel => exact ⟨_, (Go.bits .or .i64 x5_6 8), (by first | rfl | (simp; done) | (simp [*]; done)), H', ⟨by have := HJ2.out; have := HJ4.out; have := HJ6.out; first | omega | exact Nat.le_refl _⟩, by repeat (first | exact Drawn0.refl _ | apply Drawn0.step)⟩
                · rw [if_neg c10] at H
                  have c10b0 : (a1 == (-1)) = false := beq_eq_false_iff_ne.mpr c10
                  have c10b1 : (a1 != (-1)) = true := bne_iff_ne.mpr c10
                  (first | rw [c10b0] | (simp only [i64_w, i32_w]; rw [c10b0]) | skip)
                  have H' := Aside0.mk H
                  clear H
                  go_wp2
                  go_meet
                  case rel => exact ⟨_, (x5_6), (by first | rfl | (simp; done) | (simp [*]; done)), H', ⟨by have := HJ2.out; have := HJ4.out; have := HJ6.out; first | omega | exact Nat.le_refl _⟩, by repeat (first | exact Drawn0.refl _ | apply Drawn0.step)⟩
              case rest =>
                clear HC9
                try clear c1
                try clear c2
                try clear p2
                try clear c4
                try clear c4b0
                try clear c4b1
                try clear c6
                try clear c6b0
                try clear c6b1
                try clear c8
                try clear c10
                try clear c10b0
                try clear c10b1
                try clear p2
                obtain ⟨kq, x5_8, rfl, HA, HJ8, ⟨mc8, rfl⟩⟩ := hcut
                cases kq with
                | zero => exact absurd HA.out (by simp [spec_CondBetween.j3])
                | succ kj8 =>
                  have H := HA.out
                  clear HA
                  simp only [spec_CondBetween.j3] at H
                  have HC11 := Aside0.mk H
                  clear H
                  go_upto_region 8 with (fail)
                  go_cut [27] (fun v27 wc => ∃ (kq : Nat) (x27_10 : Bool), v27 = .bool x27_10 ∧ Aside0 (spec_CondBetween.j4 kq a0 a1 x5_8 x27_10 = some r) ∧ Aside0 (kq ≤ kj8) ∧ Drawn0 w wc)
                  case first =>
                    have H := HC11.out
                    clear HC11
                    by_cases c12 : a1 = (-1)
                    · rw [if_pos c12] at H
                      have c12b0 : (a1 == (-1)) = true := beq_iff_eq.mpr c12
                      have c12b1 : (a1 != (-1)) = false := bne_eq_false_iff_eq.mpr c12
                      clear c12
                      (first | rw [c12b0] | (simp only [i64_w, i32_w]; rw [c12b0]) | skip)
                      have H' := Aside0.mk H
                      clear H
                      go_wp2
                      go_meet
                      case rel => exact ⟨_, (true), (by first | rfl | (simp; done) | (simp [*]; done)), H', ⟨by have := HJ2.out; have := HJ4.out; have := HJ6.out; have := HJ8.out; first | omega | exact Nat.le_refl _⟩, by repeat (first | exact Drawn0.refl _ | apply Drawn0.step)⟩
                    · rw [if_neg c12] at H
                      have c12b0 : (a1 == (-1)) = false := beq_eq_false_iff_ne.mpr c12
                      have c12b1 : (a1 != (-1)) = true := bne_iff_ne.mpr c12
                      (first | rw [c12b0] | (simp only [i64_w, i32_w]; rw [c12b0]) | skip)
                      have H' := Aside0.mk H
                      clear H
                      go_wp2
                      go_meet
                      case rel => exact ⟨_, ((a1 == 10)), (by first | rfl | (simp; done) | (simp [*]; done)), H', ⟨by have := HJ2.out; have := HJ4.out; have := HJ6.out; have := HJ8.out; first | omega | exact Nat.le_refl _⟩, by repeat (first | exact Drawn0.refl _ | apply Drawn0.step)⟩
                  case rest =>
                    clear HC11
                    try clear c1
                    try clear c2
                    try clear p2
                    try clear c4
                    try clear c4b0
                    try clear c4b1
                    try clear c6
                    try clear c6b0
                    try clear c6b1
                    try clear c8
                    try clear c10
                    try clear c10b0
                    try clear c10b1
                    try clear c11
                    try clear c12
                    try clear c12b0
                    try clear c12b1
                    try clear p2
                    obtain ⟨kq, x27_10, rfl, HA, HJ10, ⟨mc10, rfl⟩⟩ := hcut
                    cases kq with
                    | zero => exact absurd HA.out (by simp [spec_CondBetween.j4])
                    | succ kj10 =>
                      have H := HA.out
                      clear HA
                      simp only [spec_CondBetween.j4] at H
                      have HC13 := Aside0.mk H
                      clear H
                      go_upto_if 27 with (fail)
                      go_cut [5] (fun v5 wc => ∃ (kq : Nat) (x5_12 : Int), v5 = .int .i64 x5_12 ∧ Aside0 (spec_CondBetween.j5 kq a0 a1 x5_12 = some r) ∧ Aside0 (kq ≤ kj10) ∧ Drawn0 w wc)
                      case first =>
                        have H := HC13.out
                        clear HC13
                        by_cases c14 : x27_10 = true
                        · subst c14
                          have H1 : (spec_CondBetween.j5 kj10 a0 a1 (Go.bits .or .i64 x5_8 2)) = some r := by rw [if_pos rfl] at H; exact H
                          clear H
                          have H := H1
                          clear H1
                          have H' := Aside0.mk H
                          clear H
                          go_wp2
                          go_meet
                          case rel => exact ⟨_, (Go.bits .or .i64 x5_8 2), (by first | rfl | (simp; done) | (simp [*]; done)), H', ⟨by have := HJ2.out; have := HJ4.out; have := HJ6.out; have := HJ8.out; have := HJ10.out; first | omega | exact Nat.le_refl _⟩, by repeat (first | exact Drawn0.refl _ | apply Drawn0.step)⟩
                        · replace c14 := Bool.eq_false_iff.mpr c14
                          subst c14
                          have H1 : (spec_CondBetween.j5 kj10 a0 a1 x5_8) = some r := by rw [if_neg (show ¬ (false = true) by decide)] at H; exact H
                          clear H
                          have H := H1
                          clear H1
                          have H' := Aside0.mk H
                          clear H
                          go_wp2
                          go_meet
                          case rel => exact ⟨_, (x5_8), (by first | rfl | (simp; done) | (simp [*]; done)), H', ⟨by have := HJ2.out; have := HJ4.out; have := HJ6.out; have := HJ8.out; have := HJ10.out; first | omega | exact Nat.le_refl _⟩, by repeat (first | exact Drawn0.refl _ | apply Drawn0.step)⟩
                      case rest =>
                        clear HC13
                        try clear c1
                        try clear c2
                        try clear p2
                        try clear c4
                        try clear c4b0
                        try clear c4b1
                        try clear c6
                        try clear c6b0
                        try clear c6b1
                        try clear c8
                        try clear c10
                        try clear c10b0
                        try clear c10b1
                        try clear c11
                        try clear c12
                        try clear c12b0
                        try clear c12b1
                        try clear c14
                        try clear p2
                        obtain ⟨kq, x5_12, rfl, HA, HJ12, ⟨mc12, rfl⟩⟩ := hcut
                        cases kq with
                        | zero => exact absurd HA.out (by simp [spec_CondBetween.j5])
                        | succ kj12 =>
                          have H := HA.out
                          clear HA
                          simp only [spec_CondBetween.j5] at H
                          replace H := Option.bind_eq_some_iff.mp H
                          obtain ⟨t104, A150, H⟩ := H
                          replace H : ((spec_reWord.f a1).bind fun t105 => (if (t104 != t105) = true then (some (Go.bits .or .i64 x5_12 16)) else (some (Go.bits .or .i64 x5_12 32)))) = some r := H
                          have A15 := Aside0.mk A150
                          clear A150
                          replace H := Option.bind_eq_some_iff.mp H
                          obtain ⟨t105, A160, H⟩ := H
                          replace H : (if (t104 != t105) = true then (some (Go.bits .or .i64 x5_12 16)) else (some (Go.bits .or .i64 x5_12 32))) = some r := H
                          have A16 := Aside0.mk A160
                          clear A160
                          by_cases c17 : (t104 != t105) = true
                          · rw [if_pos c17] at H
                            have c17b0 : (t104 != t105) = true := c17
                            (try (have c17b1 : decide (t104 = t105) = false := by simpa using c17))
                            (try (have c17b2 : (t104 == t105) = false := by simpa using c17))
                            (try (have c17b3 : ¬ (t104 = t105) := by simpa using c17))
                            clear c17
                            obtain rfl := Option.some.inj H
                            go_wp2_with (first | ((with_reducible refine gate_callee (f := 29) rfl ?_); refine goesL_ (some 31) rfl rfl Try.func29 (by kernel_rfl) rfl #[.int .i32 a0] rfl (by (try simp only [List.map_toArray, List.map_cons, List.map_nil]); first | done | rfl | (simp only [List.length_drop, List.length_take]; rfl)) ?_; (with_reducible refine (spec_reWord.calls a0 t104 _ A15.out).mono ?_); rintro e w' ⟨rfl, ⟨nd, rfl⟩⟩; refine ⟨_, rfl, ?_⟩) | ((with_reducible refine gate_callee (f := 29) rfl ?_); refine goesL_ (some 33) rfl rfl Try.func29 (by kernel_rfl) rfl #[.int .i32 a1] rfl (by (try simp only [List.map_toArray, List.map_cons, List.map_nil]); first | done | rfl | (simp only [List.length_drop, List.length_take]; rfl)) ?_; (with_reducible refine (spec_reWord.calls a1 t105 _ A16.out).mono ?_); rintro e w' ⟨rfl, ⟨nd, rfl⟩⟩; refine ⟨_, rfl, ?_⟩))
                            go_ret
                            exact ⟨by first | rfl | (simp; done) | (simp [*]; done), by repeat (first | exact Drawn0.refl _ | apply Drawn0.step)⟩
                          · rw [if_neg c17] at H
                            have c17b0 : (t104 != t105) = false := by simpa using c17
                            (try (have c17b1 : decide (t104 = t105) = true := by simpa using c17))
                            (try (have c17b2 : (t104 == t105) = true := by simpa using c17))
                            clear c17
                            obtain rfl := Option.some.inj H
                            go_wp2_with (first | ((with_reducible refine gate_callee (f := 29) rfl ?_); refine goesL_ (some 31) rfl rfl Try.func29 (by kernel_rfl) rfl #[.int .i32 a0] rfl (by (try simp only [List.map_toArray, List.map_cons, List.map_nil]); first | done | rfl | (simp only [List.length_drop, List.length_take]; rfl)) ?_; (with_reducible refine (spec_reWord.calls a0 t104 _ A15.out).mono ?_); rintro e w' ⟨rfl, ⟨nd, rfl⟩⟩; refine ⟨_, rfl, ?_⟩) | ((with_reducible refine gate_callee (f := 29) rfl ?_); refine goesL_ (some 33) rfl rfl Try.func29 (by kernel_rfl) rfl #[.int .i32 a1] rfl (by (try simp only [List.map_toArray, List.map_cons, List.map_nil]); first | done | rfl | (simp only [List.length_drop, List.length_take]; rfl)) ?_; (with_reducible refine (spec_reWord.calls a1 t105 _ A16.out).mono ?_); rintro e w' ⟨rfl, ⟨nd, rfl⟩⟩; refine ⟨_, rfl, ?_⟩))
                            go_ret
                            exact ⟨by first | rfl | (simp; done) | (simp [*]; done), by repeat (first | exact Drawn0.refl _ | apply Drawn0.step)⟩

/-! ### impl_SyWord: function 12 -/
def impl_SyWord.f (a0 : Int) : Option (Bool) := (regexpsyntax_IsWordChar.f a0).bind fun t106 => (some t106)
set_option maxHeartbeats 8000000 in
set_option maxRecDepth 100000 in
theorem impl_SyWord.calls (a0 : Int) (r : Bool) (w : World) (h : impl_SyWord.f a0 = some r) :
    Calls Try.prog 12 #[.int .i32 a0] w fun e w' => e = .returned (.bool r) ∧ Drawn0 w w' := by
  have H : ((regexpsyntax_IsWordChar.f a0).bind fun t106 => (some t106)) = some r := h
  clear h
  replace H := Option.bind_eq_some_iff.mp H
  obtain ⟨t106, A20, H⟩ := H
  replace H : (some t106) = some r := H
  have A2 := Aside0.mk A20
  clear A20
  obtain rfl := Option.some.inj H
  go_enter Try.func12, Try.ntmps12
  go_wp2_with (first | ((with_reducible refine gate_callee (f := 30) rfl ?_); refine goesL_ (some 4) rfl rfl Try.func30 (by kernel_rfl) rfl #[.int .i32 a0] rfl (by (try simp only [List.map_toArray, List.map_cons, List.map_nil]); first | done | rfl | (simp only [List.length_drop, List.length_take]; rfl)) ?_; (with_reducible refine (regexpsyntax_IsWordChar.calls a0 t106 _ A2.out).mono ?_); rintro e w' ⟨rfl, ⟨nd, rfl⟩⟩; refine ⟨_, rfl, ?_⟩))
  go_ret
  exact ⟨by first | rfl | (simp; done) | (simp [*]; done), by repeat (first | exact Drawn0.refl _ | apply Drawn0.step)⟩

/-! ### laws_FnSyContext: function 3 -/
def laws_FnSyContext.j0 : Nat → Int → Int → Bool → Option (Bool)
  | 0, _, _, _ => none
  | k + 1, x0, x1, x18 => if x18 = true then (some true) else ((impl_SyContext.f k x0 x1).bind fun t107 => ((spec_CondBetween.f k x0 x1).bind fun t108 => (if t107 = t108 then ((impl_SyWord.f 97).bind fun t109 => (some t109)) else (some false))))
def laws_FnSyContext.f (k : Nat) (a0 : Int) (a1 : Int) : Option (Bool) := if a0 < (-1) then (laws_FnSyContext.j0 k a0 a1 true) else (if a1 < (-1) then (laws_FnSyContext.j0 k a0 a1 true) else (if a0 > 1114111 then (laws_FnSyContext.j0 k a0 a1 true) else (laws_FnSyContext.j0 k a0 a1 (decide (a1 > 1114111)))))
theorem laws_FnSyContext.mono_l : ∀ k, (∀ y0 y1 y2, LeO (laws_FnSyContext.j0 k y0 y1 y2) (laws_FnSyContext.j0 (k + 1) y0 y1 y2))
  | 0 => fun _ _ _ r h => by simp [laws_FnSyContext.j0] at h
  | k + 1 => by
    have ih0 := laws_FnSyContext.mono_l k
    · intro y0 y1 y2
      unfold laws_FnSyContext.j0
      repeat' first
      | (with_reducible exact ih0 _ _ _)
      | (with_reducible exact impl_SyContext.mono _ _ _)
      | (with_reducible exact spec_CondBetween.mono _ _ _)
      | (with_reducible exact LeO.refl _)
      | (with_reducible exact LeO.none _)
      | (with_reducible refine LeO.ite ?_ ?_)
      | (with_reducible refine LeO.bind ?_ (fun _ => ?_))
      | exact ih0 _ _ _
      | exact impl_SyContext.mono _ _ _
      | exact spec_CondBetween.mono _ _ _
      | exact LeO.none _
      | refine LeO.ite ?_ ?_
      | refine LeO.bind ?_ (fun _ => ?_)
theorem laws_FnSyContext.mono : ∀ a0 a1 k, LeO (laws_FnSyContext.f k a0 a1) (laws_FnSyContext.f (k + 1) a0 a1) := by
  intro a0 a1 k
  have ih0 := laws_FnSyContext.mono_l k
  unfold laws_FnSyContext.f
  repeat' first
      | (with_reducible exact ih0 _ _ _)
      | (with_reducible exact impl_SyContext.mono _ _ _)
      | (with_reducible exact spec_CondBetween.mono _ _ _)
      | (with_reducible exact LeO.refl _)
      | (with_reducible exact LeO.none _)
      | (with_reducible refine LeO.ite ?_ ?_)
      | (with_reducible refine LeO.bind ?_ (fun _ => ?_))
      | exact ih0 _ _ _
      | exact impl_SyContext.mono _ _ _
      | exact spec_CondBetween.mono _ _ _
      | exact LeO.none _
      | refine LeO.ite ?_ ?_
      | refine LeO.bind ?_ (fun _ => ?_)
set_option maxHeartbeats 8000000 in
set_option maxRecDepth 100000 in
theorem laws_FnSyContext.calls (k : Nat) (a0 : Int) (a1 : Int) (r : Bool) (w : World) (h : laws_FnSyContext.f k a0 a1 = some r) :
    Calls Try.prog 3 #[.int .i32 a0, .int .i32 a1] w fun e w' => e = .returned (.bool r) ∧ Drawn0 w w' := by
  have H : (if a0 < (-1) then (laws_FnSyContext.j0 k a0 a1 true) else (if a1 < (-1) then (laws_FnSyContext.j0 k a0 a1 true) else (if a0 > 1114111 then (laws_FnSyContext.j0 k a0 a1 true) else (laws_FnSyContext.j0 k a0 a1 (decide (a1 > 1114111)))))) = some r := h
  clear h
  have HC3 := Aside0.mk H
  clear H
  go_enter Try.func3, Try.ntmps3
  go_upto_region 1 with (fail)
  go_cut [18] (fun v18 wc => ∃ (kq : Nat) (x18_2 : Bool), v18 = .bool x18_2 ∧ Aside0 (laws_FnSyContext.j0 kq a0 a1 x18_2 = some r) ∧ Aside0 (kq ≤ k) ∧ Drawn0 w wc)
  case first =>
    have H := HC3.out
    clear HC3
    by_cases c4 : a0 < (-1)
    · rw [if_pos c4] at H
      have c4b0 : decide (a0 < (-1)) = true := decide_eq_true c4
      clear c4
      (first | rw [c4b0] | (simp only [i64_w, i32_w]; rw [c4b0]) | skip)
      have H' := Aside0.mk H
      clear H
      go_wp2
      go_meet
      case rel => exact ⟨_, (true), (by first | rfl | (simp; done) | (simp [*]; done)), H', ⟨by first | omega | exact Nat.le_refl _⟩, by repeat (first | exact Drawn0.refl _ | apply Drawn0.step)⟩
    · rw [if_neg c4] at H
      have c4b0 : decide (a0 < (-1)) = false := decide_eq_false c4
      clear c4
      (first | rw [c4b0] | (simp only [i64_w, i32_w]; rw [c4b0]) | skip)
      by_cases c5 : a1 < (-1)
      · rw [if_pos c5] at H
        have c5b0 : decide (a1 < (-1)) = true := decide_eq_true c5
        clear c5
        have H' := Aside0.mk H
        clear H
        go_wp2
        go_meet
        case rel => exact ⟨_, (true), (by first | rfl | (simp; done) | (simp [*]; done)), H', ⟨by first | omega | exact Nat.le_refl _⟩, by repeat (first | exact Drawn0.refl _ | apply Drawn0.step)⟩
      · rw [if_neg c5] at H
        have c5b0 : decide (a1 < (-1)) = false := decide_eq_false c5
        clear c5
        by_cases c6 : a0 > 1114111
        · rw [if_pos c6] at H
          have c6b0 : decide (1114111 < a0) = true := decide_eq_true c6
          clear c6
          have H' := Aside0.mk H
          clear H
          go_wp2
          go_meet
          case rel => exact ⟨_, (true), (by first | rfl | (simp; done) | (simp [*]; done)), H', ⟨by first | omega | exact Nat.le_refl _⟩, by repeat (first | exact Drawn0.refl _ | apply Drawn0.step)⟩
        · rw [if_neg c6] at H
          have c6b0 : decide (1114111 < a0) = false := decide_eq_false c6
          clear c6
          have H' := Aside0.mk H
          clear H
          go_wp2
          go_meet
          case rel => exact ⟨_, (decide (a1 > 1114111)), (by first | rfl | (simp; done) | (simp [*]; done)), H', ⟨by first | omega | exact Nat.le_refl _⟩, by repeat (first | exact Drawn0.refl _ | apply Drawn0.step)⟩
  case rest =>
    clear HC3
    try clear p2
    try clear c3
    try clear c4
    try clear c4b0
    try clear c5
    try clear c5b0
    try clear c6
    try clear c6b0
    obtain ⟨kq, x18_2, rfl, HA, HJ2, ⟨mc2, rfl⟩⟩ := hcut
    cases kq with
    | zero => exact absurd HA.out (by simp [laws_FnSyContext.j0])
    | succ kj2 =>
      have H := HA.out
      clear HA
      simp only [laws_FnSyContext.j0] at H
      by_cases c7 : x18_2 = true
      · subst c7
        have H1 : (some true) = some r := by rw [if_pos rfl] at H; exact H
        clear H
        have H := H1
        clear H1
        obtain rfl := Option.some.inj H
        go_wp2
        go_ret
        exact ⟨by first | rfl | (simp; done) | (simp [*]; done), by repeat (first | exact Drawn0.refl _ | apply Drawn0.step)⟩
      · replace c7 := Bool.eq_false_iff.mpr c7
        subst c7
        have H1 : ((impl_SyContext.f kj2 a0 a1).bind fun t107 => ((spec_CondBetween.f kj2 a0 a1).bind fun t108 => (if t107 = t108 then ((impl_SyWord.f 97).bind fun t109 => (some t109)) else (some false)))) = some r := by rw [if_neg (show ¬ (false = true) by decide)] at H; exact H
        clear H
        have H := H1
        clear H1
        replace H := Option.bind_eq_some_iff.mp H
        obtain ⟨t107, A80, H⟩ := H
        replace H : ((spec_CondBetween.f kj2 a0 a1).bind fun t108 => (if t107 = t108 then ((impl_SyWord.f 97).bind fun t109 => (some t109)) else (some false))) = some r := H
        have A8 := Aside0.mk A80
        clear A80
        replace H := Option.bind_eq_some_iff.mp H
        obtain ⟨t108, A90, H⟩ := H
        replace H : (if t107 = t108 then ((impl_SyWord.f 97).bind fun t109 => (some t109)) else (some false)) = some r := H
        have A9 := Aside0.mk A90
        clear A90
        by_cases c10 : t107 = t108
        · rw [if_pos c10] at H
          have c10b0 : (t107 == t108) = true := beq_iff_eq.mpr c10
          have c10b1 : (t107 != t108) = false := bne_eq_false_iff_eq.mpr c10
          clear c10
          replace H := Option.bind_eq_some_iff.mp H
          obtain ⟨t109, A110, H⟩ := H
          replace H : (some t109) = some r := H
          have A11 := Aside0.mk A110
          clear A110
          obtain rfl := Option.some.inj H
          go_wp2_with (first | ((with_reducible refine gate_callee (f := 10) rfl ?_); refine goesL_ (some 21) rfl rfl Try.func10 (by kernel_rfl) rfl #[.int .i32 a0, .int .i32 a1] rfl (by (try simp only [List.map_toArray, List.map_cons, List.map_nil]); first | done | rfl | (simp only [List.length_drop, List.length_take]; rfl)) ?_; (with_reducible refine (impl_SyContext.calls kj2 a0 a1 t107 _ A8.out).mono ?_); rintro e w' ⟨rfl, ⟨nd, rfl⟩⟩; refine ⟨_, rfl, ?_⟩) | ((with_reducible refine gate_callee (f := 11) rfl ?_); refine goesL_ (some 24) rfl rfl Try.func11 (by kernel_rfl) rfl #[.int .i32 a0, .int .i32 a1] rfl (by (try simp only [List.map_toArray, List.map_cons, List.map_nil]); first | done | rfl | (simp only [List.length_drop, List.length_take]; rfl)) ?_; (with_reducible refine (spec_CondBetween.calls kj2 a0 a1 t108 _ A9.out).mono ?_); rintro e w' ⟨rfl, ⟨nd, rfl⟩⟩; refine ⟨_, rfl, ?_⟩) | (go_at_call 12; (with_reducible refine (impl_SyWord.calls 97 t109 _ A11.out).mono ?_); rintro e w' ⟨rfl, ⟨nd, rfl⟩⟩))
          go_ret
          exact ⟨by first | rfl | (simp; done) | (simp [*]; done), by repeat (first | exact Drawn0.refl _ | apply Drawn0.step)⟩
        · rw [if_neg c10] at H
          have c10b0 : (t107 == t108) = false := beq_eq_false_iff_ne.mpr c10
          have c10b1 : (t107 != t108) = true := bne_iff_ne.mpr c10
          obtain rfl := Option.some.inj H
          go_wp2_with (first | ((with_reducible refine gate_callee (f := 10) rfl ?_); refine goesL_ (some 21) rfl rfl Try.func10 (by kernel_rfl) rfl #[.int .i32 a0, .int .i32 a1] rfl (by (try simp only [List.map_toArray, List.map_cons, List.map_nil]); first | done | rfl | (simp only [List.length_drop, List.length_take]; rfl)) ?_; (with_reducible refine (impl_SyContext.calls kj2 a0 a1 t107 _ A8.out).mono ?_); rintro e w' ⟨rfl, ⟨nd, rfl⟩⟩; refine ⟨_, rfl, ?_⟩) | ((with_reducible refine gate_callee (f := 11) rfl ?_); refine goesL_ (some 24) rfl rfl Try.func11 (by kernel_rfl) rfl #[.int .i32 a0, .int .i32 a1] rfl (by (try simp only [List.map_toArray, List.map_cons, List.map_nil]); first | done | rfl | (simp only [List.length_drop, List.length_take]; rfl)) ?_; (with_reducible refine (spec_CondBetween.calls kj2 a0 a1 t108 _ A9.out).mono ?_); rintro e w' ⟨rfl, ⟨nd, rfl⟩⟩; refine ⟨_, rfl, ?_⟩))
          go_ret
          exact ⟨by first | rfl | (simp; done) | (simp [*]; done), by repeat (first | exact Drawn0.refl _ | apply Drawn0.step)⟩

/-- THE ONE PURE STATEMENT of laws_FnSyContext: yours. -/
def laws_FnSyContext.Pure : Prop := ∀ (a0 : Int) (a1 : Int), (Lit.int .i32 a0).wf = true → (Lit.int .i32 a1).wf = true → ∃ k, laws_FnSyContext.f k a0 a1 = some true
theorem laws_FnSyContext.walk (P : laws_FnSyContext.Pure) (a0 : Int) (a1 : Int) (w : World) (w0 : (Lit.int .i32 a0).wf = true) (w1 : (Lit.int .i32 a1).wf = true) :
    Calls Try.prog 3 #[.int .i32 a0, .int .i32 a1] w fun e w' => e = .returned (.bool true) ∧ Below w.heap.size w w' := by
  obtain ⟨k, h⟩ := P a0 a1 w0 w1
  refine (laws_FnSyContext.calls k a0 a1 true w h).mono ?_
  rintro e w' ⟨rfl, hd⟩
  exact ⟨rfl, hd.below⟩

end Go.Proofs.Ytaogbmljadaplaa.PFnSyContext
