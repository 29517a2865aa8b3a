-- PRINTED BY print.sh 35421559b90ae4d0a3588c463048766b98c2df88dd9212a6774a882060cdf62d: not written by this session
import Derived.Test.YtaogbmljadaplaaPFnSyContextx0
namespace Go.Proofs.Ytaogbmljadaplaa.PFnSyContext
open Go.RowKit Go.Proofs.YtaogbmljadaplaaW.PrintWords Go.Proofs.YtaogbmljadaplaaW.PrintLast Go.Proofs.YtaogbmljadaplaaW.PrintMore
attribute [local go_sem] max2_int min2_int max_two min_two max_three min_three max_four min_four   -- for this text's walks alone
set_option linter.unusedVariables false
set_option linter.unusedSimpArgs false

/-! ### regexpsyntax_IsWordChar: function 30 -/
def regexpsyntax_IsWordChar.f (a0 : Int) : Option (Bool) := if 97 ≤ a0 then (if a0 ≤ 122 then (some true) else (if 65 ≤ a0 then (if a0 ≤ 90 then (some true) else (if 48 ≤ a0 then (if a0 ≤ 57 then (some true) else (some (a0 == 95))) else (some (a0 == 95)))) else (if 48 ≤ a0 then (if a0 ≤ 57 then (some true) else (some (a0 == 95))) else (some (a0 == 95))))) else (if 65 ≤ a0 then (if a0 ≤ 90 then (some true) else (if 48 ≤ a0 then (if a0 ≤ 57 then (some true) else (some (a0 == 95))) else (some (a0 == 95)))) else (if 48 ≤ a0 then (if a0 ≤ 57 then (some true) else (some (a0 == 95))) else (some (a0 == 95))))
set_option maxHeartbeats 8000000 in
set_option maxRecDepth 100000 in
theorem regexpsyntax_IsWordChar.calls (a0 : Int) (r : Bool) (w : World) (h : regexpsyntax_IsWordChar.f a0 = some r) :
    Calls Try.prog 30 #[.int .i32 a0] w fun e w' => e = .returned (.bool r) ∧ Drawn0 w w' := by
  have H : (if 97 ≤ a0 then (if a0 ≤ 122 then (some true) else (if 65 ≤ a0 then (if a0 ≤ 90 then (some true) else (if 48 ≤ a0 then (if a0 ≤ 57 then (some true) else (some (a0 == 95))) else (some (a0 == 95)))) else (if 48 ≤ a0 then (if a0 ≤ 57 then (some true) else (some (a0 == 95))) else (some (a0 == 95))))) else (if 65 ≤ a0 then (if a0 ≤ 90 then (some true) else (if 48 ≤ a0 then (if a0 ≤ 57 then (some true) else (some (a0 == 95))) else (some (a0 == 95)))) else (if 48 ≤ a0 then (if a0 ≤ 57 then (some true) else (some (a0 == 95))) else (some (a0 == 95))))) = some r := h
  clear h
  by_cases c2 : 97 ≤ a0
  · rw [if_pos c2] at H
    have c2b0 : decide (97 ≤ a0) = true := decide_eq_true c2
    clear c2
    by_cases c3 : a0 ≤ 122
    · rw [if_pos c3] at H
      have c3b0 : decide (a0 ≤ 122) = true := decide_eq_true c3
      clear c3
      obtain rfl := Option.some.inj H
      go_enter Try.func30, Try.ntmps30
      go_wp2
      go_ret
      exact ⟨by first | rfl | (simp; done) | (simp [*]; done), by repeat (first | exact Drawn0.refl _ | apply Drawn0.step)⟩
    · rw [if_neg c3] at H
      have c3b0 : decide (a0 ≤ 122) = false := decide_eq_false c3
      clear c3
      by_cases c4 : 65 ≤ a0
      · rw [if_pos c4] at H
        have c4b0 : decide (65 ≤ a0) = true := decide_eq_true c4
        clear c4
        by_cases c5 : a0 ≤ 90
        · rw [if_pos c5] at H
          have c5b0 : decide (a0 ≤ 90) = true := decide_eq_true c5
          clear c5
          obtain rfl := Option.some.inj H
          go_enter Try.func30, Try.ntmps30
          go_wp2
          go_ret
          exact ⟨by first | rfl | (simp; done) | (simp [*]; done), by repeat (first | exact Drawn0.refl _ | apply Drawn0.step)⟩
        · rw [if_neg c5] at H
          have c5b0 : decide (a0 ≤ 90) = false := decide_eq_false c5
          clear c5
          by_cases c6 : 48 ≤ a0
          · rw [if_pos c6] at H
            have c6b0 : decide (48 ≤ a0) = true := decide_eq_true c6
            clear c6
            by_cases c7 : a0 ≤ 57
            · rw [if_pos c7] at H
              have c7b0 : decide (a0 ≤ 57) = true := decide_eq_true c7
              clear c7
              obtain rfl := Option.some.inj H
              go_enter Try.func30, Try.ntmps30
              go_wp2
              go_ret
              exact ⟨by first | rfl | (simp; done) | (simp [*]; done), by repeat (first | exact Drawn0.refl _ | apply Drawn0.step)⟩
            · rw [if_neg c7] at H
              have c7b0 : decide (a0 ≤ 57) = false := decide_eq_false c7
              clear c7
              obtain rfl := Option.some.inj H
              go_enter Try.func30, Try.ntmps30
              go_wp2
              go_ret
              exact ⟨by first | rfl | (simp; done) | (simp [*]; done), by repeat (first | exact Drawn0.refl _ | apply Drawn0.step)⟩
          · rw [if_neg c6] at H
            have c6b0 : decide (48 ≤ a0) = false := decide_eq_false c6
            clear c6
            obtain rfl := Option.some.inj H
            go_enter Try.func30, Try.ntmps30
            go_wp2
            go_ret
            exact ⟨by first | rfl | (simp; done) | (simp [*]; done), by repeat (first | exact Drawn0.refl _ | apply Drawn0.step)⟩
      · rw [if_neg c4] at H
        have c4b0 : decide (65 ≤ a0) = false := decide_eq_false c4
        clear c4
        by_cases c8 : 48 ≤ a0
        · rw [if_pos c8] at H
          have c8b0 : decide (48 ≤ a0) = true := decide_eq_true c8
          clear c8
          by_cases c9 : a0 ≤ 57
          · rw [if_pos c9] at H
            have c9b0 : decide (a0 ≤ 57) = true := decide_eq_true c9
            clear c9
            obtain rfl := Option.some.inj H
            go_enter Try.func30, Try.ntmps30
            go_wp2
            go_ret
            exact ⟨by first | rfl | (simp; done) | (simp [*]; done), by repeat (first | exact Drawn0.refl _ | apply Drawn0.step)⟩
          · rw [if_neg c9] at H
            have c9b0 : decide (a0 ≤ 57) = false := decide_eq_false c9
            clear c9
            obtain rfl := Option.some.inj H
            go_enter Try.func30, Try.ntmps30
            go_wp2
            go_ret
            exact ⟨by first | rfl | (simp; done) | (simp [*]; done), by repeat (first | exact Drawn0.refl _ | apply Drawn0.step)⟩
        · rw [if_neg c8] at H
          have c8b0 : decide (48 ≤ a0) = false := decide_eq_false c8
          clear c8
          obtain rfl := Option.some.inj H
          go_enter Try.func30, Try.ntmps30
          go_wp2
          go_ret
          exact ⟨by first | rfl | (simp; done) | (simp [*]; done), by repeat (first | exact Drawn0.refl _ | apply Drawn0.step)⟩
  · rw [if_neg c2] at H
    have c2b0 : decide (97 ≤ a0) = false := decide_eq_false c2
    clear c2
    by_cases c10 : 65 ≤ a0
    · rw [if_pos c10] at H
      have c10b0 : decide (65 ≤ a0) = true := decide_eq_true c10
      clear c10
      by_cases c11 : a0 ≤ 90
      · rw [if_pos c11] at H
        have c11b0 : decide (a0 ≤ 90) = true := decide_eq_true c11
        clear c11
        obtain rfl := Option.some.inj H
        go_enter Try.func30, Try.ntmps30
        go_wp2
        go_ret
        exact ⟨by first | rfl | (simp; done) | (simp [*]; done), by repeat (first | exact Drawn0.refl _ | apply Drawn0.step)⟩
      · rw [if_neg c11] at H
        have c11b0 : decide (a0 ≤ 90) = false := decide_eq_false c11
        clear c11
        by_cases c12 : 48 ≤ a0
        · rw [if_pos c12] at H
          have c12b0 : decide (48 ≤ a0) = true := decide_eq_true c12
          clear c12
          by_cases c13 : a0 ≤ 57
          · rw [if_pos c13] at H
            have c13b0 : decide (a0 ≤ 57) = true := decide_eq_true c13
            clear c13
            obtain rfl := Option.some.inj H
            go_enter Try.func30, Try.ntmps30
            go_wp2
            go_ret
            exact ⟨by first | rfl | (simp; done) | (simp [*]; done), by repeat (first | exact Drawn0.refl _ | apply Drawn0.step)⟩
          · rw [if_neg c13] at H
            have c13b0 : decide (a0 ≤ 57) = false := decide_eq_false c13
            clear c13
            obtain rfl := Option.some.inj H
            go_enter Try.func30, Try.ntmps30
            go_wp2
            go_ret
            exact ⟨by first | rfl | (simp; done) | (simp [*]; done), by repeat (first | exact Drawn0.refl _ | apply Drawn0.step)⟩
        · rw [if_neg c12] at H
          have c12b0 : decide (48 ≤ a0) = false := decide_eq_false c12
          clear c12
          obtain rfl := Option.some.inj H
          go_enter Try.func30, Try.ntmps30
          go_wp2
          go_ret
          exact ⟨by first | rfl | (simp; done) | (simp [*]; done), by repeat (first | exact Drawn0.refl _ | apply Drawn0.step)⟩
    · rw [if_neg c10] at H
      have c10b0 : decide (65 ≤ a0) = false := decide_eq_false c10
      clear c10
      by_cases c14 : 48 ≤ a0
      · rw [if_pos c14] at H
        have c14b0 : decide (48 ≤ a0) = true := decide_eq_true c14
        clear c14
        by_cases c15 : a0 ≤ 57
        · rw [if_pos c15] at H
          have c15b0 : decide (a0 ≤ 57) = true := decide_eq_true c15
          clear c15
          obtain rfl := Option.some.inj H
          go_enter Try.func30, Try.ntmps30
          go_wp2
          go_ret
          exact ⟨by first | rfl | (simp; done) | (simp [*]; done), by repeat (first | exact Drawn0.refl _ | apply Drawn0.step)⟩
        · rw [if_neg c15] at H
          have c15b0 : decide (a0 ≤ 57) = false := decide_eq_false c15
          clear c15
          obtain rfl := Option.some.inj H
          go_enter Try.func30, Try.ntmps30
          go_wp2
          go_ret
          exact ⟨by first | rfl | (simp; done) | (simp [*]; done), by repeat (first | exact Drawn0.refl _ | apply Drawn0.step)⟩
      · rw [if_neg c14] at H
        have c14b0 : decide (48 ≤ a0) = false := decide_eq_false c14
        clear c14
        obtain rfl := Option.some.inj H
        go_enter Try.func30, Try.ntmps30
        go_wp2
        go_ret
        exact ⟨by first | rfl | (simp; done) | (simp [*]; done), by repeat (first | exact Drawn0.refl _ | apply Drawn0.step)⟩

/-! ### regexpsyntax_EmptyOpContext: function 28 -/
def regexpsyntax_EmptyOpContext.j0 : Nat → Int → Int → Int → Option (Int)
  | 0, _, _, _ => none
  | k + 1, x1, x5, x6 => (regexpsyntax_IsWordChar.f x1).bind fun t102 => (if t102 = true then (if (Go.bits .xor .u8 x6 1) = 0 then (some x5) else (some (Go.bits .xor .u8 x5 48))) else (if x1 = 10 then (if x6 = 0 then (some (Go.bits .or .u8 x5 2)) else (some (Go.bits .xor .u8 (Go.bits .or .u8 x5 2) 48))) else (if x1 < 0 then (if x6 = 0 then (some (Go.bits .or .u8 x5 10)) else (some (Go.bits .xor .u8 (Go.bits .or .u8 x5 10) 48))) else (if x6 = 0 then (some x5) else (some (Go.bits .xor .u8 x5 48))))))
def regexpsyntax_EmptyOpContext.f (k : Nat) (a0 : Int) (a1 : Int) : Option (Int) := (regexpsyntax_IsWordChar.f a0).bind fun t101 => (if t101 = true then (regexpsyntax_EmptyOpContext.j0 k a1 32 1) else (if a0 = 10 then (regexpsyntax_EmptyOpContext.j0 k a1 (Go.bits .or .u8 32 1) 0) else (if a0 < 0 then (regexpsyntax_EmptyOpContext.j0 k a1 (Go.bits .or .u8 32 5) 0) else (regexpsyntax_EmptyOpContext.j0 k a1 32 0))))
theorem regexpsyntax_EmptyOpContext.mono_l : ∀ k, (∀ y0 y1 y2, LeO (regexpsyntax_EmptyOpContext.j0 k y0 y1 y2) (regexpsyntax_EmptyOpContext.j0 (k + 1) y0 y1 y2))
  | 0 => fun _ _ _ r h => by simp [regexpsyntax_EmptyOpContext.j0] at h
  | k + 1 => by
    have ih0 := regexpsyntax_EmptyOpContext.mono_l k
    · intro y0 y1 y2
      unfold regexpsyntax_EmptyOpContext.j0
      repeat' first
      | (with_reducible exact ih0 _ _ _)
      | (with_reducible exact LeO.refl _)
      | (with_reducible exact LeO.none _)
      | (with_reducible refine LeO.ite ?_ ?_)
      | (with_reducible refine LeO.bind ?_ (fun _ => ?_))
      | exact ih0 _ _ _
      | exact LeO.none _
      | refine LeO.ite ?_ ?_
      | refine LeO.bind ?_ (fun _ => ?_)
theorem regexpsyntax_EmptyOpContext.mono : ∀ a0 a1 k, LeO (regexpsyntax_EmptyOpContext.f k a0 a1) (regexpsyntax_EmptyOpContext.f (k + 1) a0 a1) := by
  intro a0 a1 k
  have ih0 := regexpsyntax_EmptyOpContext.mono_l k
  unfold regexpsyntax_EmptyOpContext.f
  repeat' first
      | (with_reducible exact ih0 _ _ _)
      | (with_reducible exact LeO.refl _)
      | (with_reducible exact LeO.none _)
      | (with_reducible refine LeO.ite ?_ ?_)
      | (with_reducible refine LeO.bind ?_ (fun _ => ?_))
      | exact ih0 _ _ _
      | exact LeO.none _
      | refine LeO.ite ?_ ?_
      | refine LeO.bind ?_ (fun _ => ?_)
set_option maxHeartbeats 8000000 in
set_option maxRecDepth 100000 in
theorem regexpsyntax_EmptyOpContext.calls (k : Nat) (a0 : Int) (a1 : Int) (r : Int) (w : World) (h : regexpsyntax_EmptyOpContext.f k a0 a1 = some r) :
    Calls Try.prog 28 #[.int .i32 a0, .int .i32 a1] w fun e w' => e = .returned (.int .u8 r) ∧ Drawn0 w w' := by
  have H : ((regexpsyntax_IsWordChar.f a0).bind fun t101 => (if t101 = true then (regexpsyntax_EmptyOpContext.j0 k a1 32 1) else (if a0 = 10 then (regexpsyntax_EmptyOpContext.j0 k a1 (Go.bits .or .u8 32 1) 0) else (if a0 < 0 then (regexpsyntax_EmptyOpContext.j0 k a1 (Go.bits .or .u8 32 5) 0) else (regexpsyntax_EmptyOpContext.j0 k a1 32 0))))) = some r := h
  clear h
  have HC3 := Aside0.mk H
  clear H
  go_enter Try.func28, Try.ntmps28
  go_upto_block 0 with (fail)
  go_cut [5, 6] (fun v5 v6 wc => ∃ (kq : Nat) (x5_2 : Int) (x6_2 : Int), v5 = .int .u8 x5_2 ∧ v6 = .int .u8 x6_2 ∧ Aside0 (regexpsyntax_EmptyOpContext.j0 kq a1 x5_2 x6_2 = some r) ∧ Aside0 (kq ≤ k) ∧ Drawn0 w wc)
  case first =>
    have H := HC3.out
    clear HC3
    replace H := Option.bind_eq_some_iff.mp H
    obtain ⟨t101, A40, H⟩ := H
    replace H : (if t101 = true then (regexpsyntax_EmptyOpContext.j0 k a1 32 1) else (if a0 = 10 then (regexpsyntax_EmptyOpContext.j0 k a1 (Go.bits .or .u8 32 1) 0) else (if a0 < 0 then (regexpsyntax_EmptyOpContext.j0 k a1 (Go.bits .or .u8 32 5) 0) else (regexpsyntax_EmptyOpContext.j0 k a1 32 0)))) = some r := H
    have A4 := Aside0.mk A40
    clear A40
    by_cases c5 : t101 = true
    · subst c5
      have H1 : (regexpsyntax_EmptyOpContext.j0 k a1 32 1) = some r := by rw [if_pos rfl] at H; exact H
      clear H
      have H := H1
      clear H1
      have H' := Aside0.mk H
      clear H
      go_wp2_with (first | ((with_reducible refine gate_callee (f := 30) rfl ?_); refine goesL_ (some 9) rfl rfl Try.func30 (by kernel_rfl) rfl #[.int .i32 a0] rfl (by (try simp only [List.map_toArray, List.map_cons, List.map_nil]); first | done | rfl | (simp only [List.length_drop, List.length_take]; rfl)) ?_; (with_reducible refine (regexpsyntax_IsWordChar.calls a0 true _ A4.out).mono ?_); rintro e w' ⟨rfl, ⟨nd, rfl⟩⟩; refine ⟨_, rfl, ?_⟩))
      go_meet
      case rel => exact ⟨_, (32), (1), (by first | rfl | (simp; done) | (simp [*]; done)), (by first | rfl | (simp; done) | (simp [*]; done)), H', ⟨by first | omega | exact Nat.le_refl _⟩, by repeat (first | exact Drawn0.refl _ | apply Drawn0.step)⟩
    · replace c5 := Bool.eq_false_iff.mpr c5
      subst c5
      have H1 : (if a0 = 10 then (regexpsyntax_EmptyOpContext.j0 k a1 (Go.bits .or .u8 32 1) 0) else (if a0 < 0 then (regexpsyntax_EmptyOpContext.j0 k a1 (Go.bits .or .u8 32 5) 0) else (regexpsyntax_EmptyOpContext.j0 k a1 32 0))) = some r := by rw [if_neg (show ¬ (false = true) by decide)] at H; exact H
      clear H
      have H := H1
      clear H1
      by_cases c6 : a0 = 10
      · rw [if_pos c6] at H
        have c6b0 : (a0 == 10) = true := beq_iff_eq.mpr c6
        have c6b1 : (a0 != 10) = false := bne_eq_false_iff_eq.mpr c6
        clear c6
        (first | rw [c6b0] | (simp only [i64_w, i32_w]; rw [c6b0]) | skip)
        have H' := Aside0.mk H
        clear H
        go_wp2_with (first | ((with_reducible refine gate_callee (f := 30) rfl ?_); refine goesL_ (some 9) rfl rfl Try.func30 (by kernel_rfl) rfl #[.int .i32 a0] rfl (by (try simp only [List.map_toArray, List.map_cons, List.map_nil]); first | done | rfl | (simp only [List.length_drop, List.length_take]; rfl)) ?_; (with_reducible refine (regexpsyntax_IsWordChar.calls a0 false _ A4.out).mono ?_); rintro e w' ⟨rfl, ⟨nd, rfl⟩⟩; refine ⟨_, rfl, ?_⟩))
        go_meet
        case rel => exact ⟨_, (Go.bits .or .u8 32 1), (0), (by first | rfl | (simp; done) | (simp [*]; done)), (by first | rfl | (simp; done) | (simp [*]; done)), H', ⟨by first | omega | exact Nat.le_refl _⟩, by repeat (first | exact Drawn0.refl _ | apply Drawn0.step)⟩
      · rw [if_neg c6] at H
        have c6b0 : (a0 == 10) = false := beq_eq_false_iff_ne.mpr c6
        have c6b1 : (a0 != 10) = true := bne_iff_ne.mpr c6
        (first | rw [c6b0] | (simp only [i64_w, i32_w]; rw [c6b0]) | skip)
        by_cases c7 : a0 < 0
        · rw [if_pos c7] at H
          have c7b0 : decide (a0 < 0) = true := decide_eq_true c7
          clear c7
          have H' := Aside0.mk H
          clear H
          go_wp2_with (first | ((with_reducible refine gate_callee (f := 30) rfl ?_); refine goesL_ (some 9) rfl rfl Try.func30 (by kernel_rfl) rfl #[.int .i32 a0] rfl (by (try simp only [List.map_toArray, List.map_cons, List.map_nil]); first | done | rfl | (simp only [List.length_drop, List.length_take]; rfl)) ?_; (with_reducible refine (regexpsyntax_IsWordChar.calls a0 false _ A4.out).mono ?_); rintro e w' ⟨rfl, ⟨nd, rfl⟩⟩; refine ⟨_, rfl, ?_⟩))
          go_meet
          case rel => exact ⟨_, (Go.bits .or .u8 32 5), (0), (by first | rfl | (simp; done) | (simp [*]; done)), (by first | rfl | (simp; done) | (simp [*]; done)), H', ⟨by first | omega | exact Nat.le_refl _⟩, by repeat (first | exact Drawn0.refl _ | apply Drawn0.step)⟩
        · rw [if_neg c7] at H
          have c7b0 : decide (a0 < 0) = false := decide_eq_false c7
          clear c7
          have H' := Aside0.mk H
          clear H
          go_wp2_with (first | ((with_reducible refine gate_callee (f := 30) rfl ?_); refine goesL_ (some 9) rfl rfl Try.func30 (by kernel_rfl) rfl #[.int .i32 a0] rfl (by (try simp only [List.map_toArray, List.map_cons, List.map_nil]); first | done | rfl | (simp only [List.length_drop, List.length_take]; rfl)) ?_; (with_reducible refine (regexpsyntax_IsWordChar.calls a0 false _ A4.out).mono ?_); rintro e w' ⟨rfl, ⟨nd, rfl⟩⟩; refine ⟨_, rfl, ?_⟩))
          go_meet
          case rel => exact ⟨_, (32), (0), (by first | rfl | (simp; done) | (simp [*]; done)), (by first | rfl | (simp; done) | (simp [*]; done)), H', ⟨by first | omega | exact Nat.le_refl _⟩, by repeat (first | exact Drawn0.refl _ | apply Drawn0.step)⟩
  case rest =>
    clear HC3
    try clear c2
    try clear p2
    try clear c3
    try clear c5
    try clear c6
    try clear c6b0
    try clear c6b1
    try clear c7
    try clear c7b0
    obtain ⟨kq, x5_2, x6_2, rfl, rfl, HA, HJ2, ⟨mc2, rfl⟩⟩ := hcut
    cases kq with
    | zero => exact absurd HA.out (by simp [regexpsyntax_EmptyOpContext.j0])
    | succ kj2 =>
      have H := HA.out
      clear HA
      simp only [regexpsyntax_EmptyOpContext.j0] at H
      replace H := Option.bind_eq_some_iff.mp H
      obtain ⟨t102, A80, H⟩ := H
      replace H : (if t102 = true then (if (Go.bits .xor .u8 x6_2 1) = 0 then (some x5_2) else (some (Go.bits .xor .u8 x5_2 48))) else (if a1 = 10 then (if x6_2 = 0 then (some (Go.bits .or .u8 x5_2 2)) else (some (Go.bits .xor .u8 (Go.bits .or .u8 x5_2 2) 48))) else (if a1 < 0 then (if x6_2 = 0 then (some (Go.bits .or .u8 x5_2 10)) else (some (Go.bits .xor .u8 (Go.bits .or .u8 x5_2 10) 48))) else (if x6_2 = 0 then (some x5_2) else (some (Go.bits .xor .u8 x5_2 48)))))) = some r := H
      have A8 := Aside0.mk A80
      clear A80
      by_cases c9 : t102 = true
      · subst c9
        have H1 : (if (Go.bits .xor .u8 x6_2 1) = 0 then (some x5_2) else (some (Go.bits .xor .u8 x5_2 48))) = some r := by rw [if_pos rfl] at H; exact H
        clear H
        have H := H1
        clear H1
        by_cases c10 : (Go.bits .xor .u8 x6_2 1) = 0
        · rw [if_pos c10] at H
          have c10b0 : ((Go.bits .xor .u8 x6_2 1) == 0) = true := beq_iff_eq.mpr c10
          have c10b1 : ((Go.bits .xor .u8 x6_2 1) != 0) = false := bne_eq_false_iff_eq.mpr c10
          clear c10
          obtain rfl := Option.some.inj H
          go_wp2_with (first | ((with_reducible refine gate_callee (f := 30) rfl ?_); refine goesL_ (some 22) rfl rfl Try.func30 (by kernel_rfl) rfl #[.int .i32 a1] rfl (by (try simp only [List.map_toArray, List.map_cons, List.map_nil]); first | done | rfl | (simp only [List.length_drop, List.length_take]; rfl)) ?_; (with_reducible refine (regexpsyntax_IsWordChar.calls a1 true _ A8.out).mono ?_); rintro e w' ⟨rfl, ⟨nd, rfl⟩⟩; refine ⟨_, rfl, ?_⟩))
          go_ret
          exact ⟨by first | rfl | (simp; done) | (simp [*]; done), by repeat (first | exact Drawn0.refl _ | apply Drawn0.step)⟩
        · rw [if_neg c10] at H
          have c10b0 : ((Go.bits .xor .u8 x6_2 1) == 0) = false := beq_eq_false_iff_ne.mpr c10
          have c10b1 : ((Go.bits .xor .u8 x6_2 1) != 0) = true := bne_iff_ne.mpr c10
          obtain rfl := Option.some.inj H
          go_wp2_with (first | ((with_reducible refine gate_callee (f := 30) rfl ?_); refine goesL_ (some 22) rfl rfl Try.func30 (by kernel_rfl) rfl #[.int .i32 a1] rfl (by (try simp only [List.map_toArray, List.map_cons, List.map_nil]); first | done | rfl | (simp only [List.length_drop, List.length_take]; rfl)) ?_; (with_reducible refine (regexpsyntax_IsWordChar.calls a1 true _ A8.out).mono ?_); rintro e w' ⟨rfl, ⟨nd, rfl⟩⟩; refine ⟨_, rfl, ?_⟩))
          go_ret
          exact ⟨by first | rfl | (simp; done) | (simp [*]; done), by repeat (first | exact Drawn0.refl _ | apply Drawn0.step)⟩
      · replace c9 := Bool.eq_false_iff.mpr c9
        subst c9
        have H1 : (if a1 = 10 then (if x6_2 = 0 then (some (Go.bits .or .u8 x5_2 2)) else (some (Go.bits .xor .u8 (Go.bits .or .u8 x5_2 2) 48))) else (if a1 < 0 then (if x6_2 = 0 then (some (Go.bits .or .u8 x5_2 10)) else (some (Go.bits .xor .u8 (Go.bits .or .u8 x5_2 10) 48))) else (if x6_2 = 0 then (some x5_2) else (some (Go.bits .xor .u8 x5_2 48))))) = some r := by rw [if_neg (show ¬ (false = true) by decide)] at H; exact H
        clear H
        have H := H1
        clear H1
        by_cases c11 : a1 = 10
        · rw [if_pos c11] at H
          have c11b0 : (a1 == 10) = true := beq_iff_eq.mpr c11
          have c11b1 : (a1 != 10) = false := bne_eq_false_iff_eq.mpr c11
          clear c11
          by_cases c12 : x6_2 = 0
          · rw [if_pos c12] at H
            have c12b0 : (x6_2 == 0) = true := beq_iff_eq.mpr c12
            have c12b1 : (x6_2 != 0) = false := bne_eq_false_iff_eq.mpr c12
            clear c12
            obtain rfl := Option.some.inj H
            go_wp2_with (first | ((with_reducible refine gate_callee (f := 30) rfl ?_); refine goesL_ (some 22) rfl rfl Try.func30 (by kernel_rfl) rfl #[.int .i32 a1] rfl (by (try simp only [List.map_toArray, List.map_cons, List.map_nil]); first | done | rfl | (simp only [List.length_drop, List.length_take]; rfl)) ?_; (with_reducible refine (regexpsyntax_IsWordChar.calls a1 false _ A8.out).mono ?_); rintro e w' ⟨rfl, ⟨nd, rfl⟩⟩; refine ⟨_, rfl, ?_⟩))
            go_ret
            exact ⟨by first | rfl | (simp; done) | (simp [*]; done), by repeat (first | exact Drawn0.refl _ | apply Drawn0.step)⟩
          · rw [if_neg c12] at H
            have c12b0 : (x6_2 == 0) = false := beq_eq_false_iff_ne.mpr c12
            have c12b1 : (x6_2 != 0) = true := bne_iff_ne.mpr c12
            obtain rfl := Option.some.inj H
            go_wp2_with (first | ((with_reducible refine gate_callee (f := 30) rfl ?_); refine goesL_ (some 22) rfl rfl Try.func30 (by kernel_rfl) rfl #[.int .i32 a1] rfl (by (try simp only [List.map_toArray, List.map_cons, List.map_nil]); first | done | rfl | (simp only [List.length_drop, List.length_take]; rfl)) ?_; (with_reducible refine (regexpsyntax_IsWordChar.calls a1 false _ A8.out).mono ?_); rintro e w' ⟨rfl, ⟨nd, rfl⟩⟩; refine ⟨_, rfl, ?_⟩))
            go_ret
            exact ⟨by first | rfl | (simp; done) | (simp [*]; done), by repeat (first | exact Drawn0.refl _ | apply Drawn0.step)⟩
        · rw [if_neg c11] at H
          have c11b0 : (a1 == 10) = false := beq_eq_false_iff_ne.mpr c11
          have c11b1 : (a1 != 10) = true := bne_iff_ne.mpr c11
          by_cases c13 : a1 < 0
          · rw [if_pos c13] at H
            have c13b0 : decide (a1 < 0) = true := decide_eq_true c13
            clear c13
            by_cases c14 : x6_2 = 0
            · rw [if_pos c14] at H
              have c14b0 : (x6_2 == 0) = true := beq_iff_eq.mpr c14
              have c14b1 : (x6_2 != 0) = false := bne_eq_false_iff_eq.mpr c14
              clear c14
              obtain rfl := Option.some.inj H
              go_wp2_with (first | ((with_reducible refine gate_callee (f := 30) rfl ?_); refine goesL_ (some 22) rfl rfl Try.func30 (by kernel_rfl) rfl #[.int .i32 a1] rfl (by (try simp only [List.map_toArray, List.map_cons, List.map_nil]); first | done | rfl | (simp only [List.length_drop, List.length_take]; rfl)) ?_; (with_reducible refine (regexpsyntax_IsWordChar.calls a1 false _ A8.out).mono ?_); rintro e w' ⟨rfl, ⟨nd, rfl⟩⟩; refine ⟨_, rfl, ?_⟩))
              go_ret
              exact ⟨by first | rfl | (simp; done) | (simp [*]; done), by repeat (first | exact Drawn0.refl _ | apply Drawn0.step)⟩
            · rw [if_neg c14] at H
              have c14b0 : (x6_2 == 0) = false := beq_eq_false_iff_ne.mpr c14
              have c14b1 : (x6_2 != 0) = true := bne_iff_ne.mpr c14
              obtain rfl := Option.some.inj H
              go_wp2_with (first | ((with_reducible refine gate_callee (f := 30) rfl ?_); refine goesL_ (some 22) rfl rfl Try.func30 (by kernel_rfl) rfl #[.int .i32 a1] rfl (by (try simp only [List.map_toArray, List.map_cons, List.map_nil]); first | done | rfl | (simp only [List.length_drop, List.length_take]; rfl)) ?_; (with_reducible refine (regexpsyntax_IsWordChar.calls a1 false _ A8.out).mono ?_); rintro e w' ⟨rfl, ⟨nd, rfl⟩⟩; refine ⟨_, rfl, ?_⟩))
              go_ret
              exact ⟨by first | rfl | (simp; done) | (simp [*]; done), by repeat (first | exact Drawn0.refl _ | apply Drawn0.step)⟩
          · rw [if_neg c13] at H
            have c13b0 : decide (a1 < 0) = false := decide_eq_false c13
            clear c13
            by_cases c15 : x6_2 = 0
            · rw [if_pos c15] at H
              have c15b0 : (x6_2 == 0) = true := beq_iff_eq.mpr c15
              have c15b1 : (x6_2 != 0) = false := bne_eq_false_iff_eq.mpr c15
              clear c15
              obtain rfl := Option.some.inj H
              go_wp2_with (first | ((with_reducible refine gate_callee (f := 30) rfl ?_); refine goesL_ (some 22) rfl rfl Try.func30 (by kernel_rfl) rfl #[.int .i32 a1] rfl (by (try simp only [List.map_toArray, List.map_cons, List.map_nil]); first | done | rfl | (simp only [List.length_drop, List.length_take]; rfl)) ?_; (with_reducible refine (regexpsyntax_IsWordChar.calls a1 false _ A8.out).mono ?_); rintro e w' ⟨rfl, ⟨nd, rfl⟩⟩; refine ⟨_, rfl, ?_⟩))
              go_ret
              exact ⟨by first | rfl | (simp; done) | (simp [*]; done), by repeat (first | exact Drawn0.refl _ | apply Drawn0.step)⟩
            · rw [if_neg c15] at H
              have c15b0 : (x6_2 == 0) = false := beq_eq_false_iff_ne.mpr c15
              have c15b1 : (x6_2 != 0) = true := bne_iff_ne.mpr c15
              obtain rfl := Option.some.inj H
              go_wp2_with (first | ((with_reducible refine gate_callee (f := 30) rfl ?_); refine goesL_ (some 22) rfl rfl Try.func30 (by kernel_rfl) rfl #[.int .i32 a1] rfl (by (try simp only [List.map_toArray, List.map_cons, List.map_nil]); first | done | rfl | (simp only [List.length_drop, List.length_take]; rfl)) ?_; (with_reducible refine (regexpsyntax_IsWordChar.calls a1 false _ A8.out).mono ?_); rintro e w' ⟨rfl, ⟨nd, rfl⟩⟩; refine ⟨_, rfl, ?_⟩))
              go_ret
              exact ⟨by first | rfl | (simp; done) | (simp [*]; done), by repeat (first | exact Drawn0.refl _ | apply Drawn0.step)⟩

/-! ### impl_SyContext: function 10 -/
def impl_SyContext.f (k : Nat) (a0 : Int) (a1 : Int) : Option (Int) := (regexpsyntax_EmptyOpContext.f k a0 a1).bind fun t103 => (some (wrap64 (t103)))
theorem impl_SyContext.mono : ∀ a0 a1 k, LeO (impl_SyContext.f k a0 a1) (impl_SyContext.f (k + 1) a0 a1) := by
  intro a0 a1 k
  unfold impl_SyContext.f
  repeat' first
      | (with_reducible exact regexpsyntax_EmptyOpContext.mono _ _ _)
      | (with_reducible exact LeO.refl _)
      | (with_reducible exact LeO.none _)
      | (with_reducible refine LeO.ite ?_ ?_)
      | (with_reducible refine LeO.bind ?_ (fun _ => ?_))
      | exact regexpsyntax_EmptyOpContext.mono _ _ _
      | exact LeO.none _
      | refine LeO.ite ?_ ?_
      | refine LeO.bind ?_ (fun _ => ?_)
set_option maxHeartbeats 8000000 in
set_option maxRecDepth 100000 in
theorem impl_SyContext.calls (k : Nat) (a0 : Int) (a1 : Int) (r : Int) (w : World) (h : impl_SyContext.f k a0 a1 = some r) :
    Calls Try.prog 10 #[.int .i32 a0, .int .i32 a1] w fun e w' => e = .returned (.int .i64 r) ∧ Drawn0 w w' := by
  have H : ((regexpsyntax_EmptyOpContext.f k a0 a1).bind fun t103 => (some (wrap64 (t103)))) = some r := h
  clear h
  replace H := Option.bind_eq_some_iff.mp H
  obtain ⟨t103, A30, H⟩ := H
  replace H : (some (wrap64 (t103))) = some r := H
  have A3 := Aside0.mk A30
  clear A30
  obtain rfl := Option.some.inj H
  go_enter Try.func10, Try.ntmps10
  go_wp2_with (first | ((with_reducible refine gate_callee (f := 28) rfl ?_); refine goesL_ (some 7) rfl rfl Try.func28 (by kernel_rfl) rfl #[.int .i32 a0, .int .i32 a1] rfl (by (try simp only [List.map_toArray, List.map_cons, List.map_nil]); first | done | rfl | (simp only [List.length_drop, List.length_take]; rfl)) ?_; (with_reducible refine (regexpsyntax_EmptyOpContext.calls k a0 a1 t103 _ A3.out).mono ?_); rintro e w' ⟨rfl, ⟨nd, rfl⟩⟩; refine ⟨_, rfl, ?_⟩))
  go_ret
  exact ⟨by first | rfl | (simp; done) | (simp [*]; done), by repeat (first | exact Drawn0.refl _ | apply Drawn0.step)⟩

/-! ### spec_reWord: function 29 -/
def spec_reWord.f (a0 : Int) : Option (Bool) := if 97 ≤ a0 then (if a0 ≤ 122 then (some true) else (if 65 ≤ a0 then (if a0 ≤ 90 then (some true) else (if 48 ≤ a0 then (if a0 ≤ 57 then (some true) else (some (a0 == 95))) else (some (a0 == 95)))) else (if 48 ≤ a0 then (if a0 ≤ 57 then (some true) else (some (a0 == 95))) else (some (a0 == 95))))) else (if 65 ≤ a0 then (if a0 ≤ 90 then (some true) else (if 48 ≤ a0 then (if a0 ≤ 57 then (some true) else (some (a0 == 95))) else (some (a0 == 95)))) else (if 48 ≤ a0 then (if a0 ≤ 57 then (some true) else (some (a0 == 95))) else (some (a0 == 95))))
set_option maxHeartbeats 8000000 in
set_option maxRecDepth 100000 in
theorem spec_reWord.calls (a0 : Int) (r : Bool) (w : World) (h : spec_reWord.f a0 = some r) :
    Calls Try.prog 29 #[.int .i32 a0] w fun e w' => e = .returned (.bool r) ∧ Drawn0 w w' := by
  have H : (if 97 ≤ a0 then (if a0 ≤ 122 then (some true) else (if 65 ≤ a0 then (if a0 ≤ 90 then (some true) else (if 48 ≤ a0 then (if a0 ≤ 57 then (some true) else (some (a0 == 95))) else (some (a0 == 95)))) else (if 48 ≤ a0 then (if a0 ≤ 57 then (some true) else (some (a0 == 95))) else (some (a0 == 95))))) else (if 65 ≤ a0 then (if a0 ≤ 90 then (some true) else (if 48 ≤ a0 then (if a0 ≤ 57 then (some true) else (some (a0 == 95))) else (some (a0 == 95)))) else (if 48 ≤ a0 then (if a0 ≤ 57 then (some true) else (some (a0 == 95))) else (some (a0 == 95))))) = some r := h
  clear h
  by_cases c2 : 97 ≤ a0
  · rw [if_pos c2] at H
    have c2b0 : decide (97 ≤ a0) = true := decide_eq_true c2
    clear c2
    by_cases c3 : a0 ≤ 122
    · rw [if_pos c3] at H
      have c3b0 : decide (a0 ≤ 122) = true := decide_eq_true c3
      clear c3
      obtain rfl := Option.some.inj H
      go_enter Try.func29, Try.ntmps29
      go_wp2
      go_ret
      exact ⟨by first | rfl | (simp; done) | (simp [*]; done), by repeat (first | exact Drawn0.refl _ | apply Drawn0.step)⟩
    · rw [if_neg c3] at H
      have c3b0 : decide (a0 ≤ 122) = false := decide_eq_false c3
      clear c3
      by_cases c4 : 65 ≤ a0
      · rw [if_pos c4] at H
        have c4b0 : decide (65 ≤ a0) = true := decide_eq_true c4
        clear c4
        by_cases c5 : a0 ≤ 90
        · rw [if_pos c5] at H
          have c5b0 : decide (a0 ≤ 90) = true := decide_eq_true c5
          clear c5
          obtain rfl := Option.some.inj H
          go_enter Try.func29, Try.ntmps29
          go_wp2
          go_ret
          exact ⟨by first | rfl | (simp; done) | (simp [*]; done), by repeat (first | exact Drawn0.refl _ | apply Drawn0.step)⟩
        · rw [if_neg c5] at H
          have c5b0 : decide (a0 ≤ 90) = false := decide_eq_false c5
          clear c5
          by_cases c6 : 48 ≤ a0
          · rw [if_pos c6] at H
            have c6b0 : decide (48 ≤ a0) = true := decide_eq_true c6
            clear c6
            by_cases c7 : a0 ≤ 57
            · rw [if_pos c7] at H
              have c7b0 : decide (a0 ≤ 57) = true := decide_eq_true c7
              clear c7
              obtain rfl := Option.some.inj H
              go_enter Try.func29, Try.ntmps29
              go_wp2
              go_ret
              exact ⟨by first | rfl | (simp; done) | (simp [*]; done), by repeat (first | exact Drawn0.refl _ | apply Drawn0.step)⟩
            · rw [if_neg c7] at H
              have c7b0 : decide (a0 ≤ 57) = false := decide_eq_false c7
              clear c7
              obtain rfl := Option.some.inj H
              go_enter Try.func29, Try.ntmps29
              go_wp2
              go_ret
              exact ⟨by first | rfl | (simp; done) | (simp [*]; done), by repeat (first | exact Drawn0.refl _ | apply Drawn0.step)⟩
          · rw [if_neg c6] at H
            have c6b0 : decide (48 ≤ a0) = false := decide_eq_false c6
            clear c6
            obtain rfl := Option.some.inj H
            go_enter Try.func29, Try.ntmps29
            go_wp2
            go_ret
            exact ⟨by first | rfl | (simp; done) | (simp [*]; done), by repeat (first | exact Drawn0.refl _ | apply Drawn0.step)⟩
      · rw [if_neg c4] at H
        have c4b0 : decide (65 ≤ a0) = false := decide_eq_false c4
        clear c4
        by_cases c8 : 48 ≤ a0
        · rw [if_pos c8] at H
          have c8b0 : decide (48 ≤ a0) = true := decide_eq_true c8
          clear c8
          by_cases c9 : a0 ≤ 57
          · rw [if_pos c9] at H
            have c9b0 : decide (a0 ≤ 57) = true := decide_eq_true c9
            clear c9
            obtain rfl := Option.some.inj H
            go_enter Try.func29, Try.ntmps29
            go_wp2
            go_ret
            exact ⟨by first | rfl | (simp; done) | (simp [*]; done), by repeat (first | exact Drawn0.refl _ | apply Drawn0.step)⟩
          · rw [if_neg c9] at H
            have c9b0 : decide (a0 ≤ 57) = false := decide_eq_false c9
            clear c9
            obtain rfl := Option.some.inj H
            go_enter Try.func29, Try.ntmps29
            go_wp2
            go_ret
            exact ⟨by first | rfl | (simp; done) | (simp [*]; done), by repeat (first | exact Drawn0.refl _ | apply Drawn0.step)⟩
        · rw [if_neg c8] at H
          have c8b0 : decide (48 ≤ a0) = false := decide_eq_false c8
          clear c8
          obtain rfl := Option.some.inj H
          go_enter Try.func29, Try.ntmps29
          go_wp2
          go_ret
          exact ⟨by first | rfl | (simp; done) | (simp [*]; done), by repeat (first | exact Drawn0.refl _ | apply Drawn0.step)⟩
  · rw [if_neg c2] at H
    have c2b0 : decide (97 ≤ a0) = false := decide_eq_false c2
    clear c2
    by_cases c10 : 65 ≤ a0
    · rw [if_pos c10] at H
      have c10b0 : decide (65 ≤ a0) = true := decide_eq_true c10
      clear c10
      by_cases c11 : a0 ≤ 90
      · rw [if_pos c11] at H
        have c11b0 : decide (a0 ≤ 90) = true := decide_eq_true c11
        clear c11
        obtain rfl := Option.some.inj H
        go_enter Try.func29, Try.ntmps29
        go_wp2
        go_ret
        exact ⟨by first | rfl | (simp; done) | (simp [*]; done), by repeat (first | exact Drawn0.refl _ | apply Drawn0.step)⟩
      · rw [if_neg c11] at H
        have c11b0 : decide (a0 ≤ 90) = false := decide_eq_false c11
        clear c11
        by_cases c12 : 48 ≤ a0
        · rw [if_pos c12] at H
          have c12b0 : decide (48 ≤ a0) = true := decide_eq_true c12
          clear c12
          by_cases c13 : a0 ≤ 57
          · rw [if_pos c13] at H
            have c13b0 : decide (a0 ≤ 57) = true := decide_eq_true c13
            clear c13
            obtain rfl := Option.some.inj H
            go_enter Try.func29, Try.ntmps29
            go_wp2
            go_ret
            exact ⟨by first | rfl | (simp; done) | (simp [*]; done), by repeat (first | exact Drawn0.refl _ | apply Drawn0.step)⟩
          · rw [if_neg c13] at H
            have c13b0 : decide (a0 ≤ 57) = false := decide_eq_false c13
            clear c13
            obtain rfl := Option.some.inj H
            go_enter Try.func29, Try.ntmps29
            go_wp2
            go_ret
            exact ⟨by first | rfl | (simp; done) | (simp [*]; done), by repeat (first | exact Drawn0.refl _ | apply Drawn0.step)⟩
        · rw [if_neg c12] at H
          have c12b0 : decide (48 ≤ a0) = false := decide_eq_false c12
          clear c12
          obtain rfl := Option.some.inj H
          go_enter Try.func29, Try.ntmps29
          go_wp2
          go_ret
          exact ⟨by first | rfl | (simp; done) | (simp [*]; done), by repeat (first | exact Drawn0.refl _ | apply Drawn0.step)⟩
    · rw [if_neg c10] at H
      have c10b0 : decide (65 ≤ a0) = false := decide_eq_false c10
      clear c10
      by_cases c14 : 48 ≤ a0
      · rw [if_pos c14] at H
        have c14b0 : decide (48 ≤ a0) = true := decide_eq_true c14
        clear c14
        by_cases c15 : a0 ≤ 57
        · rw [if_pos c15] at H
          have c15b0 : decide (a0 ≤ 57) = true := decide_eq_true c15
          clear c15
          obtain rfl := Option.some.inj H
          go_enter Try.func29, Try.ntmps29
          go_wp2
          go_ret
          exact ⟨by first | rfl | (simp; done) | (simp [*]; done), by repeat (first | exact Drawn0.refl _ | apply Drawn0.step)⟩
        · rw [if_neg c15] at H
          have c15b0 : decide (a0 ≤ 57) = false := decide_eq_false c15
          clear c15
          obtain rfl := Option.some.inj H
          go_enter Try.func29, Try.ntmps29
          go_wp2
          go_ret
          exact ⟨by first | rfl | (simp; done) | (simp [*]; done), by repeat (first | exact Drawn0.refl _ | apply Drawn0.step)⟩
      · rw [if_neg c14] at H
        have c14b0 : decide (48 ≤ a0) = false := decide_eq_false c14
        clear c14
        obtain rfl := Option.some.inj H
        go_enter Try.func29, Try.ntmps29
        go_wp2
        go_ret
        exact ⟨by first | rfl | (simp; done) | (simp [*]; done), by repeat (first | exact Drawn0.refl _ | apply Drawn0.step)⟩

end Go.Proofs.Ytaogbmljadaplaa.PFnSyContext
