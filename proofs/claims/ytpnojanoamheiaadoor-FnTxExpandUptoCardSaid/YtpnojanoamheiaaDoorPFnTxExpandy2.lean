/- Machine-made: walks of functions of the program, out of the print's own lines. -/
import Derived.Test.YtpnojanoamheiaaDoorPFnTxExpandy0
import Derived.Test.YtpnojanoamheiaaDoorPFnTxExpandy1
namespace Go.Proofs.YtpnojanoamheiaaDoor.PFnTxExpand
open Go.RowKit Go.Proofs.YtpnojanoamheiaaDoorW.PrintWords Go.Proofs.YtpnojanoamheiaaDoorW.PrintLast Go.Proofs.YtpnojanoamheiaaDoorW.PrintMore
attribute [local go_sem] max2_int min2_int max_two min_two max_three min_three max_four min_four   -- for this text's walks alone
set_option linter.unusedVariables false
set_option linter.unusedSimpArgs false

/-! ### regexp_zzCut: function 19 -/
def regexp_zzCut.f (k : Nat) (a0 : ByteArray) (a1 : ByteArray) : Option (ByteArray × ByteArray × Bool) := (regexp_zzIndex.f k a0 a1).bind fun t106 => (if t106 ≥ 0 then (if 0 ≤ t106 then (if t106 ≤ (a0.size : Int) then (if 0 ≤ (wrap64 (t106 + (a1.size : Int))) then (if (wrap64 (t106 + (a1.size : Int))) ≤ (a0.size : Int) then (some (a0.extract 0 (t106 : Int).toNat, a0.extract ((wrap64 (t106 + (a1.size : Int))) : Int).toNat a0.size, true)) else (none)) else (none)) else (none)) else (none)) else (some (a0, (⟨#[]⟩ : ByteArray), false)))
theorem regexp_zzCut.mono : ∀ a0 a1 k, LeO (regexp_zzCut.f k a0 a1) (regexp_zzCut.f (k + 1) a0 a1) := by
  intro a0 a1 k
  unfold regexp_zzCut.f
  repeat' first
      | (with_reducible exact regexp_zzIndex.mono _ _ _)
      | (with_reducible exact LeO.refl _)
      | (with_reducible exact LeO.none _)
      | (with_reducible refine LeO.ite ?_ ?_)
      | (with_reducible refine LeO.bind ?_ (fun _ => ?_))
      | exact regexp_zzIndex.mono _ _ _
      | exact LeO.none _
      | refine LeO.ite ?_ ?_
      | refine LeO.bind ?_ (fun _ => ?_)
set_option maxHeartbeats 8000000 in
set_option maxRecDepth 100000 in
theorem regexp_zzCut.calls (k : Nat) (a0 : ByteArray) (a1 : ByteArray) (r1 : ByteArray) (r2 : ByteArray) (r3 : Bool) (w : World) (h : regexp_zzCut.f k a0 a1 = some (r1, r2, r3)) :
    Calls Tryd.prog 19 #[.string a0, .string a1] w fun e w' => e = .returned (.tuple #[.string r1, .string r2, .bool r3]) ∧ Drawn0 w w' := by
  have H : ((regexp_zzIndex.f k a0 a1).bind fun t106 => (if t106 ≥ 0 then (if 0 ≤ t106 then (if t106 ≤ (a0.size : Int) then (if 0 ≤ (wrap64 (t106 + (a1.size : Int))) then (if (wrap64 (t106 + (a1.size : Int))) ≤ (a0.size : Int) then (some (a0.extract 0 (t106 : Int).toNat, a0.extract ((wrap64 (t106 + (a1.size : Int))) : Int).toNat a0.size, true)) else (none)) else (none)) else (none)) else (none)) else (some (a0, (⟨#[]⟩ : ByteArray), false)))) = some (r1, r2, r3) := h
  clear h
  replace H := Option.bind_eq_some_iff.mp H
  obtain ⟨t106, A30, H⟩ := H
  replace H : (if t106 ≥ 0 then (if 0 ≤ t106 then (if t106 ≤ (a0.size : Int) then (if 0 ≤ (wrap64 (t106 + (a1.size : Int))) then (if (wrap64 (t106 + (a1.size : Int))) ≤ (a0.size : Int) then (some (a0.extract 0 (t106 : Int).toNat, a0.extract ((wrap64 (t106 + (a1.size : Int))) : Int).toNat a0.size, true)) else (none)) else (none)) else (none)) else (none)) else (some (a0, (⟨#[]⟩ : ByteArray), false))) = some (r1, r2, r3) := H
  have A3 := Aside0.mk A30
  clear A30
  by_cases c4 : t106 ≥ 0
  · rw [if_pos c4] at H
    have c4b0 : decide (0 ≤ t106) = true := decide_eq_true c4
    clear c4
    by_cases c5 : 0 ≤ t106
    · rw [if_pos c5] at H
      have c5b0 := eq_true c5
      have c5b1 : decide (0 ≤ t106) = true := decide_eq_true c5
      clear c5
      by_cases c6 : t106 ≤ (a0.size : Int)
      · rw [if_pos c6] at H
        have c6b0 := eq_true c6
        have c6b1 : decide (t106 ≤ (a0.size : Int)) = true := decide_eq_true c6
        clear c6
        obtain ⟨ji7, hji7⟩ : ∃ j_ : Int, (wrap64 (t106 + (a1.size : Int))) = j_ := ⟨_, rfl⟩
        replace H : (if 0 ≤ (ji7) then (if (ji7) ≤ (a0.size : Int) then (some (a0.extract 0 (t106 : Int).toNat, a0.extract ((ji7) : Int).toNat a0.size, true)) else (none)) else (none)) = some (r1, r2, r3) := by first | (rw [hji7] at H; exact H) | (simp only [hji7] at H ⊢; exact H)
        (try rw [hji7] at A3)
        have hji7w : (IntKind.i64.wrap (t106 + (a1.size : Int))) = ji7 := (i64_w _).trans hji7
        by_cases c8 : 0 ≤ (ji7)
        · rw [if_pos c8] at H
          have c8b0 := eq_true c8
          have c8b1 : decide (0 ≤ (ji7)) = true := decide_eq_true c8
          clear c8
          by_cases c9 : (ji7) ≤ (a0.size : Int)
          · rw [if_pos c9] at H
            have c9b0 := eq_true c9
            have c9b1 : decide ((ji7) ≤ (a0.size : Int)) = true := decide_eq_true c9
            clear c9
            simp only [Option.some.injEq, Prod.mk.injEq] at H
            obtain ⟨rfl, rfl, rfl⟩ := H
            go_enter Tryd.func19, Tryd.ntmps19
            go_wp2_with (first | (go_at_call 24; (with_reducible refine (regexp_zzIndex.calls k a0 a1 t106 _ A3.out).mono ?_); rintro e w' ⟨rfl, ⟨nd, rfl⟩⟩; (try first | exact ⟨rfl, _, World.drewN_drewN _ _ _⟩ | exact ⟨rfl, _, Eq.trans (World.drewN_drewN _ _ _) (congrArg (World.drewN _) (Nat.add_assoc _ _ _))⟩)))
            repeat (go_quiet (first | (go_at_call 24; (with_reducible refine (regexp_zzIndex.calls k a0 a1 t106 _ A3.out).mono ?_); rintro e w' ⟨rfl, ⟨nd, rfl⟩⟩; (try first | exact ⟨rfl, _, World.drewN_drewN _ _ _⟩ | exact ⟨rfl, _, Eq.trans (World.drewN_drewN _ _ _) (congrArg (World.drewN _) (Nat.add_assoc _ _ _))⟩))); try go_wp2_with (first | (go_at_call 24; (with_reducible refine (regexp_zzIndex.calls k a0 a1 t106 _ A3.out).mono ?_); rintro e w' ⟨rfl, ⟨nd, rfl⟩⟩; (try first | exact ⟨rfl, _, World.drewN_drewN _ _ _⟩ | exact ⟨rfl, _, Eq.trans (World.drewN_drewN _ _ _) (congrArg (World.drewN _) (Nat.add_assoc _ _ _))⟩))))
            go_ret3
            exact ⟨by first | rfl | (simp; done) | (simp only [← hji7] <;> (first | rfl | simp)) | (simp [*]; done), by repeat (first | exact Drawn0.refl _ | apply Drawn0.step)⟩
          · rw [if_neg c9] at H
            exact absurd H (by simp)
        · rw [if_neg c8] at H
          exact absurd H (by simp)
      · rw [if_neg c6] at H
        exact absurd H (by simp)
    · rw [if_neg c5] at H
      exact absurd H (by simp)
  · rw [if_neg c4] at H
    have c4b0 : decide (0 ≤ t106) = false := decide_eq_false c4
    clear c4
    simp only [Option.some.injEq, Prod.mk.injEq] at H
    obtain ⟨rfl, rfl, rfl⟩ := H
    go_enter Tryd.func19, Tryd.ntmps19
    go_wp2_with (first | (go_at_call 24; (with_reducible refine (regexp_zzIndex.calls k a0 a1 t106 _ A3.out).mono ?_); rintro e w' ⟨rfl, ⟨nd, rfl⟩⟩; (try first | exact ⟨rfl, _, World.drewN_drewN _ _ _⟩ | exact ⟨rfl, _, Eq.trans (World.drewN_drewN _ _ _) (congrArg (World.drewN _) (Nat.add_assoc _ _ _))⟩)))
    repeat (go_quiet (first | (go_at_call 24; (with_reducible refine (regexp_zzIndex.calls k a0 a1 t106 _ A3.out).mono ?_); rintro e w' ⟨rfl, ⟨nd, rfl⟩⟩; (try first | exact ⟨rfl, _, World.drewN_drewN _ _ _⟩ | exact ⟨rfl, _, Eq.trans (World.drewN_drewN _ _ _) (congrArg (World.drewN _) (Nat.add_assoc _ _ _))⟩))); try go_wp2_with (first | (go_at_call 24; (with_reducible refine (regexp_zzIndex.calls k a0 a1 t106 _ A3.out).mono ?_); rintro e w' ⟨rfl, ⟨nd, rfl⟩⟩; (try first | exact ⟨rfl, _, World.drewN_drewN _ _ _⟩ | exact ⟨rfl, _, Eq.trans (World.drewN_drewN _ _ _) (congrArg (World.drewN _) (Nat.add_assoc _ _ _))⟩))))
    go_ret3
    exact ⟨by first | rfl | (simp; done) | (simp [*]; done), by repeat (first | exact Drawn0.refl _ | apply Drawn0.step)⟩

-- NOT PRINTED: function 21 (utf8_decodeRuneInStringSlow)

-- NOT PRINTED: function 16 (utf8_DecodeRuneInString)

-- NOT PRINTED: function 26 (unicode_is16)

-- NOT PRINTED: function 27 (unicode_is32)

-- NOT PRINTED: function 25 (unicode_isExcludingLatin)

-- NOT PRINTED: function 22 (unicode_IsLetter)

-- NOT PRINTED: function 23 (unicode_IsDigit)

-- NOT PRINTED: function 20 (regexp_extract)

-- NOT PRINTED: function 15 (regexp_Regexp_expand)

-- NOT PRINTED: function 10 (regexp_Regexp_ExpandString)

-- NOT PRINTED: function 11 (regexp_Regexp_Expand)

-- NOT PRINTED: function 6 (impl_TxExpand)

-- NOT PRINTED: function 17 (spec_TxNameChar)

/-! ### spec_TxGroupNumber: function 18 -/
def spec_TxGroupNumber.l0 : Nat → ByteArray → Int → Int → Option (Int)
  | 0, _, _, _ => none
  | k + 1, x0, x3, x4 => if x4 < (x0.size : Int) then (if 0 ≤ x4 then (if (bt x0 x4) < 48 then (some (-1)) else (if (bt x0 x4) > 57 then (some (-1)) else (spec_TxGroupNumber.l0 k x0 (mn (wrap64 ((wrap64 (x3 * 10)) + (((bt x0 x4) - 48) % 256))) 1000000000) (wrap64 (x4 + 1))))) else (none)) else (if x0.toList = ([] : List UInt8) then (some (-1)) else (if (x0.size : Int) > 9 then (some (-1)) else (if 0 < (x0.size : Int) then (if (bt x0 0) = 48 then (if (x0.size : Int) > 1 then (some (-1)) else (some x3)) else (some x3)) else (none))))
def spec_TxGroupNumber.f (k : Nat) (a0 : ByteArray) : Option (Int) := spec_TxGroupNumber.l0 k a0 0 0
theorem spec_TxGroupNumber.mono_l : ∀ k, (∀ y0 y1 y2, LeO (spec_TxGroupNumber.l0 k y0 y1 y2) (spec_TxGroupNumber.l0 (k + 1) y0 y1 y2))
  | 0 => fun _ _ _ r h => by simp [spec_TxGroupNumber.l0] at h
  | k + 1 => by
    have ih0 := spec_TxGroupNumber.mono_l k
    · intro y0 y1 y2
      unfold spec_TxGroupNumber.l0
      repeat' first
      | (with_reducible exact ih0 _ _ _)
      | (with_reducible exact LeO.refl _)
      | (with_reducible exact LeO.none _)
      | (with_reducible refine LeO.ite ?_ ?_)
      | (with_reducible refine LeO.bind ?_ (fun _ => ?_))
      | exact ih0 _ _ _
      | exact LeO.none _
      | refine LeO.ite ?_ ?_
      | refine LeO.bind ?_ (fun _ => ?_)
theorem spec_TxGroupNumber.mono : ∀ a0 k, LeO (spec_TxGroupNumber.f k a0) (spec_TxGroupNumber.f (k + 1) a0) := by
  intro a0 k
  have ih0 := spec_TxGroupNumber.mono_l k
  unfold spec_TxGroupNumber.f
  repeat' first
      | (with_reducible exact ih0 _ _ _)
      | (with_reducible exact LeO.refl _)
      | (with_reducible exact LeO.none _)
      | (with_reducible refine LeO.ite ?_ ?_)
      | (with_reducible refine LeO.bind ?_ (fun _ => ?_))
      | exact ih0 _ _ _
      | exact LeO.none _
      | refine LeO.ite ?_ ?_
      | refine LeO.bind ?_ (fun _ => ?_)
set_option maxHeartbeats 8000000 in
set_option maxRecDepth 100000 in
theorem spec_TxGroupNumber.calls (k : Nat) (a0 : ByteArray) (r : Int) (w : World) (h : spec_TxGroupNumber.f k a0 = some r) :
    Calls Tryd.prog 18 #[.string a0] w fun e w' => e = .returned (.int .i64 r) ∧ Below w.heap.size w w' := by
  have HB := Aside0.mk (Below.refl w.heap.size w)
  have H : (spec_TxGroupNumber.l0 k a0 0 0) = some r := h
  clear h
  have H' := Aside0.mk H
  clear H
  go_enter Tryd.func18, Tryd.ntmps18
  go_wp2
  go_loopg [3, 4] k (fun kq v3 v4 w' => ∃ (x3_1 : Int) (x4_1 : Int), v3 = .int .i64 x3_1 ∧ v4 = .int .i64 x4_1 ∧ Aside0 (spec_TxGroupNumber.l0 kq a0 x3_1 x4_1 = some r) ∧ Aside0 (kq ≤ k) ∧ Aside0 (Below w.heap.size w w'))
  case atStart => exact ⟨(0), (0), (by first | rfl | (simp; done) | (simp [*]; done)), (by first | rfl | (simp; done) | (simp [*]; done)), H', ⟨Nat.le_refl _⟩, ⟨by repeat (first | (with_reducible first | exact HB.out | apply below_alloc | apply pw_below_drewN | apply below_drew1) | exact HB.out)⟩⟩
  case round =>
    clear H'
    try clear c1
    obtain ⟨x3_1, x4_1, rfl, rfl, HA, HK1, HB⟩ := hrel
    cases gk with
    | zero => exact absurd HA.out (by simp [spec_TxGroupNumber.l0])
    | succ k1 =>
      have H := HA.out
      clear HA
      simp only [spec_TxGroupNumber.l0] at H
      by_cases c2 : x4_1 < (a0.size : Int)
      · rw [if_pos c2] at H
        have c2b0 : decide (x4_1 < (a0.size : Int)) = true := decide_eq_true c2
        clear c2
        by_cases c3 : 0 ≤ x4_1
        · rw [if_pos c3] at H
          have c3b0 : decide (0 ≤ x4_1) = true := decide_eq_true c3
          clear c3
          by_cases c5 : (bt a0 x4_1) < 48
          · rw [if_pos c5] at H
            have c5b0 : decide ((bt a0 x4_1) < 48) = true := decide_eq_true c5
            clear c5
            obtain rfl := Option.some.inj H
            have p4 : 0 ≤ (x4_1 : Int) := of_decide_eq_true (by first | (with_reducible assumption) | assumption)
            have q4 : x4_1 < (a0.size : Int) := of_decide_eq_true (by first | (with_reducible assumption) | assumption)
            have hx4 := bt_at a0 x4_1
            replace p4 := eq_true p4
            replace q4 := eq_true q4
            go_wp2
            go_ret
            exact ⟨by first | rfl | (simp [errW_none, errW_some] <;> rfl) | (simp [*, errW_none, errW_some] <;> rfl), by repeat (first | (with_reducible first | exact HB.out | apply below_alloc | apply pw_below_drewN | apply below_drew1) | exact HB.out)⟩
          · rw [if_neg c5] at H
            have c5b0 : decide ((bt a0 x4_1) < 48) = false := decide_eq_false c5
            clear c5
            by_cases c7 : (bt a0 x4_1) > 57
            · rw [if_pos c7] at H
              have c7b0 : decide (57 < (bt a0 x4_1)) = true := decide_eq_true c7
              clear c7
              obtain rfl := Option.some.inj H
              have p4 : 0 ≤ (x4_1 : Int) := of_decide_eq_true (by first | (with_reducible assumption) | assumption)
              have q4 : x4_1 < (a0.size : Int) := of_decide_eq_true (by first | (with_reducible assumption) | assumption)
              have hx4 := bt_at a0 x4_1
              replace p4 := eq_true p4
              replace q4 := eq_true q4
              have p6 : 0 ≤ (x4_1 : Int) := of_decide_eq_true (by first | (with_reducible assumption) | assumption)
              have q6 : x4_1 < (a0.size : Int) := of_decide_eq_true (by first | (with_reducible assumption) | assumption)
              have hx6 := bt_at a0 x4_1
              replace p6 := eq_true p6
              replace q6 := eq_true q6
              go_wp2
              go_ret
              exact ⟨by first | rfl | (simp [errW_none, errW_some] <;> rfl) | (simp [*, errW_none, errW_some] <;> rfl), by repeat (first | (with_reducible first | exact HB.out | apply below_alloc | apply pw_below_drewN | apply below_drew1) | exact HB.out)⟩
            · rw [if_neg c7] at H
              have c7b0 : decide (57 < (bt a0 x4_1)) = false := decide_eq_false c7
              clear c7
              obtain ⟨ji9, hji9⟩ : ∃ j_ : Int, (mn (wrap64 ((wrap64 (x3_1 * 10)) + (((bt a0 x4_1) - 48) % 256))) 1000000000) = j_ := ⟨_, rfl⟩
              replace H : (spec_TxGroupNumber.l0 k1 a0 ji9 (wrap64 (x4_1 + 1))) = some r := by first | (rw [hji9] at H; exact H) | (simp only [hji9] at H ⊢; exact H)
              have hji9_ : (if 1000000000 < (wrap64 ((wrap64 (x3_1 * 10)) + (((bt a0 x4_1) - 48) % 256))) then 1000000000 else (wrap64 ((wrap64 (x3_1 * 10)) + (((bt a0 x4_1) - 48) % 256)))) = ji9 := hji9
              have H' := Aside0.mk H
              clear H
              have p4 : 0 ≤ (x4_1 : Int) := of_decide_eq_true (by first | (with_reducible assumption) | assumption)
              have q4 : x4_1 < (a0.size : Int) := of_decide_eq_true (by first | (with_reducible assumption) | assumption)
              have hx4 := bt_at a0 x4_1
              replace p4 := eq_true p4
              replace q4 := eq_true q4
              have p6 : 0 ≤ (x4_1 : Int) := of_decide_eq_true (by first | (with_reducible assumption) | assumption)
              have q6 : x4_1 < (a0.size : Int) := of_decide_eq_true (by first | (with_reducible assumption) | assumption)
              have hx6 := bt_at a0 x4_1
              replace p6 := eq_true p6
              replace q6 := eq_true q6
              have p8 : 0 ≤ (x4_1 : Int) := of_decide_eq_true (by first | (with_reducible assumption) | assumption)
              have q8 : x4_1 < (a0.size : Int) := of_decide_eq_true (by first | (with_reducible assumption) | assumption)
              have hx8 := bt_at a0 x4_1
              replace p8 := eq_true p8
              replace q8 := eq_true q8
              go_wp2
              go_roundg k1
              case measure => have := HK1.out; omega
              case rel => exact ⟨(ji9), (wrap64 (x4_1 + 1)), (by first | rfl | (simp; done) | (simp only [← hji9] <;> (first | rfl | simp)) | (simp [*]; done)), (by first | rfl | (simp; done) | (simp [*]; done)), H', ⟨by have := HK1.out; omega⟩, ⟨by repeat (first | (with_reducible first | exact HB.out | apply below_alloc | apply pw_below_drewN | apply below_drew1) | exact HB.out)⟩⟩
        · rw [if_neg c3] at H
          exact absurd H (by simp)
      · rw [if_neg c2] at H
        have c2b0 : decide (x4_1 < (a0.size : Int)) = false := decide_eq_false c2
        clear c2
        by_cases c10 : a0.toList = ([] : List UInt8)
        · rw [if_pos c10] at H
          have c10b0 : (a0.toList == ([] : List UInt8)) = true := beq_iff_eq.mpr c10
          have c10b1 : (a0.toList != ([] : List UInt8)) = false := bne_eq_false_iff_eq.mpr c10
          clear c10
          obtain rfl := Option.some.inj H
          go_wp2
          go_ret
          exact ⟨by first | rfl | (simp [errW_none, errW_some] <;> rfl) | (simp [*, errW_none, errW_some] <;> rfl), by repeat (first | (with_reducible first | exact HB.out | apply below_alloc | apply pw_below_drewN | apply below_drew1) | exact HB.out)⟩
        · rw [if_neg c10] at H
          have c10b0 : (a0.toList == ([] : List UInt8)) = false := beq_eq_false_iff_ne.mpr c10
          have c10b1 : (a0.toList != ([] : List UInt8)) = true := bne_iff_ne.mpr c10
          by_cases c11 : (a0.size : Int) > 9
          · rw [if_pos c11] at H
            have c11b0 : decide (9 < (a0.size : Int)) = true := decide_eq_true c11
            have c11b1 : decide (9 < a0.size) = true := decide_eq_true (by omega)
            clear c11
            obtain rfl := Option.some.inj H
            go_wp2
            go_ret
            exact ⟨by first | rfl | (simp [errW_none, errW_some] <;> rfl) | (simp [*, errW_none, errW_some] <;> rfl), by repeat (first | (with_reducible first | exact HB.out | apply below_alloc | apply pw_below_drewN | apply below_drew1) | exact HB.out)⟩
          · rw [if_neg c11] at H
            have c11b0 : decide (9 < (a0.size : Int)) = false := decide_eq_false c11
            have c11b1 : decide (9 < a0.size) = false := decide_eq_false (by omega)
            clear c11
            by_cases c12 : 0 < (a0.size : Int)
            · rw [if_pos c12] at H
              have c12b0 : decide (0 < (a0.size : Int)) = true := decide_eq_true c12
              have c12b1 : decide (0 < a0.size) = true := decide_eq_true (by omega)
              clear c12
              by_cases c14 : (bt a0 0) = 48
              · rw [if_pos c14] at H
                have c14b0 : ((bt a0 0) == 48) = true := beq_iff_eq.mpr c14
                have c14b1 : ((bt a0 0) != 48) = false := bne_eq_false_iff_eq.mpr c14
                clear c14
                by_cases c15 : (a0.size : Int) > 1
                · rw [if_pos c15] at H
                  have c15b0 : decide (1 < (a0.size : Int)) = true := decide_eq_true c15
                  have c15b1 : decide (1 < a0.size) = true := decide_eq_true (by omega)
                  clear c15
                  obtain rfl := Option.some.inj H
                  have p13 : 0 ≤ (0 : Int) := (by omega)
                  have q13 : 0 < a0.size := (by have : (0 : Int) < (a0.size : Int) := of_decide_eq_true (by first | (with_reducible assumption) | assumption); omega)
                  have hx13 : ∀ h : 0 < a0.size, ((a0[0]'h).toNat : Int) = bt a0 0 := bt_at a0 0
                  clear p13
                  have qi13 : (0 < (a0.size : Int)) = True := eq_true (of_decide_eq_true (by first | (with_reducible assumption) | assumption))
                  replace q13 := eq_true q13
                  go_wp2
                  go_ret
                  exact ⟨by first | rfl | (simp [errW_none, errW_some] <;> rfl) | (simp [*, errW_none, errW_some] <;> rfl), by repeat (first | (with_reducible first | exact HB.out | apply below_alloc | apply pw_below_drewN | apply below_drew1) | exact HB.out)⟩
                · rw [if_neg c15] at H
                  have c15b0 : decide (1 < (a0.size : Int)) = false := decide_eq_false c15
                  have c15b1 : decide (1 < a0.size) = false := decide_eq_false (by omega)
                  clear c15
                  obtain rfl := Option.some.inj H
                  have p13 : 0 ≤ (0 : Int) := (by omega)
                  have q13 : 0 < a0.size := (by have : (0 : Int) < (a0.size : Int) := of_decide_eq_true (by first | (with_reducible assumption) | assumption); omega)
                  have hx13 : ∀ h : 0 < a0.size, ((a0[0]'h).toNat : Int) = bt a0 0 := bt_at a0 0
                  clear p13
                  have qi13 : (0 < (a0.size : Int)) = True := eq_true (of_decide_eq_true (by first | (with_reducible assumption) | assumption))
                  replace q13 := eq_true q13
                  go_wp2
                  go_ret
                  exact ⟨by first | rfl | (simp [errW_none, errW_some] <;> rfl) | (simp [*, errW_none, errW_some] <;> rfl), by repeat (first | (with_reducible first | exact HB.out | apply below_alloc | apply pw_below_drewN | apply below_drew1) | exact HB.out)⟩
              · rw [if_neg c14] at H
                have c14b0 : ((bt a0 0) == 48) = false := beq_eq_false_iff_ne.mpr c14
                have c14b1 : ((bt a0 0) != 48) = true := bne_iff_ne.mpr c14
                obtain rfl := Option.some.inj H
                have p13 : 0 ≤ (0 : Int) := (by omega)
                have q13 : 0 < a0.size := (by have : (0 : Int) < (a0.size : Int) := of_decide_eq_true (by first | (with_reducible assumption) | assumption); omega)
                have hx13 : ∀ h : 0 < a0.size, ((a0[0]'h).toNat : Int) = bt a0 0 := bt_at a0 0
                clear p13
                have qi13 : (0 < (a0.size : Int)) = True := eq_true (of_decide_eq_true (by first | (with_reducible assumption) | assumption))
                replace q13 := eq_true q13
                go_wp2
                go_ret
                exact ⟨by first | rfl | (simp [errW_none, errW_some] <;> rfl) | (simp [*, errW_none, errW_some] <;> rfl), by repeat (first | (with_reducible first | exact HB.out | apply below_alloc | apply pw_below_drewN | apply below_drew1) | exact HB.out)⟩
            · rw [if_neg c12] at H
              exact absurd H (by simp)

-- NOT PRINTED: function 12 (spec_TxExtract)

/-! ### spec_TxGroup: function 13 -/
def spec_TxGroup.f (a0 : ByteArray) (l1 : List Int) (a2 : Int) : Option (ByteArray × Bool) := if a2 < 0 then (some ((⟨#[]⟩ : ByteArray), false)) else (if a2 > (wrap64 (Int.tdiv (wrap64 ((l1.length : Int) - 2)) 2)) then (some ((⟨#[]⟩ : ByteArray), false)) else (if 0 ≤ (wrap64 (2 * a2)) then (if (wrap64 (2 * a2)) < (l1.length : Int) then (if (rd l1 (wrap64 (2 * a2))) < 0 then (some ((⟨#[]⟩ : ByteArray), false)) else (if 0 ≤ (wrap64 ((wrap64 (2 * a2)) + 1)) then (if (wrap64 ((wrap64 (2 * a2)) + 1)) < (l1.length : Int) then (if 0 ≤ (rd l1 (wrap64 (2 * a2))) then (if (rd l1 (wrap64 (2 * a2))) ≤ (rd l1 (wrap64 ((wrap64 (2 * a2)) + 1))) then (if (rd l1 (wrap64 ((wrap64 (2 * a2)) + 1))) ≤ (a0.size : Int) then (some (a0.extract ((rd l1 (wrap64 (2 * a2))) : Int).toNat ((rd l1 (wrap64 ((wrap64 (2 * a2)) + 1))) : Int).toNat, true)) else (none)) else (none)) else (none)) else (none)) else (none))) else (none)) else (none)))
set_option maxHeartbeats 8000000 in
set_option maxRecDepth 100000 in
theorem spec_TxGroup.calls (a0 : ByteArray) (A1 : Option Addr) (c1 : Nat) (l1 : List Int) (a2 : Int) (r1 : ByteArray) (r2 : Bool) (w : World) (hr1 : Kd.C (Kd.int .i64) w A1 l1.length l1) (hc1 : l1.length ≤ c1) (h : spec_TxGroup.f a0 l1 a2 = some (r1, r2)) :
    Calls Tryd.prog 13 #[.string a0, .slice A1 l1.length c1, .int .i64 a2] w fun e w' => e = .returned (.tuple #[.string r1, .bool r2]) ∧ Drawn0 w w' := by
  have HR1 := Aside0.mk hr1
  have HC1 := Aside0.mk hc1
  clear hr1 hc1
  have H : (if a2 < 0 then (some ((⟨#[]⟩ : ByteArray), false)) else (if a2 > (wrap64 (Int.tdiv (wrap64 ((l1.length : Int) - 2)) 2)) then (some ((⟨#[]⟩ : ByteArray), false)) else (if 0 ≤ (wrap64 (2 * a2)) then (if (wrap64 (2 * a2)) < (l1.length : Int) then (if (rd l1 (wrap64 (2 * a2))) < 0 then (some ((⟨#[]⟩ : ByteArray), false)) else (if 0 ≤ (wrap64 ((wrap64 (2 * a2)) + 1)) then (if (wrap64 ((wrap64 (2 * a2)) + 1)) < (l1.length : Int) then (if 0 ≤ (rd l1 (wrap64 (2 * a2))) then (if (rd l1 (wrap64 (2 * a2))) ≤ (rd l1 (wrap64 ((wrap64 (2 * a2)) + 1))) then (if (rd l1 (wrap64 ((wrap64 (2 * a2)) + 1))) ≤ (a0.size : Int) then (some (a0.extract ((rd l1 (wrap64 (2 * a2))) : Int).toNat ((rd l1 (wrap64 ((wrap64 (2 * a2)) + 1))) : Int).toNat, true)) else (none)) else (none)) else (none)) else (none)) else (none))) else (none)) else (none)))) = some (r1, r2) := h
  clear h
  by_cases c4 : a2 < 0
  · rw [if_pos c4] at H
    have c4b0 : decide (a2 < 0) = true := decide_eq_true c4
    clear c4
    simp only [Option.some.injEq, Prod.mk.injEq] at H
    obtain ⟨rfl, rfl⟩ := H
    go_enter Tryd.func13, Tryd.ntmps13
    go_wp2
    repeat (go_quiet (fail); try go_wp2)
    go_ret2
    exact ⟨by first | rfl | (simp; done) | (simp [*]; done), by repeat (first | exact Drawn0.refl _ | apply Drawn0.step)⟩
  · rw [if_neg c4] at H
    have c4b0 : decide (a2 < 0) = false := decide_eq_false c4
    clear c4
    by_cases c5 : a2 > (wrap64 (Int.tdiv (wrap64 ((l1.length : Int) - 2)) 2))
    · rw [if_pos c5] at H
      have c5b0 : decide ((wrap64 (Int.tdiv (wrap64 ((l1.length : Int) - 2)) 2)) < a2) = true := decide_eq_true c5
      clear c5
      simp only [Option.some.injEq, Prod.mk.injEq] at H
      obtain ⟨rfl, rfl⟩ := H
      go_enter Tryd.func13, Tryd.ntmps13
      go_wp2
      repeat (go_quiet (fail); try go_wp2)
      go_ret2
      exact ⟨by first | rfl | (simp; done) | (simp [*]; done), by repeat (first | exact Drawn0.refl _ | apply Drawn0.step)⟩
    · rw [if_neg c5] at H
      have c5b0 : decide ((wrap64 (Int.tdiv (wrap64 ((l1.length : Int) - 2)) 2)) < a2) = false := decide_eq_false c5
      clear c5
      obtain ⟨ji6, hji6⟩ : ∃ j_ : Int, (wrap64 (2 * a2)) = j_ := ⟨_, rfl⟩
      replace H : (if 0 ≤ (ji6) then (if (ji6) < (l1.length : Int) then (if (rd l1 (ji6)) < 0 then (some ((⟨#[]⟩ : ByteArray), false)) else (if 0 ≤ (wrap64 ((ji6) + 1)) then (if (wrap64 ((ji6) + 1)) < (l1.length : Int) then (if 0 ≤ (rd l1 (ji6)) then (if (rd l1 (ji6)) ≤ (rd l1 (wrap64 ((ji6) + 1))) then (if (rd l1 (wrap64 ((ji6) + 1))) ≤ (a0.size : Int) then (some (a0.extract ((rd l1 (ji6)) : Int).toNat ((rd l1 (wrap64 ((ji6) + 1))) : Int).toNat, true)) else (none)) else (none)) else (none)) else (none)) else (none))) else (none)) else (none)) = some (r1, r2) := by first | (rw [hji6] at H; exact H) | (simp only [hji6] at H ⊢; exact H)
      have hji6w : (IntKind.i64.wrap (2 * a2)) = ji6 := (i64_w _).trans hji6
      by_cases c7 : 0 ≤ (ji6)
      · rw [if_pos c7] at H
        have c7b0 : decide (0 ≤ (ji6)) = true := decide_eq_true c7
        clear c7
        by_cases c8 : (ji6) < (l1.length : Int)
        · rw [if_pos c8] at H
          have c8b0 : decide ((ji6) < (l1.length : Int)) = true := decide_eq_true c8
          clear c8
          by_cases c9 : (rd l1 (ji6)) < 0
          · rw [if_pos c9] at H
            have c9b0 : decide ((rd l1 (ji6)) < 0) = true := decide_eq_true c9
            clear c9
            simp only [Option.some.injEq, Prod.mk.injEq] at H
            obtain ⟨rfl, rfl⟩ := H
            have p111 : 0 ≤ ((ji6) : Int) := of_decide_eq_true (by first | (with_reducible assumption) | assumption)
            have q111 : (ji6) < (l1.length : Int) := of_decide_eq_true (by first | (with_reducible assumption) | assumption)
            obtain ⟨ad111, e111, hx111_0⟩ := Kd.at_int HR1.out (ji6) p111 q111
            cases e111
            replace p111 := eq_true p111
            replace q111 := eq_true q111
            go_enter Tryd.func13, Tryd.ntmps13
            go_wp2
            repeat (go_quiet (fail); try go_wp2)
            go_ret2
            exact ⟨by first | rfl | (simp; done) | (simp only [← hji6] <;> (first | rfl | simp)) | (simp [*]; done), by repeat (first | exact Drawn0.refl _ | apply Drawn0.step)⟩
          · rw [if_neg c9] at H
            have c9b0 : decide ((rd l1 (ji6)) < 0) = false := decide_eq_false c9
            clear c9
            obtain ⟨ji10, hji10⟩ : ∃ j_ : Int, (wrap64 ((ji6) + 1)) = j_ := ⟨_, rfl⟩
            replace H : (if 0 ≤ (ji10) then (if (ji10) < (l1.length : Int) then (if 0 ≤ (rd l1 (ji6)) then (if (rd l1 (ji6)) ≤ (rd l1 (ji10)) then (if (rd l1 (ji10)) ≤ (a0.size : Int) then (some (a0.extract ((rd l1 (ji6)) : Int).toNat ((rd l1 (ji10)) : Int).toNat, true)) else (none)) else (none)) else (none)) else (none)) else (none)) = some (r1, r2) := by first | (rw [hji10] at H; exact H) | (simp only [hji10] at H ⊢; exact H)
            have hji10w : (IntKind.i64.wrap ((ji6) + 1)) = ji10 := (i64_w _).trans hji10
            by_cases c11 : 0 ≤ (ji10)
            · rw [if_pos c11] at H
              have c11b0 : decide (0 ≤ (ji10)) = true := decide_eq_true c11
              clear c11
              by_cases c12 : (ji10) < (l1.length : Int)
              · rw [if_pos c12] at H
                have c12b0 : decide ((ji10) < (l1.length : Int)) = true := decide_eq_true c12
                clear c12
                by_cases c13 : 0 ≤ (rd l1 (ji6))
                · rw [if_pos c13] at H
                  have c13b0 := eq_true c13
                  have c13b1 : decide (0 ≤ (rd l1 (ji6))) = true := decide_eq_true c13
                  clear c13
                  by_cases c14 : (rd l1 (ji6)) ≤ (rd l1 (ji10))
                  · rw [if_pos c14] at H
                    have c14b0 := eq_true c14
                    have c14b1 : decide ((rd l1 (ji6)) ≤ (rd l1 (ji10))) = true := decide_eq_true c14
                    clear c14
                    by_cases c15 : (rd l1 (ji10)) ≤ (a0.size : Int)
                    · rw [if_pos c15] at H
                      have c15b0 := eq_true c15
                      have c15b1 : decide ((rd l1 (ji10)) ≤ (a0.size : Int)) = true := decide_eq_true c15
                      clear c15
                      simp only [Option.some.injEq, Prod.mk.injEq] at H
                      obtain ⟨rfl, rfl⟩ := H
                      have p111 : 0 ≤ ((ji6) : Int) := of_decide_eq_true (by first | (with_reducible assumption) | assumption)
                      have q111 : (ji6) < (l1.length : Int) := of_decide_eq_true (by first | (with_reducible assumption) | assumption)
                      obtain ⟨ad111, e111, hx111_0⟩ := Kd.at_int HR1.out (ji6) p111 q111
                      cases e111
                      replace p111 := eq_true p111
                      replace q111 := eq_true q111
                      have p112 : 0 ≤ ((ji6) : Int) := of_decide_eq_true (by first | (with_reducible assumption) | assumption)
                      have q112 : (ji6) < (l1.length : Int) := of_decide_eq_true (by first | (with_reducible assumption) | assumption)
                      obtain ⟨ad112, e112, hx112_0⟩ := Kd.at_int HR1.out (ji6) p112 q112
                      obtain rfl : ad111 = ad112 := (by injection e112)
                      replace p112 := eq_true p112
                      replace q112 := eq_true q112
                      have p113 : 0 ≤ ((ji10) : Int) := of_decide_eq_true (by first | (with_reducible assumption) | assumption)
                      have q113 : (ji10) < (l1.length : Int) := of_decide_eq_true (by first | (with_reducible assumption) | assumption)
                      obtain ⟨ad113, e113, hx113_0⟩ := Kd.at_int HR1.out (ji10) p113 q113
                      obtain rfl : ad111 = ad113 := (by injection e113)
                      replace p113 := eq_true p113
                      replace q113 := eq_true q113
                      go_enter Tryd.func13, Tryd.ntmps13
                      go_wp2
                      repeat (go_quiet (fail); try go_wp2)
                      go_ret2
                      exact ⟨by first | rfl | (simp; done) | (simp only [← hji6, ← hji10] <;> (first | rfl | simp)) | (simp [*]; done), by repeat (first | exact Drawn0.refl _ | apply Drawn0.step)⟩
                    · rw [if_neg c15] at H
                      exact absurd H (by simp)
                  · rw [if_neg c14] at H
                    exact absurd H (by simp)
                · rw [if_neg c13] at H
                  exact absurd H (by simp)
              · rw [if_neg c12] at H
                exact absurd H (by simp)
            · rw [if_neg c11] at H
              exact absurd H (by simp)
        · rw [if_neg c8] at H
          exact absurd H (by simp)
      · rw [if_neg c7] at H
        exact absurd H (by simp)

/-! ### spec_TxNamed: function 14 -/
def spec_TxNamed.l0 : Nat → ByteArray → List Int → ByteArray → List ByteArray → Int → Int → Option (ByteArray)
  | 0, _, _, _, _, _, _ => none
  | k + 1, x0, x1, x3, x13, x14, x15 => if x15 < x14 then (if 0 ≤ x15 then (if x15 < (x13.length : Int) then (if (rdOf ByteArray.empty x13 x15).toList = x3.toList then ((spec_TxGroup.f x0 x1 x15).bind fun bt115 => (if bt115.2 = true then (some bt115.1) else (spec_TxNamed.l0 k x0 x1 x3 x13 x14 (wrap64 (x15 + 1))))) else (spec_TxNamed.l0 k x0 x1 x3 x13 x14 (wrap64 (x15 + 1)))) else (none)) else (none)) else (some (⟨#[]⟩ : ByteArray))
def spec_TxNamed.f (k : Nat) (a0 : ByteArray) (l1 : List Int) (l2 : List ByteArray) (a3 : ByteArray) : Option (ByteArray) := spec_TxNamed.l0 k a0 l1 a3 l2 (l2.length : Int) 0
theorem spec_TxNamed.mono_l : ∀ k, (∀ y0 y1 y2 y3 y4 y5, LeO (spec_TxNamed.l0 k y0 y1 y2 y3 y4 y5) (spec_TxNamed.l0 (k + 1) y0 y1 y2 y3 y4 y5))
  | 0 => fun _ _ _ _ _ _ r h => by simp [spec_TxNamed.l0] at h
  | k + 1 => by
    have ih0 := spec_TxNamed.mono_l k
    · intro y0 y1 y2 y3 y4 y5
      unfold spec_TxNamed.l0
      repeat' first
      | (with_reducible exact ih0 _ _ _ _ _ _)
      | (with_reducible exact LeO.refl _)
      | (with_reducible exact LeO.none _)
      | (with_reducible refine LeO.ite ?_ ?_)
      | (with_reducible refine LeO.bind ?_ (fun _ => ?_))
      | exact ih0 _ _ _ _ _ _
      | exact LeO.none _
      | refine LeO.ite ?_ ?_
      | refine LeO.bind ?_ (fun _ => ?_)
theorem spec_TxNamed.mono : ∀ a0 a1 a2 a3 k, LeO (spec_TxNamed.f k a0 a1 a2 a3) (spec_TxNamed.f (k + 1) a0 a1 a2 a3) := by
  intro a0 a1 a2 a3 k
  have ih0 := spec_TxNamed.mono_l k
  unfold spec_TxNamed.f
  repeat' first
      | (with_reducible exact ih0 _ _ _ _ _ _)
      | (with_reducible exact LeO.refl _)
      | (with_reducible exact LeO.none _)
      | (with_reducible refine LeO.ite ?_ ?_)
      | (with_reducible refine LeO.bind ?_ (fun _ => ?_))
      | exact ih0 _ _ _ _ _ _
      | exact LeO.none _
      | refine LeO.ite ?_ ?_
      | refine LeO.bind ?_ (fun _ => ?_)
set_option maxHeartbeats 8000000 in
set_option maxRecDepth 100000 in
theorem spec_TxNamed.calls (k : Nat) (a0 : ByteArray) (A1 : Option Addr) (c1 : Nat) (l1 : List Int) (A2 : Option Addr) (c2 : Nat) (l2 : List ByteArray) (a3 : ByteArray) (r : ByteArray) (w : World) (hr1 : Kd.C (Kd.int .i64) w A1 l1.length l1) (hc1 : l1.length ≤ c1) (hr2 : Kd.C Kd.string w A2 l2.length l2) (hc2 : l2.length ≤ c2) (h : spec_TxNamed.f k a0 l1 l2 a3 = some r) :
    Calls Tryd.prog 14 #[.string a0, .slice A1 l1.length c1, .slice A2 l2.length c2, .string a3] w fun e w' => e = .returned (.string r) ∧ Drawn0 w w' := by
  have HR1 := Aside0.mk hr1
  have HC1 := Aside0.mk hc1
  clear hr1 hc1
  have HR2 := Aside0.mk hr2
  have HC2 := Aside0.mk hc2
  clear hr2 hc2
  have H : (spec_TxNamed.l0 k a0 l1 a3 l2 (l2.length : Int) 0) = some r := h
  clear h
  have H' := Aside0.mk H
  clear H
  go_enter Tryd.func14, Tryd.ntmps14
  go_wp2
  go_loopg [15] k (fun kq v15 w' => ∃ (x15_1 : Int), v15 = .int .i64 x15_1 ∧ Aside0 (spec_TxNamed.l0 kq a0 l1 a3 l2 (l2.length : Int) x15_1 = some r) ∧ Aside0 (kq ≤ k) ∧ Drawn0 w w')
  case atStart => exact ⟨(0), (by first | rfl | (simp; done) | (simp [*]; done)), H', ⟨Nat.le_refl _⟩, by repeat (first | exact Drawn0.refl _ | apply Drawn0.step)⟩
  case round =>
    clear H'
    try clear c1
    try clear c2
    try clear p2
    obtain ⟨x15_1, rfl, HA, HK1, ⟨m1, rfl⟩⟩ := hrel
    cases gk with
    | zero => exact absurd HA.out (by simp [spec_TxNamed.l0])
    | succ k1 =>
      have H := HA.out
      clear HA
      simp only [spec_TxNamed.l0] at H
      by_cases c5 : x15_1 < (l2.length : Int)
      · rw [if_pos c5] at H
        have c5b0 : decide (x15_1 < (l2.length : Int)) = true := decide_eq_true c5
        clear c5
        by_cases c6 : 0 ≤ x15_1
        · rw [if_pos c6] at H
          have c6b0 : decide (0 ≤ x15_1) = true := decide_eq_true c6
          clear c6
          by_cases c7 : x15_1 < (l2.length : Int)
          · rw [if_pos c7] at H
            have c7b0 : decide (x15_1 < (l2.length : Int)) = true := decide_eq_true c7
            clear c7
            by_cases c8 : (rdOf ByteArray.empty l2 x15_1).toList = a3.toList
            · rw [if_pos c8] at H
              have c8b0 : ((rdOf ByteArray.empty l2 x15_1).toList == a3.toList) = true := beq_iff_eq.mpr c8
              have c8b1 : ((rdOf ByteArray.empty l2 x15_1).toList != a3.toList) = false := bne_eq_false_iff_eq.mpr c8
              clear c8
              replace H := Option.bind_eq_some_iff.mp H
              obtain ⟨⟨t115, t116⟩, A90, H⟩ := H
              replace H : (if t116 = true then (some t115) else (spec_TxNamed.l0 k1 a0 l1 a3 l2 (l2.length : Int) (wrap64 (x15_1 + 1)))) = some r := H
              have A9 := Aside0.mk A90
              clear A90
              by_cases c10 : t116 = true
              · subst c10
                have H1 : (some t115) = some r := by rw [if_pos rfl] at H; exact H
                clear H
                have H := H1
                clear H1
                obtain rfl := Option.some.inj H
                have p114 : 0 ≤ (x15_1 : Int) := of_decide_eq_true (by first | (with_reducible assumption) | assumption)
                have q114 : x15_1 < (l2.length : Int) := of_decide_eq_true (by first | (with_reducible assumption) | assumption)
                obtain ⟨ad114, e114, hx114_0⟩ := Kd.at_string HR2.out x15_1 p114 q114
                cases e114
                replace p114 := eq_true p114
                replace q114 := eq_true q114
                go_wp2_with (first | ((with_reducible refine gate_callee (f := 13) rfl ?_); refine goesL_ (some 27) rfl rfl Tryd.func13 (by kernel_rfl) rfl #[.string a0, .slice A1 l1.length c1, .int .i64 x15_1] rfl (by (try simp only [List.map_toArray, List.map_cons, List.map_nil]); first | done | rfl | (simp only [List.length_drop, List.length_take]; rfl)) ?_; (with_reducible refine (spec_TxGroup.calls a0 _ _ l1 x15_1 t115 true _ ?side1 ?side2 A9.out).mono ?_); (case side1 => repeat (first | exact HR1.out | (with_reducible refine Kd.C_alloc ?_ _) | (with_reducible refine Kd.C_drewN ?_ _) | (with_reducible refine Kd.C_drew ?_))); (case side2 => exact HC1.out); rintro e w' ⟨rfl, ⟨nd, rfl⟩⟩; refine ⟨_, rfl, ?_⟩))
                go_ret
                exact ⟨by first | rfl | (simp; done) | (simp [*]; done), by repeat (first | exact Drawn0.refl _ | apply Drawn0.step)⟩
              · replace c10 := Bool.eq_false_iff.mpr c10
                subst c10
                have H1 : (spec_TxNamed.l0 k1 a0 l1 a3 l2 (l2.length : Int) (wrap64 (x15_1 + 1))) = some r := by rw [if_neg (show ¬ (false = true) by decide)] at H; exact H
                clear H
                have H := H1
                clear H1
                have H' := Aside0.mk H
                clear H
                have p114 : 0 ≤ (x15_1 : Int) := of_decide_eq_true (by first | (with_reducible assumption) | assumption)
                have q114 : x15_1 < (l2.length : Int) := of_decide_eq_true (by first | (with_reducible assumption) | assumption)
                obtain ⟨ad114, e114, hx114_0⟩ := Kd.at_string HR2.out x15_1 p114 q114
                cases e114
                replace p114 := eq_true p114
                replace q114 := eq_true q114
                go_wp2_with (first | ((with_reducible refine gate_callee (f := 13) rfl ?_); refine goesL_ (some 27) rfl rfl Tryd.func13 (by kernel_rfl) rfl #[.string a0, .slice A1 l1.length c1, .int .i64 x15_1] rfl (by (try simp only [List.map_toArray, List.map_cons, List.map_nil]); first | done | rfl | (simp only [List.length_drop, List.length_take]; rfl)) ?_; (with_reducible refine (spec_TxGroup.calls a0 _ _ l1 x15_1 t115 false _ ?side1 ?side2 A9.out).mono ?_); (case side1 => repeat (first | exact HR1.out | (with_reducible refine Kd.C_alloc ?_ _) | (with_reducible refine Kd.C_drewN ?_ _) | (with_reducible refine Kd.C_drew ?_))); (case side2 => exact HC1.out); rintro e w' ⟨rfl, ⟨nd, rfl⟩⟩; refine ⟨_, rfl, ?_⟩))
                go_roundg k1
                case measure => have := HK1.out; omega
                case rel => exact ⟨(wrap64 (x15_1 + 1)), (by first | rfl | (simp; done) | (simp [*]; done)), H', ⟨by have := HK1.out; omega⟩, by repeat (first | exact Drawn0.refl _ | apply Drawn0.step)⟩
            · rw [if_neg c8] at H
              have c8b0 : ((rdOf ByteArray.empty l2 x15_1).toList == a3.toList) = false := beq_eq_false_iff_ne.mpr c8
              have c8b1 : ((rdOf ByteArray.empty l2 x15_1).toList != a3.toList) = true := bne_iff_ne.mpr c8
              have H' := Aside0.mk H
              clear H
              have p114 : 0 ≤ (x15_1 : Int) := of_decide_eq_true (by first | (with_reducible assumption) | assumption)
              have q114 : x15_1 < (l2.length : Int) := of_decide_eq_true (by first | (with_reducible assumption) | assumption)
              obtain ⟨ad114, e114, hx114_0⟩ := Kd.at_string HR2.out x15_1 p114 q114
              cases e114
              replace p114 := eq_true p114
              replace q114 := eq_true q114
              go_wp2
              go_roundg k1
              case measure => have := HK1.out; omega
              case rel => exact ⟨(wrap64 (x15_1 + 1)), (by first | rfl | (simp; done) | (simp [*]; done)), H', ⟨by have := HK1.out; omega⟩, by repeat (first | exact Drawn0.refl _ | apply Drawn0.step)⟩
          · rw [if_neg c7] at H
            exact absurd H (by simp)
        · rw [if_neg c6] at H
          exact absurd H (by simp)
      · rw [if_neg c5] at H
        have c5b0 : decide (x15_1 < (l2.length : Int)) = false := decide_eq_false c5
        clear c5
        obtain rfl := Option.some.inj H
        go_wp2
        go_ret
        exact ⟨by first | rfl | (simp; done) | (simp [*]; done), by repeat (first | exact Drawn0.refl _ | apply Drawn0.step)⟩

-- NOT PRINTED: function 7 (spec_TxExpand)

-- NOT PRINTED: function 3 (laws_FnTxExpand)

end Go.Proofs.YtpnojanoamheiaaDoor.PFnTxExpand
