/- Machine-made: walks of functions of the program, out of the print's own lines. -/
import Derived.Test.YtofkpinikkfmeaaDoorPFnMtLeasty0
namespace Go.Proofs.YtofkpinikkfmeaaDoor.PFnMtLeast
open Go.RowKit Go.Proofs.YtofkpinikkfmeaaDoorW.PrintWords Go.Proofs.YtofkpinikkfmeaaDoorW.PrintLast Go.Proofs.YtofkpinikkfmeaaDoorW.PrintMore
attribute [local go_sem] max2_int min2_int max_two min_two max_three min_three max_four min_four   -- for this text's walks alone
set_option linter.unusedVariables false
set_option linter.unusedSimpArgs false

-- NOT PRINTED: function 19 (impl_weigh)

-- NOT PRINTED: function 20 (impl_regexpOf)

-- NOT PRINTED: function 11 (impl_treeFor)

/-! ### utf8_RuneLen: function 29 -/
def utf8_RuneLen.j0 : Nat → Int → Bool → Option (Int)
  | 0, _, _ => none
  | k + 1, x0, x12 => if x12 = true then (some (-1)) else (if x0 ≤ 65535 then (some 3) else (if x0 ≤ 1114111 then (some 4) else (some (-1))))
def utf8_RuneLen.f (k : Nat) (a0 : Int) : Option (Int) := if a0 < 0 then (some (-1)) else (if a0 ≤ 127 then (some 1) else (if a0 ≤ 2047 then (some 2) else (if 55296 ≤ a0 then (utf8_RuneLen.j0 k a0 (decide (a0 ≤ 57343))) else (utf8_RuneLen.j0 k a0 false))))
theorem utf8_RuneLen.mono_l : ∀ k, (∀ y0 y1, LeO (utf8_RuneLen.j0 k y0 y1) (utf8_RuneLen.j0 (k + 1) y0 y1))
  | 0 => fun _ _ r h => by simp [utf8_RuneLen.j0] at h
  | k + 1 => by
    have ih0 := utf8_RuneLen.mono_l k
    · intro y0 y1
      unfold utf8_RuneLen.j0
      repeat' first
      | (with_reducible exact ih0 _ _)
      | (with_reducible exact LeO.refl _)
      | (with_reducible exact LeO.none _)
      | (with_reducible refine LeO.ite ?_ ?_)
      | (with_reducible refine LeO.bind ?_ (fun _ => ?_))
      | exact ih0 _ _
      | exact LeO.none _
      | refine LeO.ite ?_ ?_
      | refine LeO.bind ?_ (fun _ => ?_)
theorem utf8_RuneLen.mono : ∀ a0 k, LeO (utf8_RuneLen.f k a0) (utf8_RuneLen.f (k + 1) a0) := by
  intro a0 k
  have ih0 := utf8_RuneLen.mono_l k
  unfold utf8_RuneLen.f
  repeat' first
      | (with_reducible exact ih0 _ _)
      | (with_reducible exact LeO.refl _)
      | (with_reducible exact LeO.none _)
      | (with_reducible refine LeO.ite ?_ ?_)
      | (with_reducible refine LeO.bind ?_ (fun _ => ?_))
      | exact ih0 _ _
      | exact LeO.none _
      | refine LeO.ite ?_ ?_
      | refine LeO.bind ?_ (fun _ => ?_)
set_option maxHeartbeats 8000000 in
set_option maxRecDepth 100000 in
theorem utf8_RuneLen.calls (k : Nat) (a0 : Int) (r : Int) (w : World) (h : utf8_RuneLen.f k a0 = some r) :
    Calls Tryd.prog 29 #[.int .i32 a0] w fun e w' => e = .returned (.int .i64 r) ∧ Drawn0 w w' := by
  have H : (if a0 < 0 then (some (-1)) else (if a0 ≤ 127 then (some 1) else (if a0 ≤ 2047 then (some 2) else (if 55296 ≤ a0 then (utf8_RuneLen.j0 k a0 (decide (a0 ≤ 57343))) else (utf8_RuneLen.j0 k a0 false))))) = some r := h
  clear h
  by_cases c2 : a0 < 0
  · rw [if_pos c2] at H
    have c2b0 : decide (a0 < 0) = true := decide_eq_true c2
    clear c2
    obtain rfl := Option.some.inj H
    go_enter Tryd.func29, Tryd.ntmps29
    go_wp2
    go_ret
    exact ⟨by first | rfl | (simp; done) | (simp [*]; done), by repeat (first | exact Drawn0.refl _ | apply Drawn0.step)⟩
  · rw [if_neg c2] at H
    have c2b0 : decide (a0 < 0) = false := decide_eq_false c2
    clear c2
    by_cases c3 : a0 ≤ 127
    · rw [if_pos c3] at H
      have c3b0 : decide (a0 ≤ 127) = true := decide_eq_true c3
      clear c3
      obtain rfl := Option.some.inj H
      go_enter Tryd.func29, Tryd.ntmps29
      go_wp2
      go_ret
      exact ⟨by first | rfl | (simp; done) | (simp [*]; done), by repeat (first | exact Drawn0.refl _ | apply Drawn0.step)⟩
    · rw [if_neg c3] at H
      have c3b0 : decide (a0 ≤ 127) = false := decide_eq_false c3
      clear c3
      by_cases c4 : a0 ≤ 2047
      · rw [if_pos c4] at H
        have c4b0 : decide (a0 ≤ 2047) = true := decide_eq_true c4
        clear c4
        obtain rfl := Option.some.inj H
        go_enter Tryd.func29, Tryd.ntmps29
        go_wp2
        go_ret
        exact ⟨by first | rfl | (simp; done) | (simp [*]; done), by repeat (first | exact Drawn0.refl _ | apply Drawn0.step)⟩
      · rw [if_neg c4] at H
        have c4b0 : decide (a0 ≤ 2047) = false := decide_eq_false c4
        clear c4
        have HC5 := Aside0.mk H
        clear H
        go_enter Tryd.func29, Tryd.ntmps29
        go_upto_region 7 with (fail)
        go_cut [12] (fun v12 wc => ∃ (kq : Nat) (x12_4 : Bool), v12 = .bool x12_4 ∧ Aside0 (utf8_RuneLen.j0 kq a0 x12_4 = some r) ∧ Aside0 (kq ≤ k) ∧ Drawn0 w wc)
        case first =>
          have H := HC5.out
          clear HC5
          by_cases c6 : 55296 ≤ a0
          · rw [if_pos c6] at H
            have c6b0 : decide (55296 ≤ a0) = true := decide_eq_true c6
            clear c6
            (first | rw [c6b0] | (simp only [i64_w, i32_w]; rw [c6b0]) | skip)
            have H' := Aside0.mk H
            clear H
            go_wp2
            go_meet
            case rel => exact ⟨_, (decide (a0 ≤ 57343)), (by first | rfl | (simp; done) | (simp [*]; done)), H', ⟨by first | omega | exact Nat.le_refl _⟩, by repeat (first | exact Drawn0.refl _ | apply Drawn0.step)⟩
          · rw [if_neg c6] at H
            have c6b0 : decide (55296 ≤ a0) = false := decide_eq_false c6
            clear c6
            (first | rw [c6b0] | (simp only [i64_w, i32_w]; rw [c6b0]) | skip)
            have H' := Aside0.mk H
            clear H
            go_wp2
            go_meet
            case rel => exact ⟨_, (false), (by first | rfl | (simp; done) | (simp [*]; done)), H', ⟨by first | omega | exact Nat.le_refl _⟩, by repeat (first | exact Drawn0.refl _ | apply Drawn0.step)⟩
        case rest =>
          clear HC5
          try clear c2
          try clear c2b0
          try clear p2
          try clear c3
          try clear c3b0
          try clear c4
          try clear c4b0
          try clear c6
          try clear c6b0
          obtain ⟨kq, x12_4, rfl, HA, HJ4, ⟨mc4, rfl⟩⟩ := hcut
          cases kq with
          | zero => exact absurd HA.out (by simp [utf8_RuneLen.j0])
          | succ kj4 =>
            have H := HA.out
            clear HA
            simp only [utf8_RuneLen.j0] at H
            by_cases c7 : x12_4 = true
            · subst c7
              have H1 : (some (-1)) = some r := by rw [if_pos rfl] at H; exact H
              clear H
              have H := H1
              clear H1
              obtain rfl := Option.some.inj H
              go_wp2
              go_ret
              exact ⟨by first | rfl | (simp; done) | (simp [*]; done), by repeat (first | exact Drawn0.refl _ | apply Drawn0.step)⟩
            · replace c7 := Bool.eq_false_iff.mpr c7
              subst c7
              have H1 : (if a0 ≤ 65535 then (some 3) else (if a0 ≤ 1114111 then (some 4) else (some (-1)))) = some r := by rw [if_neg (show ¬ (false = true) by decide)] at H; exact H
              clear H
              have H := H1
              clear H1
              by_cases c8 : a0 ≤ 65535
              · rw [if_pos c8] at H
                have c8b0 : decide (a0 ≤ 65535) = true := decide_eq_true c8
                clear c8
                obtain rfl := Option.some.inj H
                go_wp2
                go_ret
                exact ⟨by first | rfl | (simp; done) | (simp [*]; done), by repeat (first | exact Drawn0.refl _ | apply Drawn0.step)⟩
              · rw [if_neg c8] at H
                have c8b0 : decide (a0 ≤ 65535) = false := decide_eq_false c8
                clear c8
                by_cases c9 : a0 ≤ 1114111
                · rw [if_pos c9] at H
                  have c9b0 : decide (a0 ≤ 1114111) = true := decide_eq_true c9
                  clear c9
                  obtain rfl := Option.some.inj H
                  go_wp2
                  go_ret
                  exact ⟨by first | rfl | (simp; done) | (simp [*]; done), by repeat (first | exact Drawn0.refl _ | apply Drawn0.step)⟩
                · rw [if_neg c9] at H
                  have c9b0 : decide (a0 ≤ 1114111) = false := decide_eq_false c9
                  clear c9
                  obtain rfl := Option.some.inj H
                  go_wp2
                  go_ret
                  exact ⟨by first | rfl | (simp; done) | (simp [*]; done), by repeat (first | exact Drawn0.refl _ | apply Drawn0.step)⟩

-- NOT PRINTED: function 21 (regexp_minInputLen)

-- NOT PRINTED: function 12 (regexp_ZZMinInputLen)

-- NOT PRINTED: function 6 (impl_TrMinLen)

-- NOT PRINTED: function 42 (utf8_decodeRuneInStringSlow)

-- NOT PRINTED: function 30 (utf8_DecodeRuneInString)

-- NOT PRINTED: function 22 (spec_reNext)

-- NOT PRINTED: function 13 (spec_ReBorders)

/-! ### spec_reAny: function 31 -/
def spec_reAny.l0 : Nat → List Bool → Int → Int → Option (Bool)
  | 0, _, _, _ => none
  | k + 1, x5, x6, x7 => if x7 < x6 then (if 0 ≤ x7 then (if x7 < (x5.length : Int) then (if rdOf false x5 x7 = true then (some true) else (spec_reAny.l0 k x5 x6 (wrap64 (x7 + 1)))) else (none)) else (none)) else (some false)
def spec_reAny.f (k : Nat) (l0 : List Bool) : Option (Bool) := spec_reAny.l0 k l0 (l0.length : Int) 0
theorem spec_reAny.mono_l : ∀ k, (∀ y0 y1 y2, LeO (spec_reAny.l0 k y0 y1 y2) (spec_reAny.l0 (k + 1) y0 y1 y2))
  | 0 => fun _ _ _ r h => by simp [spec_reAny.l0] at h
  | k + 1 => by
    have ih0 := spec_reAny.mono_l k
    · intro y0 y1 y2
      unfold spec_reAny.l0
      repeat' first
      | (with_reducible exact ih0 _ _ _)
      | (with_reducible exact LeO.refl _)
      | (with_reducible exact LeO.none _)
      | (with_reducible refine LeO.ite ?_ ?_)
      | (with_reducible refine LeO.bind ?_ (fun _ => ?_))
      | exact ih0 _ _ _
      | exact LeO.none _
      | refine LeO.ite ?_ ?_
      | refine LeO.bind ?_ (fun _ => ?_)
theorem spec_reAny.mono : ∀ a0 k, LeO (spec_reAny.f k a0) (spec_reAny.f (k + 1) a0) := by
  intro a0 k
  have ih0 := spec_reAny.mono_l k
  unfold spec_reAny.f
  repeat' first
      | (with_reducible exact ih0 _ _ _)
      | (with_reducible exact LeO.refl _)
      | (with_reducible exact LeO.none _)
      | (with_reducible refine LeO.ite ?_ ?_)
      | (with_reducible refine LeO.bind ?_ (fun _ => ?_))
      | exact ih0 _ _ _
      | exact LeO.none _
      | refine LeO.ite ?_ ?_
      | refine LeO.bind ?_ (fun _ => ?_)
set_option maxHeartbeats 8000000 in
set_option maxRecDepth 100000 in
theorem spec_reAny.calls (k : Nat) (A0 : Option Addr) (c0 : Nat) (l0 : List Bool) (r : Bool) (w : World) (hr0 : Kd.C Kd.bool w A0 l0.length l0) (hc0 : l0.length ≤ c0) (h : spec_reAny.f k l0 = some r) :
    Calls Tryd.prog 31 #[.slice A0 l0.length c0] w fun e w' => e = .returned (.bool r) ∧ Drawn0 w w' := by
  have HR0 := Aside0.mk hr0
  have HC0 := Aside0.mk hc0
  clear hr0 hc0
  have H : (spec_reAny.l0 k l0 (l0.length : Int) 0) = some r := h
  clear h
  have H' := Aside0.mk H
  clear H
  go_enter Tryd.func31, Tryd.ntmps31
  go_wp2
  go_loopg [7] k (fun kq v7 w' => ∃ (x7_1 : Int), v7 = .int .i64 x7_1 ∧ Aside0 (spec_reAny.l0 kq l0 (l0.length : Int) x7_1 = some r) ∧ Aside0 (kq ≤ k) ∧ Drawn0 w w')
  case atStart => exact ⟨(0), (by first | rfl | (simp; done) | (simp [*]; done)), H', ⟨Nat.le_refl _⟩, by repeat (first | exact Drawn0.refl _ | apply Drawn0.step)⟩
  case round =>
    clear H'
    obtain ⟨x7_1, rfl, HA, HK1, ⟨m1, rfl⟩⟩ := hrel
    cases gk with
    | zero => exact absurd HA.out (by simp [spec_reAny.l0])
    | succ k1 =>
      have H := HA.out
      clear HA
      simp only [spec_reAny.l0] at H
      by_cases c2 : x7_1 < (l0.length : Int)
      · rw [if_pos c2] at H
        have c2b0 : decide (x7_1 < (l0.length : Int)) = true := decide_eq_true c2
        clear c2
        by_cases c3 : 0 ≤ x7_1
        · rw [if_pos c3] at H
          have c3b0 : decide (0 ≤ x7_1) = true := decide_eq_true c3
          clear c3
          by_cases c4 : x7_1 < (l0.length : Int)
          · rw [if_pos c4] at H
            have c4b0 : decide (x7_1 < (l0.length : Int)) = true := decide_eq_true c4
            clear c4
            obtain ⟨bq5, hbq5⟩ : ∃ b_ : Bool, b_ = (rdOf false l0 x7_1) := ⟨_, rfl⟩
            replace H : (if bq5 = true then (some true) else (spec_reAny.l0 k1 l0 (l0.length : Int) (wrap64 (x7_1 + 1)))) = some r := by rw [← hbq5] at H; exact H
            have Nbq5 := Aside0.mk hbq5
            clear hbq5
            by_cases c6 : bq5 = true
            · subst c6
              have H1 : (some true) = some r := by rw [if_pos rfl] at H; exact H
              clear H
              have H := H1
              clear H1
              obtain rfl := Option.some.inj H
              have p151 : 0 ≤ (x7_1 : Int) := of_decide_eq_true (by first | (with_reducible assumption) | assumption)
              have q151 : x7_1 < (l0.length : Int) := of_decide_eq_true (by first | (with_reducible assumption) | assumption)
              obtain ⟨ad151, e151, hx151_0⟩ := Kd.at_bool HR0.out x7_1 p151 q151
              (try rw [← Nbq5.out] at hx151_0)
              cases e151
              replace p151 := eq_true p151
              replace q151 := eq_true q151
              go_wp2
              go_ret
              exact ⟨by first | rfl | (simp; done) | (simp [*]; done), by repeat (first | exact Drawn0.refl _ | apply Drawn0.step)⟩
            · replace c6 := Bool.eq_false_iff.mpr c6
              subst c6
              have H1 : (spec_reAny.l0 k1 l0 (l0.length : Int) (wrap64 (x7_1 + 1))) = some r := by rw [if_neg (show ¬ (false = true) by decide)] at H; exact H
              clear H
              have H := H1
              clear H1
              have H' := Aside0.mk H
              clear H
              have p151 : 0 ≤ (x7_1 : Int) := of_decide_eq_true (by first | (with_reducible assumption) | assumption)
              have q151 : x7_1 < (l0.length : Int) := of_decide_eq_true (by first | (with_reducible assumption) | assumption)
              obtain ⟨ad151, e151, hx151_0⟩ := Kd.at_bool HR0.out x7_1 p151 q151
              (try rw [← Nbq5.out] at hx151_0)
              cases e151
              replace p151 := eq_true p151
              replace q151 := eq_true q151
              go_wp2
              go_roundg k1
              case measure => have := HK1.out; omega
              case rel => exact ⟨(wrap64 (x7_1 + 1)), (by first | rfl | (simp; done) | (simp [*]; done)), H', ⟨by have := HK1.out; omega⟩, by repeat (first | exact Drawn0.refl _ | apply Drawn0.step)⟩
          · rw [if_neg c4] at H
            exact absurd H (by simp)
        · rw [if_neg c3] at H
          exact absurd H (by simp)
      · rw [if_neg c2] at H
        have c2b0 : decide (x7_1 < (l0.length : Int)) = false := decide_eq_false c2
        clear c2
        obtain rfl := Option.some.inj H
        go_wp2
        go_ret
        exact ⟨by first | rfl | (simp; done) | (simp [*]; done), by repeat (first | exact Drawn0.refl _ | apply Drawn0.step)⟩

/-! ### spec_reBoth: function 32 -/
def spec_reBoth.l0 : Nat → List Bool → List Bool → List Bool → Int → Int → Option (List Bool)
  | 0, _, _, _, _, _ => none
  | k + 1, x0, x1, x5, x11, x12 => if x12 < x11 then (if 0 ≤ x12 then (if x12 < (x0.length : Int) then (if rdOf false x0 x12 = true then (if x12 < (x5.length : Int) then (spec_reBoth.l0 k x0 x1 (x5.set (x12 : Int).toNat true) x11 (wrap64 (x12 + 1))) else (none)) else (if x12 < (x1.length : Int) then (if x12 < (x5.length : Int) then (spec_reBoth.l0 k x0 x1 (x5.set (x12 : Int).toNat (rdOf false x1 x12)) x11 (wrap64 (x12 + 1))) else (none)) else (none))) else (none)) else (none)) else (some x5)
def spec_reBoth.f (k : Nat) (l0 : List Bool) (l1 : List Bool) : Option (List Bool) := if 0 ≤ (l0.length : Int) then (if ((l0.length : Int) : Int).toNat ≤ 281474976710656 then (spec_reBoth.l0 k l0 l1 (List.replicate ((l0.length : Int) : Int).toNat false) (l0.length : Int) 0) else (none)) else (none)
theorem spec_reBoth.mono_l : ∀ k, (∀ y0 y1 y2 y3 y4, LeO (spec_reBoth.l0 k y0 y1 y2 y3 y4) (spec_reBoth.l0 (k + 1) y0 y1 y2 y3 y4))
  | 0 => fun _ _ _ _ _ r h => by simp [spec_reBoth.l0] at h
  | k + 1 => by
    have ih0 := spec_reBoth.mono_l k
    · intro y0 y1 y2 y3 y4
      unfold spec_reBoth.l0
      repeat' first
      | (with_reducible exact ih0 _ _ _ _ _)
      | (with_reducible exact LeO.refl _)
      | (with_reducible exact LeO.none _)
      | (with_reducible refine LeO.ite ?_ ?_)
      | (with_reducible refine LeO.bind ?_ (fun _ => ?_))
      | exact ih0 _ _ _ _ _
      | exact LeO.none _
      | refine LeO.ite ?_ ?_
      | refine LeO.bind ?_ (fun _ => ?_)
theorem spec_reBoth.mono : ∀ a0 a1 k, LeO (spec_reBoth.f k a0 a1) (spec_reBoth.f (k + 1) a0 a1) := by
  intro a0 a1 k
  have ih0 := spec_reBoth.mono_l k
  unfold spec_reBoth.f
  repeat' first
      | (with_reducible exact ih0 _ _ _ _ _)
      | (with_reducible exact LeO.refl _)
      | (with_reducible exact LeO.none _)
      | (with_reducible refine LeO.ite ?_ ?_)
      | (with_reducible refine LeO.bind ?_ (fun _ => ?_))
      | exact ih0 _ _ _ _ _
      | exact LeO.none _
      | refine LeO.ite ?_ ?_
      | refine LeO.bind ?_ (fun _ => ?_)
set_option maxHeartbeats 8000000 in
set_option maxRecDepth 100000 in
theorem spec_reBoth.calls (k : Nat) (A0 : Option Addr) (c0 : Nat) (l0 : List Bool) (A1 : Option Addr) (c1 : Nat) (l1 : List Bool) (r : List Bool) (w : World) (hr0 : Kd.C Kd.bool w A0 l0.length l0) (hc0 : l0.length ≤ c0) (hr1 : Kd.C Kd.bool w A1 l1.length l1) (hc1 : l1.length ≤ c1) (h : spec_reBoth.f k l0 l1 = some r) :
    Calls Tryd.prog 32 #[.slice A0 l0.length c0, .slice A1 l1.length c1] w fun e w' => ∃ v0_ : Value, e = .returned (v0_) ∧ Kd.R Kd.bool 4 w' w.heap.size (fun _ => True) v0_ r ∧ Below w.heap.size w w' := by
  have HR0 := Aside0.mk hr0
  have HC0 := Aside0.mk hc0
  clear hr0 hc0
  have HR1 := Aside0.mk hr1
  have HC1 := Aside0.mk hc1
  clear hr1 hc1
  have HB := Aside0.mk (Below.refl w.heap.size w)
  have H : (if 0 ≤ (l0.length : Int) then (if ((l0.length : Int) : Int).toNat ≤ 281474976710656 then (spec_reBoth.l0 k l0 l1 (List.replicate ((l0.length : Int) : Int).toNat false) (l0.length : Int) 0) else (none)) else (none)) = some r := h
  clear h
  by_cases c3 : 0 ≤ (l0.length : Int)
  · rw [if_pos c3] at H
    have c3b0 := eq_true c3
    have c3b1 : decide (0 ≤ (l0.length : Int)) = true := decide_eq_true c3
    clear c3
    by_cases c4 : ((l0.length : Int) : Int).toNat ≤ 281474976710656
    · rw [if_pos c4] at H
      have c4b0 := eq_true c4
      have c4b1 : decide (((l0.length : Int) : Int).toNat ≤ 281474976710656) = true := decide_eq_true c4
      clear c4
      obtain ⟨y152, hy152⟩ : ∃ y_ : List Bool, y_ = (List.replicate ((l0.length : Int) : Int).toNat false) := ⟨_, rfl⟩
      replace H : (spec_reBoth.l0 k l0 l1 y152 (l0.length : Int) 0) = some r := by first | (rw [hy152]; with_reducible exact H) | (have H2_ := (Option.bind_some _ _).symm.trans H; rw [hy152]; with_reducible exact H2_) | (have H2_ := (Option.bind_some _ _).symm.trans H; with_reducible exact H2_) | with_reducible exact H | (rw [hy152]; exact H) | exact H
      have Ny152 := Aside0.mk hy152
      clear hy152
      have H' := Aside0.mk H
      clear H
      go_enter Tryd.func32, Tryd.ntmps32
      go_wp2_with (first | ((with_reducible refine gate_dst (N := 9) rfl ?_); refine Kd.R_make Kd.bool _ 4 rfl (N := 9) rfl 47 _ _ rfl (l0.length : Int) rfl rfl Tryd.underlying47 (.bool false) 1 info4 rfl (by decide) (by omega) false (ok := fun _ => True) (okp := fun _ => True) rfl (fun _ hk => hk) trivial (of_decide_eq_true (by first | (with_reducible assumption) | assumption)) (Nat.le_trans (Nat.mul_le_mul_right _ (of_decide_eq_true (by first | (with_reducible assumption) | assumption) : (l0.length : Int).toNat ≤ 281474976710656)) (by omega)) (Below.refl _ _) (Nat.le_refl _) ?_; intro v153 w5 ho6 hb hg_ hnew_; clear hg_ hnew_; (first | rw [← Ny152.out] at ho6 | (simp only [Int.reduceToNat] at ho6; rw [← Ny152.out] at ho6)); have n0_ := Aside0.mk (Kd.R_lower ho6 (below_size (by repeat (first | (with_reducible first | exact HB.out | apply below_alloc | apply pw_below_drewN | apply below_drew1) | exact HB.out)))); have n1_ := Aside0.mk (below_step (by repeat (first | (with_reducible first | exact HB.out | apply below_alloc | apply pw_below_drewN | apply below_drew1) | exact HB.out)) hb); clear HB; have HO154 := n0_; have HB := n1_; clear n0_ n1_; clear hb ho6))
      go_loopg [12] k (fun kq v12 w' => ∃ (x5_1 : List Bool) (x12_1 : Int), v12 = .int .i64 x12_1 ∧ Aside0 (spec_reBoth.l0 kq l0 l1 x5_1 (l0.length : Int) x12_1 = some r) ∧ Aside0 (kq ≤ k) ∧ Aside0 (Kd.R Kd.bool 4 w' w.heap.size (fun _ => True) v153 x5_1) ∧ Aside0 (Below w.heap.size w w'))
      case atStart => exact ⟨(y152), (0), (by first | rfl | (simp; done) | (simp [*]; done)), H', ⟨Nat.le_refl _⟩, ⟨by (with_reducible repeat (first | apply Kd.R_alloc | apply Kd.R_drewN | apply Kd.R_drew)); exact HO154.out⟩, ⟨by repeat (first | (with_reducible first | exact HB.out | apply below_alloc | apply pw_below_drewN | apply below_drew1) | exact HB.out)⟩⟩
      case round =>
        clear H'
        try clear c1
        try clear p2
        try clear c3
        try clear c3b0
        try clear c3b1
        try clear c4
        try clear c4b0
        try clear c4b1
        obtain ⟨x5_1, x12_1, rfl, HA, HK1, HO_5, HB⟩ := hrel
        cases gk with
        | zero => exact absurd HA.out (by simp [spec_reBoth.l0])
        | succ k1 =>
          have H := HA.out
          clear HA
          simp only [spec_reBoth.l0] at H
          by_cases c7 : x12_1 < (l0.length : Int)
          · rw [if_pos c7] at H
            have c7b0 : decide (x12_1 < (l0.length : Int)) = true := decide_eq_true c7
            clear c7
            by_cases c8 : 0 ≤ x12_1
            · rw [if_pos c8] at H
              have c8b0 : decide (0 ≤ x12_1) = true := decide_eq_true c8
              clear c8
              by_cases c9 : x12_1 < (l0.length : Int)
              · rw [if_pos c9] at H
                have c9b0 : decide (x12_1 < (l0.length : Int)) = true := decide_eq_true c9
                clear c9
                obtain ⟨bq10, hbq10⟩ : ∃ b_ : Bool, b_ = (rdOf false l0 x12_1) := ⟨_, rfl⟩
                replace H : (if bq10 = true then (if x12_1 < (x5_1.length : Int) then (spec_reBoth.l0 k1 l0 l1 (x5_1.set (x12_1 : Int).toNat true) (l0.length : Int) (wrap64 (x12_1 + 1))) else (none)) else (if x12_1 < (l1.length : Int) then (if x12_1 < (x5_1.length : Int) then (spec_reBoth.l0 k1 l0 l1 (x5_1.set (x12_1 : Int).toNat (rdOf false l1 x12_1)) (l0.length : Int) (wrap64 (x12_1 + 1))) else (none)) else (none))) = some r := by rw [← hbq10] at H; exact H
                have Nbq10 := Aside0.mk hbq10
                clear hbq10
                by_cases c11 : bq10 = true
                · subst c11
                  have H1 : (if x12_1 < (x5_1.length : Int) then (spec_reBoth.l0 k1 l0 l1 (x5_1.set (x12_1 : Int).toNat true) (l0.length : Int) (wrap64 (x12_1 + 1))) else (none)) = some r := by rw [if_pos rfl] at H; exact H
                  clear H
                  have H := H1
                  clear H1
                  by_cases c12 : x12_1 < (x5_1.length : Int)
                  · rw [if_pos c12] at H
                    have c12b0 : decide (x12_1 < (x5_1.length : Int)) = true := decide_eq_true c12
                    clear c12
                    obtain ⟨y156, hy156⟩ : ∃ y_ : List Bool, y_ = (x5_1.set (x12_1 : Int).toNat true) := ⟨_, rfl⟩
                    replace H : (spec_reBoth.l0 k1 l0 l1 y156 (l0.length : Int) (wrap64 (x12_1 + 1))) = some r := by first | (rw [hy156]; with_reducible exact H) | (have H2_ := (Option.bind_some _ _).symm.trans H; rw [hy156]; with_reducible exact H2_) | (have H2_ := (Option.bind_some _ _).symm.trans H; with_reducible exact H2_) | with_reducible exact H | (rw [hy156]; exact H) | exact H
                    have Ny156 := Aside0.mk hy156
                    clear hy156
                    have H' := Aside0.mk H
                    clear H
                    have p155 : 0 ≤ (x12_1 : Int) := of_decide_eq_true (by first | (with_reducible assumption) | assumption)
                    have q155 : x12_1 < (l0.length : Int) := of_decide_eq_true (by first | (with_reducible assumption) | assumption)
                    obtain ⟨ad155, e155, hx155_0⟩ := Kd.at_bool HR0.out x12_1 p155 q155
                    (try rw [← Nbq10.out] at hx155_0)
                    cases e155
                    replace hx155_0 := (HB.out.cell (World.block_lt_of_cell? w _ hx155_0)).trans hx155_0
                    replace p155 := eq_true p155
                    replace q155 := eq_true q155
                    have p13 : 0 ≤ (x12_1 : Int) := of_decide_eq_true (by first | (with_reducible assumption) | assumption)
                    have q13 : (x12_1 : Int) < ((x5_1.length : Int) : Int) := of_decide_eq_true (by first | (with_reducible assumption) | assumption)
                    obtain ⟨go13, co13, eo13, gb13, gl13, cl13, HG13⟩ := Kd.R_form HO_5.out (by omega)
                    (first | cases eo13 | (injection eo13 with ea_ en_ ec_; (first | subst ea_ | (injection ea_ with ea_; subst ea_)); subst ec_; clear en_))
                    have GB13 := Aside0.mk gb13
                    have GG13 := Aside0.mk HG13
                    clear gb13 gl13 HG13
                    obtain ⟨hx13_0, hf13_0⟩ := Kd.R_celln false HO_5.out (x12_1 : Int) p13 q13
                    replace p13 := eq_true p13
                    replace q13 := eq_true q13
                    have HP14 := Kd.R_putg HO_5.out (x12_1 : Int) true
                    go_wp2_with (first | ((with_reducible refine gate_store (t := 4) (p := 27) rfl ?_); refine store_event (t := 4) (p := 27) (v := ?vo_w15) (w1 := (wr.setCell ⟨go13, (x12_1 : Int).toNat, none⟩ (.bool true))) ?hg ?ho ?hn ?hr ?_; (case ho => rfl); (case hg => rfl); (case hn => rfl); (case hr => first | (go_simp; done) | (go_simp; rfl)); intro w15 hw; have hg : wr.grownBy w15 (some go13) := (by rw [hw]; exact HP14.2); have hp_ : Kd.R Kd.bool 4 w15 w.heap.size (fun _ => True) (.slice (some ⟨go13, 0, none⟩) x5_1.length co13) y156 := (by rw [hw, Ny156.out]; exact HP14.1); clear HP14; have n0_ := Aside0.mk (hp_); have n1_ := Aside0.mk ((by rw [hw]; exact below_set (HB.out) GB13.out : Below w.heap.size w w15)); clear HO_5; clear HB; have HO_5 := n0_; have HB := n1_; clear n0_ n1_; clear hg hw hp_))
                    go_roundg k1
                    case measure => have := HK1.out; omega
                    case rel => exact ⟨(y156), (wrap64 (x12_1 + 1)), (by first | rfl | (simp; done) | (simp [*]; done)), H', ⟨by have := HK1.out; omega⟩, ⟨by (with_reducible repeat (first | apply Kd.R_alloc | apply Kd.R_drewN | apply Kd.R_drew)); exact HO_5.out⟩, ⟨by repeat (first | (with_reducible first | exact HB.out | apply below_alloc | apply pw_below_drewN | apply below_drew1) | exact HB.out)⟩⟩
                  · rw [if_neg c12] at H
                    exact absurd H (by simp)
                · replace c11 := Bool.eq_false_iff.mpr c11
                  subst c11
                  have H1 : (if x12_1 < (l1.length : Int) then (if x12_1 < (x5_1.length : Int) then (spec_reBoth.l0 k1 l0 l1 (x5_1.set (x12_1 : Int).toNat (rdOf false l1 x12_1)) (l0.length : Int) (wrap64 (x12_1 + 1))) else (none)) else (none)) = some r := by rw [if_neg (show ¬ (false = true) by decide)] at H; exact H
                  clear H
                  have H := H1
                  clear H1
                  by_cases c16 : x12_1 < (l1.length : Int)
                  · rw [if_pos c16] at H
                    have c16b0 : decide (x12_1 < (l1.length : Int)) = true := decide_eq_true c16
                    clear c16
                    by_cases c17 : x12_1 < (x5_1.length : Int)
                    · rw [if_pos c17] at H
                      have c17b0 : decide (x12_1 < (x5_1.length : Int)) = true := decide_eq_true c17
                      clear c17
                      obtain ⟨y158, hy158⟩ : ∃ y_ : List Bool, y_ = (x5_1.set (x12_1 : Int).toNat (rdOf false l1 x12_1)) := ⟨_, rfl⟩
                      replace H : (spec_reBoth.l0 k1 l0 l1 y158 (l0.length : Int) (wrap64 (x12_1 + 1))) = some r := by first | (rw [hy158]; with_reducible exact H) | (have H2_ := (Option.bind_some _ _).symm.trans H; rw [hy158]; with_reducible exact H2_) | (have H2_ := (Option.bind_some _ _).symm.trans H; with_reducible exact H2_) | with_reducible exact H | (rw [hy158]; exact H) | exact H
                      have Ny158 := Aside0.mk hy158
                      clear hy158
                      have H' := Aside0.mk H
                      clear H
                      have p155 : 0 ≤ (x12_1 : Int) := of_decide_eq_true (by first | (with_reducible assumption) | assumption)
                      have q155 : x12_1 < (l0.length : Int) := of_decide_eq_true (by first | (with_reducible assumption) | assumption)
                      obtain ⟨ad155, e155, hx155_0⟩ := Kd.at_bool HR0.out x12_1 p155 q155
                      (try rw [← Nbq10.out] at hx155_0)
                      cases e155
                      replace hx155_0 := (HB.out.cell (World.block_lt_of_cell? w _ hx155_0)).trans hx155_0
                      replace p155 := eq_true p155
                      replace q155 := eq_true q155
                      have p157 : 0 ≤ (x12_1 : Int) := of_decide_eq_true (by first | (with_reducible assumption) | assumption)
                      have q157 : x12_1 < (l1.length : Int) := of_decide_eq_true (by first | (with_reducible assumption) | assumption)
                      obtain ⟨ad157, e157, hx157_0⟩ := Kd.at_bool HR1.out x12_1 p157 q157
                      (try rw [← Nbq10.out] at hx157_0)
                      cases e157
                      replace hx157_0 := (HB.out.cell (World.block_lt_of_cell? w _ hx157_0)).trans hx157_0
                      replace p157 := eq_true p157
                      replace q157 := eq_true q157
                      have p18 : 0 ≤ (x12_1 : Int) := of_decide_eq_true (by first | (with_reducible assumption) | assumption)
                      have q18 : (x12_1 : Int) < ((x5_1.length : Int) : Int) := of_decide_eq_true (by first | (with_reducible assumption) | assumption)
                      obtain ⟨go18, co18, eo18, gb18, gl18, cl18, HG18⟩ := Kd.R_form HO_5.out (by omega)
                      (first | cases eo18 | (injection eo18 with ea_ en_ ec_; (first | subst ea_ | (injection ea_ with ea_; subst ea_)); subst ec_; clear en_))
                      have GB18 := Aside0.mk gb18
                      have GG18 := Aside0.mk HG18
                      clear gb18 gl18 HG18
                      obtain ⟨hx18_0, hf18_0⟩ := Kd.R_celln false HO_5.out (x12_1 : Int) p18 q18
                      replace p18 := eq_true p18
                      replace q18 := eq_true q18
                      have HP19 := Kd.R_putg HO_5.out (x12_1 : Int) (rdOf false l1 x12_1)
                      go_wp2_with (first | ((with_reducible refine gate_store (t := 4) (p := 27) rfl ?_); refine store_event (t := 4) (p := 27) (v := ?vo_w20) (w1 := (wr.setCell ⟨go18, (x12_1 : Int).toNat, none⟩ (.bool (rdOf false l1 x12_1)))) ?hg ?ho ?hn ?hr ?_; (case ho => rfl); (case hg => rfl); (case hn => rfl); (case hr => first | (go_simp; done) | (go_simp; rfl)); intro w20 hw; have hg : wr.grownBy w20 (some go18) := (by rw [hw]; exact HP19.2); have hp_ : Kd.R Kd.bool 4 w20 w.heap.size (fun _ => True) (.slice (some ⟨go18, 0, none⟩) x5_1.length co18) y158 := (by rw [hw, Ny158.out]; exact HP19.1); clear HP19; have n0_ := Aside0.mk (hp_); have n1_ := Aside0.mk ((by rw [hw]; exact below_set (HB.out) GB18.out : Below w.heap.size w w20)); clear HO_5; clear HB; have HO_5 := n0_; have HB := n1_; clear n0_ n1_; clear hg hw hp_))
                      go_roundg k1
                      case measure => have := HK1.out; omega
                      case rel => exact ⟨(y158), (wrap64 (x12_1 + 1)), (by first | rfl | (simp; done) | (simp [*]; done)), H', ⟨by have := HK1.out; omega⟩, ⟨by (with_reducible repeat (first | apply Kd.R_alloc | apply Kd.R_drewN | apply Kd.R_drew)); exact HO_5.out⟩, ⟨by repeat (first | (with_reducible first | exact HB.out | apply below_alloc | apply pw_below_drewN | apply below_drew1) | exact HB.out)⟩⟩
                    · rw [if_neg c17] at H
                      exact absurd H (by simp)
                  · rw [if_neg c16] at H
                    exact absurd H (by simp)
              · rw [if_neg c9] at H
                exact absurd H (by simp)
            · rw [if_neg c8] at H
              exact absurd H (by simp)
          · rw [if_neg c7] at H
            have c7b0 : decide (x12_1 < (l0.length : Int)) = false := decide_eq_false c7
            clear c7
            obtain rfl := Option.some.inj H
            go_wp2
            go_ret
            exact ⟨_, by first | rfl | (simp [errW_none, errW_some] <;> rfl) | (simp [*, errW_none, errW_some] <;> rfl), by (with_reducible repeat (first | apply Kd.R_alloc | apply Kd.R_drewN | apply Kd.R_drew)); exact HO_5.out, by repeat (first | (with_reducible first | exact HB.out | apply below_alloc | apply pw_below_drewN | apply below_drew1) | exact HB.out)⟩
    · rw [if_neg c4] at H
      exact absurd H (by simp)
  · rw [if_neg c3] at H
    exact absurd H (by simp)

/-! ### spec_reFresh: function 43 -/
def spec_reFresh.l0 : Nat → List Bool → List Bool → List Bool → Int → Int → Option (List Bool)
  | 0, _, _, _, _, _ => none
  | k + 1, x0, x1, x5, x11, x12 => if x12 < x11 then (if 0 ≤ x12 then (if x12 < (x1.length : Int) then (if rdOf false x1 x12 = true then (if x12 < (x0.length : Int) then (if x12 < (x5.length : Int) then (spec_reFresh.l0 k x0 x1 (x5.set (x12 : Int).toNat (!(rdOf false x0 x12))) x11 (wrap64 (x12 + 1))) else (none)) else (none)) else (if x12 < (x5.length : Int) then (spec_reFresh.l0 k x0 x1 (x5.set (x12 : Int).toNat false) x11 (wrap64 (x12 + 1))) else (none))) else (none)) else (none)) else (some x5)
def spec_reFresh.f (k : Nat) (l0 : List Bool) (l1 : List Bool) : Option (List Bool) := if 0 ≤ (l0.length : Int) then (if ((l0.length : Int) : Int).toNat ≤ 281474976710656 then (spec_reFresh.l0 k l0 l1 (List.replicate ((l0.length : Int) : Int).toNat false) (l0.length : Int) 0) else (none)) else (none)
theorem spec_reFresh.mono_l : ∀ k, (∀ y0 y1 y2 y3 y4, LeO (spec_reFresh.l0 k y0 y1 y2 y3 y4) (spec_reFresh.l0 (k + 1) y0 y1 y2 y3 y4))
  | 0 => fun _ _ _ _ _ r h => by simp [spec_reFresh.l0] at h
  | k + 1 => by
    have ih0 := spec_reFresh.mono_l k
    · intro y0 y1 y2 y3 y4
      unfold spec_reFresh.l0
      repeat' first
      | (with_reducible exact ih0 _ _ _ _ _)
      | (with_reducible exact LeO.refl _)
      | (with_reducible exact LeO.none _)
      | (with_reducible refine LeO.ite ?_ ?_)
      | (with_reducible refine LeO.bind ?_ (fun _ => ?_))
      | exact ih0 _ _ _ _ _
      | exact LeO.none _
      | refine LeO.ite ?_ ?_
      | refine LeO.bind ?_ (fun _ => ?_)
theorem spec_reFresh.mono : ∀ a0 a1 k, LeO (spec_reFresh.f k a0 a1) (spec_reFresh.f (k + 1) a0 a1) := by
  intro a0 a1 k
  have ih0 := spec_reFresh.mono_l k
  unfold spec_reFresh.f
  repeat' first
      | (with_reducible exact ih0 _ _ _ _ _)
      | (with_reducible exact LeO.refl _)
      | (with_reducible exact LeO.none _)
      | (with_reducible refine LeO.ite ?_ ?_)
      | (with_reducible refine LeO.bind ?_ (fun _ => ?_))
      | exact ih0 _ _ _ _ _
      | exact LeO.none _
      | refine LeO.ite ?_ ?_
      | refine LeO.bind ?_ (fun _ => ?_)
set_option maxHeartbeats 8000000 in
set_option maxRecDepth 100000 in
theorem spec_reFresh.calls (k : Nat) (A0 : Option Addr) (c0 : Nat) (l0 : List Bool) (A1 : Option Addr) (c1 : Nat) (l1 : List Bool) (r : List Bool) (w : World) (hr0 : Kd.C Kd.bool w A0 l0.length l0) (hc0 : l0.length ≤ c0) (hr1 : Kd.C Kd.bool w A1 l1.length l1) (hc1 : l1.length ≤ c1) (h : spec_reFresh.f k l0 l1 = some r) :
    Calls Tryd.prog 43 #[.slice A0 l0.length c0, .slice A1 l1.length c1] w fun e w' => ∃ v0_ : Value, e = .returned (v0_) ∧ Kd.R Kd.bool 4 w' w.heap.size (fun _ => True) v0_ r ∧ Below w.heap.size w w' := by
  have HR0 := Aside0.mk hr0
  have HC0 := Aside0.mk hc0
  clear hr0 hc0
  have HR1 := Aside0.mk hr1
  have HC1 := Aside0.mk hc1
  clear hr1 hc1
  have HB := Aside0.mk (Below.refl w.heap.size w)
  have H : (if 0 ≤ (l0.length : Int) then (if ((l0.length : Int) : Int).toNat ≤ 281474976710656 then (spec_reFresh.l0 k l0 l1 (List.replicate ((l0.length : Int) : Int).toNat false) (l0.length : Int) 0) else (none)) else (none)) = some r := h
  clear h
  by_cases c3 : 0 ≤ (l0.length : Int)
  · rw [if_pos c3] at H
    have c3b0 := eq_true c3
    have c3b1 : decide (0 ≤ (l0.length : Int)) = true := decide_eq_true c3
    clear c3
    by_cases c4 : ((l0.length : Int) : Int).toNat ≤ 281474976710656
    · rw [if_pos c4] at H
      have c4b0 := eq_true c4
      have c4b1 : decide (((l0.length : Int) : Int).toNat ≤ 281474976710656) = true := decide_eq_true c4
      clear c4
      obtain ⟨y159, hy159⟩ : ∃ y_ : List Bool, y_ = (List.replicate ((l0.length : Int) : Int).toNat false) := ⟨_, rfl⟩
      replace H : (spec_reFresh.l0 k l0 l1 y159 (l0.length : Int) 0) = some r := by first | (rw [hy159]; with_reducible exact H) | (have H2_ := (Option.bind_some _ _).symm.trans H; rw [hy159]; with_reducible exact H2_) | (have H2_ := (Option.bind_some _ _).symm.trans H; with_reducible exact H2_) | with_reducible exact H | (rw [hy159]; exact H) | exact H
      have Ny159 := Aside0.mk hy159
      clear hy159
      have H' := Aside0.mk H
      clear H
      go_enter Tryd.func43, Tryd.ntmps43
      go_wp2_with (first | ((with_reducible refine gate_dst (N := 9) rfl ?_); refine Kd.R_make Kd.bool _ 4 rfl (N := 9) rfl 47 _ _ rfl (l0.length : Int) rfl rfl Tryd.underlying47 (.bool false) 1 info4 rfl (by decide) (by omega) false (ok := fun _ => True) (okp := fun _ => True) rfl (fun _ hk => hk) trivial (of_decide_eq_true (by first | (with_reducible assumption) | assumption)) (Nat.le_trans (Nat.mul_le_mul_right _ (of_decide_eq_true (by first | (with_reducible assumption) | assumption) : (l0.length : Int).toNat ≤ 281474976710656)) (by omega)) (Below.refl _ _) (Nat.le_refl _) ?_; intro v160 w5 ho6 hb hg_ hnew_; clear hg_ hnew_; (first | rw [← Ny159.out] at ho6 | (simp only [Int.reduceToNat] at ho6; rw [← Ny159.out] at ho6)); have n0_ := Aside0.mk (Kd.R_lower ho6 (below_size (by repeat (first | (with_reducible first | exact HB.out | apply below_alloc | apply pw_below_drewN | apply below_drew1) | exact HB.out)))); have n1_ := Aside0.mk (below_step (by repeat (first | (with_reducible first | exact HB.out | apply below_alloc | apply pw_below_drewN | apply below_drew1) | exact HB.out)) hb); clear HB; have HO161 := n0_; have HB := n1_; clear n0_ n1_; clear hb ho6))
      go_loopg [12] k (fun kq v12 w' => ∃ (x5_1 : List Bool) (x12_1 : Int), v12 = .int .i64 x12_1 ∧ Aside0 (spec_reFresh.l0 kq l0 l1 x5_1 (l0.length : Int) x12_1 = some r) ∧ Aside0 (kq ≤ k) ∧ Aside0 (Kd.R Kd.bool 4 w' w.heap.size (fun _ => True) v160 x5_1) ∧ Aside0 (Below w.heap.size w w'))
      case atStart => exact ⟨(y159), (0), (by first | rfl | (simp; done) | (simp [*]; done)), H', ⟨Nat.le_refl _⟩, ⟨by (with_reducible repeat (first | apply Kd.R_alloc | apply Kd.R_drewN | apply Kd.R_drew)); exact HO161.out⟩, ⟨by repeat (first | (with_reducible first | exact HB.out | apply below_alloc | apply pw_below_drewN | apply below_drew1) | exact HB.out)⟩⟩
      case round =>
        clear H'
        try clear c1
        try clear p2
        try clear c3
        try clear c3b0
        try clear c3b1
        try clear c4
        try clear c4b0
        try clear c4b1
        obtain ⟨x5_1, x12_1, rfl, HA, HK1, HO_5, HB⟩ := hrel
        cases gk with
        | zero => exact absurd HA.out (by simp [spec_reFresh.l0])
        | succ k1 =>
          have H := HA.out
          clear HA
          simp only [spec_reFresh.l0] at H
          by_cases c7 : x12_1 < (l0.length : Int)
          · rw [if_pos c7] at H
            have c7b0 : decide (x12_1 < (l0.length : Int)) = true := decide_eq_true c7
            clear c7
            by_cases c8 : 0 ≤ x12_1
            · rw [if_pos c8] at H
              have c8b0 : decide (0 ≤ x12_1) = true := decide_eq_true c8
              clear c8
              by_cases c9 : x12_1 < (l1.length : Int)
              · rw [if_pos c9] at H
                have c9b0 : decide (x12_1 < (l1.length : Int)) = true := decide_eq_true c9
                clear c9
                obtain ⟨bq10, hbq10⟩ : ∃ b_ : Bool, b_ = (rdOf false l1 x12_1) := ⟨_, rfl⟩
                replace H : (if bq10 = true then (if x12_1 < (l0.length : Int) then (if x12_1 < (x5_1.length : Int) then (spec_reFresh.l0 k1 l0 l1 (x5_1.set (x12_1 : Int).toNat (!(rdOf false l0 x12_1))) (l0.length : Int) (wrap64 (x12_1 + 1))) else (none)) else (none)) else (if x12_1 < (x5_1.length : Int) then (spec_reFresh.l0 k1 l0 l1 (x5_1.set (x12_1 : Int).toNat false) (l0.length : Int) (wrap64 (x12_1 + 1))) else (none))) = some r := by rw [← hbq10] at H; exact H
                have Nbq10 := Aside0.mk hbq10
                clear hbq10
                by_cases c11 : bq10 = true
                · subst c11
                  have H1 : (if x12_1 < (l0.length : Int) then (if x12_1 < (x5_1.length : Int) then (spec_reFresh.l0 k1 l0 l1 (x5_1.set (x12_1 : Int).toNat (!(rdOf false l0 x12_1))) (l0.length : Int) (wrap64 (x12_1 + 1))) else (none)) else (none)) = some r := by rw [if_pos rfl] at H; exact H
                  clear H
                  have H := H1
                  clear H1
                  by_cases c12 : x12_1 < (l0.length : Int)
                  · rw [if_pos c12] at H
                    have c12b0 : decide (x12_1 < (l0.length : Int)) = true := decide_eq_true c12
                    clear c12
                    by_cases c13 : x12_1 < (x5_1.length : Int)
                    · rw [if_pos c13] at H
                      have c13b0 : decide (x12_1 < (x5_1.length : Int)) = true := decide_eq_true c13
                      clear c13
                      obtain ⟨y164, hy164⟩ : ∃ y_ : List Bool, y_ = (x5_1.set (x12_1 : Int).toNat (!(rdOf false l0 x12_1))) := ⟨_, rfl⟩
                      replace H : (spec_reFresh.l0 k1 l0 l1 y164 (l0.length : Int) (wrap64 (x12_1 + 1))) = some r := by first | (rw [hy164]; with_reducible exact H) | (have H2_ := (Option.bind_some _ _).symm.trans H; rw [hy164]; with_reducible exact H2_) | (have H2_ := (Option.bind_some _ _).symm.trans H; with_reducible exact H2_) | with_reducible exact H | (rw [hy164]; exact H) | exact H
                      have Ny164 := Aside0.mk hy164
                      clear hy164
                      have H' := Aside0.mk H
                      clear H
                      have p162 : 0 ≤ (x12_1 : Int) := of_decide_eq_true (by first | (with_reducible assumption) | assumption)
                      have q162 : x12_1 < (l1.length : Int) := of_decide_eq_true (by first | (with_reducible assumption) | assumption)
                      obtain ⟨ad162, e162, hx162_0⟩ := Kd.at_bool HR1.out x12_1 p162 q162
                      (try rw [← Nbq10.out] at hx162_0)
                      cases e162
                      replace hx162_0 := (HB.out.cell (World.block_lt_of_cell? w _ hx162_0)).trans hx162_0
                      replace p162 := eq_true p162
                      replace q162 := eq_true q162
                      have p163 : 0 ≤ (x12_1 : Int) := of_decide_eq_true (by first | (with_reducible assumption) | assumption)
                      have q163 : x12_1 < (l0.length : Int) := of_decide_eq_true (by first | (with_reducible assumption) | assumption)
                      obtain ⟨ad163, e163, hx163_0⟩ := Kd.at_bool HR0.out x12_1 p163 q163
                      (try rw [← Nbq10.out] at hx163_0)
                      cases e163
                      replace hx163_0 := (HB.out.cell (World.block_lt_of_cell? w _ hx163_0)).trans hx163_0
                      replace p163 := eq_true p163
                      replace q163 := eq_true q163
                      have p14 : 0 ≤ (x12_1 : Int) := of_decide_eq_true (by first | (with_reducible assumption) | assumption)
                      have q14 : (x12_1 : Int) < ((x5_1.length : Int) : Int) := of_decide_eq_true (by first | (with_reducible assumption) | assumption)
                      obtain ⟨go14, co14, eo14, gb14, gl14, cl14, HG14⟩ := Kd.R_form HO_5.out (by omega)
                      (first | cases eo14 | (injection eo14 with ea_ en_ ec_; (first | subst ea_ | (injection ea_ with ea_; subst ea_)); subst ec_; clear en_))
                      have GB14 := Aside0.mk gb14
                      have GG14 := Aside0.mk HG14
                      clear gb14 gl14 HG14
                      obtain ⟨hx14_0, hf14_0⟩ := Kd.R_celln false HO_5.out (x12_1 : Int) p14 q14
                      replace p14 := eq_true p14
                      replace q14 := eq_true q14
                      have HP15 := Kd.R_putg HO_5.out (x12_1 : Int) (!(rdOf false l0 x12_1))
                      go_wp2_with (first | ((with_reducible refine gate_store (t := 4) (p := 28) rfl ?_); refine store_event (t := 4) (p := 28) (v := ?vo_w16) (w1 := (wr.setCell ⟨go14, (x12_1 : Int).toNat, none⟩ (.bool (!(rdOf false l0 x12_1))))) ?hg ?ho ?hn ?hr ?_; (case ho => rfl); (case hg => rfl); (case hn => rfl); (case hr => first | (go_simp; done) | (go_simp; rfl)); intro w16 hw; have hg : wr.grownBy w16 (some go14) := (by rw [hw]; exact HP15.2); have hp_ : Kd.R Kd.bool 4 w16 w.heap.size (fun _ => True) (.slice (some ⟨go14, 0, none⟩) x5_1.length co14) y164 := (by rw [hw, Ny164.out]; exact HP15.1); clear HP15; have n0_ := Aside0.mk (hp_); have n1_ := Aside0.mk ((by rw [hw]; exact below_set (HB.out) GB14.out : Below w.heap.size w w16)); clear HO_5; clear HB; have HO_5 := n0_; have HB := n1_; clear n0_ n1_; clear hg hw hp_))
                      go_roundg k1
                      case measure => have := HK1.out; omega
                      case rel => exact ⟨(y164), (wrap64 (x12_1 + 1)), (by first | rfl | (simp; done) | (simp [*]; done)), H', ⟨by have := HK1.out; omega⟩, ⟨by (with_reducible repeat (first | apply Kd.R_alloc | apply Kd.R_drewN | apply Kd.R_drew)); exact HO_5.out⟩, ⟨by repeat (first | (with_reducible first | exact HB.out | apply below_alloc | apply pw_below_drewN | apply below_drew1) | exact HB.out)⟩⟩
                    · rw [if_neg c13] at H
                      exact absurd H (by simp)
                  · rw [if_neg c12] at H
                    exact absurd H (by simp)
                · replace c11 := Bool.eq_false_iff.mpr c11
                  subst c11
                  have H1 : (if x12_1 < (x5_1.length : Int) then (spec_reFresh.l0 k1 l0 l1 (x5_1.set (x12_1 : Int).toNat false) (l0.length : Int) (wrap64 (x12_1 + 1))) else (none)) = some r := by rw [if_neg (show ¬ (false = true) by decide)] at H; exact H
                  clear H
                  have H := H1
                  clear H1
                  by_cases c17 : x12_1 < (x5_1.length : Int)
                  · rw [if_pos c17] at H
                    have c17b0 : decide (x12_1 < (x5_1.length : Int)) = true := decide_eq_true c17
                    clear c17
                    obtain ⟨y165, hy165⟩ : ∃ y_ : List Bool, y_ = (x5_1.set (x12_1 : Int).toNat false) := ⟨_, rfl⟩
                    replace H : (spec_reFresh.l0 k1 l0 l1 y165 (l0.length : Int) (wrap64 (x12_1 + 1))) = some r := by first | (rw [hy165]; with_reducible exact H) | (have H2_ := (Option.bind_some _ _).symm.trans H; rw [hy165]; with_reducible exact H2_) | (have H2_ := (Option.bind_some _ _).symm.trans H; with_reducible exact H2_) | with_reducible exact H | (rw [hy165]; exact H) | exact H
                    have Ny165 := Aside0.mk hy165
                    clear hy165
                    have H' := Aside0.mk H
                    clear H
                    have p162 : 0 ≤ (x12_1 : Int) := of_decide_eq_true (by first | (with_reducible assumption) | assumption)
                    have q162 : x12_1 < (l1.length : Int) := of_decide_eq_true (by first | (with_reducible assumption) | assumption)
                    obtain ⟨ad162, e162, hx162_0⟩ := Kd.at_bool HR1.out x12_1 p162 q162
                    (try rw [← Nbq10.out] at hx162_0)
                    cases e162
                    replace hx162_0 := (HB.out.cell (World.block_lt_of_cell? w _ hx162_0)).trans hx162_0
                    replace p162 := eq_true p162
                    replace q162 := eq_true q162
                    have p18 : 0 ≤ (x12_1 : Int) := of_decide_eq_true (by first | (with_reducible assumption) | assumption)
                    have q18 : (x12_1 : Int) < ((x5_1.length : Int) : Int) := of_decide_eq_true (by first | (with_reducible assumption) | assumption)
                    obtain ⟨go18, co18, eo18, gb18, gl18, cl18, HG18⟩ := Kd.R_form HO_5.out (by omega)
                    (first | cases eo18 | (injection eo18 with ea_ en_ ec_; (first | subst ea_ | (injection ea_ with ea_; subst ea_)); subst ec_; clear en_))
                    have GB18 := Aside0.mk gb18
                    have GG18 := Aside0.mk HG18
                    clear gb18 gl18 HG18
                    obtain ⟨hx18_0, hf18_0⟩ := Kd.R_celln false HO_5.out (x12_1 : Int) p18 q18
                    replace p18 := eq_true p18
                    replace q18 := eq_true q18
                    have HP19 := Kd.R_putg HO_5.out (x12_1 : Int) false
                    go_wp2_with (first | ((with_reducible refine gate_store (t := 4) (p := 28) rfl ?_); refine store_event (t := 4) (p := 28) (v := ?vo_w20) (w1 := (wr.setCell ⟨go18, (x12_1 : Int).toNat, none⟩ (.bool false))) ?hg ?ho ?hn ?hr ?_; (case ho => rfl); (case hg => rfl); (case hn => rfl); (case hr => first | (go_simp; done) | (go_simp; rfl)); intro w20 hw; have hg : wr.grownBy w20 (some go18) := (by rw [hw]; exact HP19.2); have hp_ : Kd.R Kd.bool 4 w20 w.heap.size (fun _ => True) (.slice (some ⟨go18, 0, none⟩) x5_1.length co18) y165 := (by rw [hw, Ny165.out]; exact HP19.1); clear HP19; have n0_ := Aside0.mk (hp_); have n1_ := Aside0.mk ((by rw [hw]; exact below_set (HB.out) GB18.out : Below w.heap.size w w20)); clear HO_5; clear HB; have HO_5 := n0_; have HB := n1_; clear n0_ n1_; clear hg hw hp_))
                    go_roundg k1
                    case measure => have := HK1.out; omega
                    case rel => exact ⟨(y165), (wrap64 (x12_1 + 1)), (by first | rfl | (simp; done) | (simp [*]; done)), H', ⟨by have := HK1.out; omega⟩, ⟨by (with_reducible repeat (first | apply Kd.R_alloc | apply Kd.R_drewN | apply Kd.R_drew)); exact HO_5.out⟩, ⟨by repeat (first | (with_reducible first | exact HB.out | apply below_alloc | apply pw_below_drewN | apply below_drew1) | exact HB.out)⟩⟩
                  · rw [if_neg c17] at H
                    exact absurd H (by simp)
              · rw [if_neg c9] at H
                exact absurd H (by simp)
            · rw [if_neg c8] at H
              exact absurd H (by simp)
          · rw [if_neg c7] at H
            have c7b0 : decide (x12_1 < (l0.length : Int)) = false := decide_eq_false c7
            clear c7
            obtain rfl := Option.some.inj H
            go_wp2
            go_ret
            exact ⟨_, by first | rfl | (simp [errW_none, errW_some] <;> rfl) | (simp [*, errW_none, errW_some] <;> rfl), by (with_reducible repeat (first | apply Kd.R_alloc | apply Kd.R_drewN | apply Kd.R_drew)); exact HO_5.out, by repeat (first | (with_reducible first | exact HB.out | apply below_alloc | apply pw_below_drewN | apply below_drew1) | exact HB.out)⟩
    · rw [if_neg c4] at H
      exact absurd H (by simp)
  · rw [if_neg c3] at H
    exact absurd H (by simp)

-- NOT PRINTED: function 34 (spec_reGathered)

end Go.Proofs.YtofkpinikkfmeaaDoor.PFnMtLeast
