/- Machine-made: walks of functions of the program, out of the print's own lines. -/
import Derived.Test.YtofkpinikkfmeaaDoorPFnMtLeasty0
import Derived.Test.YtofkpinikkfmeaaDoorPFnMtLeasty4
import Derived.Test.YtofkpinikkfmeaaDoorPFnMtLeasty5
namespace Go.Proofs.YtofkpinikkfmeaaDoor.PFnMtLeast
open Go.RowKit Go.Proofs.YtofkpinikkfmeaaDoorW.PrintWords Go.Proofs.YtofkpinikkfmeaaDoorW.PrintLast Go.Proofs.YtofkpinikkfmeaaDoorW.PrintMore
attribute [local go_sem] max2_int min2_int max_two min_two max_three min_three max_four min_four   -- for this text's walks alone
set_option linter.unusedVariables false
set_option linter.unusedSimpArgs false

/-! ### impl_sound: function 28 -/
mutual
def impl_sound.j0 : Nat → Int → Int → Bool → Int → Int → List Int → Int → Int → Int → ByteArray → List (S25) → Option (Bool)
  | 0, _, _, _, _, _, _, _, _, _, _, _ => none
  | k + 1, x3, x5, x6, x145000, x145001, x145002, x145003, x145004, x145005, x145006, x145007 => if x6 = true then (some ((x145007.length : Int) == x3)) else (if x5 = 3 then (if (x145002.length : Int) = 0 then (some false) else ((impl_characters.f k x145002).bind fun t145 => (if t145 = true then (some ((x145007.length : Int) == x3)) else (some false)))) else (if x5 = 4 then ((impl_pairs.f k x145002).bind fun t146 => (if t146 = true then (some ((x145007.length : Int) == x3)) else (some false))) else (if x5 = 13 then (if x145005 < 1 then (some false) else (if x145005 > 1000 then (some false) else (some ((x145007.length : Int) == 1)))) else (if x5 = 14 then (impl_sound.j1 k x5 (x5 == 14) x145000 x145001 x145002 x145003 x145004 x145005 x145006 x145007) else (if x5 = 15 then (impl_sound.j1 k x5 (x5 == 15) x145000 x145001 x145002 x145003 x145004 x145005 x145006 x145007) else (impl_sound.j1 k x5 (x5 == 16) x145000 x145001 x145002 x145003 x145004 x145005 x145006 x145007))))))
def impl_sound.j1 : Nat → Int → Bool → Int → Int → List Int → Int → Int → Int → ByteArray → List (S25) → Option (Bool)
  | 0, _, _, _, _, _, _, _, _, _, _ => none
  | k + 1, x5, x45, x145000, x145001, x145002, x145003, x145004, x145005, x145006, x145007 => if x45 = true then (some ((x145007.length : Int) == 1)) else (if x5 = 17 then (if x145003 < 0 then (some false) else (if x145004 < (-1) then (some false) else (if x145004 ≥ 0 then (if x145003 > x145004 then (some false) else (if x145003 > 1000 then (some false) else (if x145004 > 1000 then (some false) else (some ((x145007.length : Int) == 1))))) else (if x145003 > 1000 then (some false) else (if x145004 > 1000 then (some false) else (some ((x145007.length : Int) == 1))))))) else (if x5 = 18 then (some true) else (if x5 = 19 then (some (decide ((x145007.length : Int) > 0))) else (some false))))
end
def impl_sound.f (k : Nat) (a0_0 : Int) (a0_1 : Int) (l0_2 : List Int) (a0_3 : Int) (a0_4 : Int) (a0_5 : Int) (a0_6 : ByteArray) (l0_7 : List (S25)) : Option (Bool) := if a0_0 = 1 then (impl_sound.j0 k 0 a0_0 (a0_0 == 1) a0_0 a0_1 l0_2 a0_3 a0_4 a0_5 a0_6 l0_7) else (if a0_0 = 2 then (impl_sound.j0 k 0 a0_0 (a0_0 == 2) a0_0 a0_1 l0_2 a0_3 a0_4 a0_5 a0_6 l0_7) else (if a0_0 = 5 then (impl_sound.j0 k 0 a0_0 (a0_0 == 5) a0_0 a0_1 l0_2 a0_3 a0_4 a0_5 a0_6 l0_7) else (if a0_0 = 6 then (impl_sound.j0 k 0 a0_0 (a0_0 == 6) a0_0 a0_1 l0_2 a0_3 a0_4 a0_5 a0_6 l0_7) else (if a0_0 = 7 then (impl_sound.j0 k 0 a0_0 (a0_0 == 7) a0_0 a0_1 l0_2 a0_3 a0_4 a0_5 a0_6 l0_7) else (if a0_0 = 8 then (impl_sound.j0 k 0 a0_0 (a0_0 == 8) a0_0 a0_1 l0_2 a0_3 a0_4 a0_5 a0_6 l0_7) else (if a0_0 = 9 then (impl_sound.j0 k 0 a0_0 (a0_0 == 9) a0_0 a0_1 l0_2 a0_3 a0_4 a0_5 a0_6 l0_7) else (if a0_0 = 10 then (impl_sound.j0 k 0 a0_0 (a0_0 == 10) a0_0 a0_1 l0_2 a0_3 a0_4 a0_5 a0_6 l0_7) else (if a0_0 = 11 then (impl_sound.j0 k 0 a0_0 (a0_0 == 11) a0_0 a0_1 l0_2 a0_3 a0_4 a0_5 a0_6 l0_7) else (impl_sound.j0 k 0 a0_0 (a0_0 == 12) a0_0 a0_1 l0_2 a0_3 a0_4 a0_5 a0_6 l0_7)))))))))
theorem impl_sound.mono_l : ∀ k, (∀ y0 y1 y2 y3 y4 y5 y6 y7 y8 y9 y10, LeO (impl_sound.j0 k y0 y1 y2 y3 y4 y5 y6 y7 y8 y9 y10) (impl_sound.j0 (k + 1) y0 y1 y2 y3 y4 y5 y6 y7 y8 y9 y10)) ∧ (∀ y0 y1 y2 y3 y4 y5 y6 y7 y8 y9, LeO (impl_sound.j1 k y0 y1 y2 y3 y4 y5 y6 y7 y8 y9) (impl_sound.j1 (k + 1) y0 y1 y2 y3 y4 y5 y6 y7 y8 y9))
  | 0 => ⟨fun _ _ _ _ _ _ _ _ _ _ _ r h => by simp [impl_sound.j0] at h, fun _ _ _ _ _ _ _ _ _ _ r h => by simp [impl_sound.j1] at h⟩
  | k + 1 => by
    obtain ⟨ih0, ih1⟩ := impl_sound.mono_l k
    refine ⟨?_, ?_⟩
    · intro y0 y1 y2 y3 y4 y5 y6 y7 y8 y9 y10
      unfold impl_sound.j0
      repeat' first
      | (with_reducible exact ih0 _ _ _ _ _ _ _ _ _ _ _)
      | (with_reducible exact ih1 _ _ _ _ _ _ _ _ _ _)
      | (with_reducible exact impl_characters.mono _ _)
      | (with_reducible exact impl_pairs.mono _ _)
      | (with_reducible exact LeO.refl _)
      | (with_reducible exact LeO.none _)
      | (with_reducible refine LeO.ite ?_ ?_)
      | (with_reducible refine LeO.bind ?_ (fun _ => ?_))
      | exact ih0 _ _ _ _ _ _ _ _ _ _ _
      | exact ih1 _ _ _ _ _ _ _ _ _ _
      | exact impl_characters.mono _ _
      | exact impl_pairs.mono _ _
      | exact LeO.none _
      | refine LeO.ite ?_ ?_
      | refine LeO.bind ?_ (fun _ => ?_)
    · intro y0 y1 y2 y3 y4 y5 y6 y7 y8 y9
      unfold impl_sound.j1
      repeat' first
      | (with_reducible exact ih0 _ _ _ _ _ _ _ _ _ _ _)
      | (with_reducible exact ih1 _ _ _ _ _ _ _ _ _ _)
      | (with_reducible exact impl_characters.mono _ _)
      | (with_reducible exact impl_pairs.mono _ _)
      | (with_reducible exact LeO.refl _)
      | (with_reducible exact LeO.none _)
      | (with_reducible refine LeO.ite ?_ ?_)
      | (with_reducible refine LeO.bind ?_ (fun _ => ?_))
      | exact ih0 _ _ _ _ _ _ _ _ _ _ _
      | exact ih1 _ _ _ _ _ _ _ _ _ _
      | exact impl_characters.mono _ _
      | exact impl_pairs.mono _ _
      | exact LeO.none _
      | refine LeO.ite ?_ ?_
      | refine LeO.bind ?_ (fun _ => ?_)
theorem impl_sound.mono : ∀ a0 a1 a2 a3 a4 a5 a6 a7 k, LeO (impl_sound.f k a0 a1 a2 a3 a4 a5 a6 a7) (impl_sound.f (k + 1) a0 a1 a2 a3 a4 a5 a6 a7) := by
  intro a0 a1 a2 a3 a4 a5 a6 a7 k
  obtain ⟨ih0, ih1⟩ := impl_sound.mono_l k
  unfold impl_sound.f
  repeat' first
      | (with_reducible exact ih0 _ _ _ _ _ _ _ _ _ _ _)
      | (with_reducible exact ih1 _ _ _ _ _ _ _ _ _ _)
      | (with_reducible exact impl_characters.mono _ _)
      | (with_reducible exact impl_pairs.mono _ _)
      | (with_reducible exact LeO.refl _)
      | (with_reducible exact LeO.none _)
      | (with_reducible refine LeO.ite ?_ ?_)
      | (with_reducible refine LeO.bind ?_ (fun _ => ?_))
      | exact ih0 _ _ _ _ _ _ _ _ _ _ _
      | exact ih1 _ _ _ _ _ _ _ _ _ _
      | exact impl_characters.mono _ _
      | exact impl_pairs.mono _ _
      | exact LeO.none _
      | refine LeO.ite ?_ ?_
      | refine LeO.bind ?_ (fun _ => ?_)
set_option maxHeartbeats 8000000 in
set_option maxRecDepth 100000 in
theorem impl_sound.calls (k : Nat) (a0_0 : Int) (a0_1 : Int) (A0_2 : Option Addr) (c0_2 : Nat) (l0_2 : List Int) (a0_3 : Int) (a0_4 : Int) (a0_5 : Int) (a0_6 : ByteArray) (A0_7 : Option Addr) (c0_7 : Nat) (l0_7 : List (S25)) (r : Bool) (w : World) (hr0_2 : Kd.C (Kd.int .i32) w A0_2 l0_2.length l0_2) (hc0_2 : l0_2.length ≤ c0_2) (hr0_7 : Kd.C k25 w A0_7 l0_7.length l0_7) (hc0_7 : l0_7.length ≤ c0_7) (h : impl_sound.f k a0_0 a0_1 l0_2 a0_3 a0_4 a0_5 a0_6 l0_7 = some r) :
    Calls Tryd.prog 28 #[.agg #[.int .i64 a0_0, .int .i64 a0_1, .slice A0_2 l0_2.length c0_2, .int .i64 a0_3, .int .i64 a0_4, .int .i64 a0_5, .string a0_6, .slice A0_7 l0_7.length c0_7]] w fun e w' => e = .returned (.bool r) ∧ Below w.heap.size w w' := by
  have hu25 := Tryd.underlying25
  have HR0_2 := Aside0.mk hr0_2
  have HC0_2 := Aside0.mk hc0_2
  clear hr0_2 hc0_2
  have HR0_7 := Aside0.mk hr0_7
  have HC0_7 := Aside0.mk hc0_7
  clear hr0_7 hc0_7
  have HB := Aside0.mk (Below.refl w.heap.size w)
  have H : (if a0_0 = 1 then (impl_sound.j0 k 0 a0_0 (a0_0 == 1) a0_0 a0_1 l0_2 a0_3 a0_4 a0_5 a0_6 l0_7) else (if a0_0 = 2 then (impl_sound.j0 k 0 a0_0 (a0_0 == 2) a0_0 a0_1 l0_2 a0_3 a0_4 a0_5 a0_6 l0_7) else (if a0_0 = 5 then (impl_sound.j0 k 0 a0_0 (a0_0 == 5) a0_0 a0_1 l0_2 a0_3 a0_4 a0_5 a0_6 l0_7) else (if a0_0 = 6 then (impl_sound.j0 k 0 a0_0 (a0_0 == 6) a0_0 a0_1 l0_2 a0_3 a0_4 a0_5 a0_6 l0_7) else (if a0_0 = 7 then (impl_sound.j0 k 0 a0_0 (a0_0 == 7) a0_0 a0_1 l0_2 a0_3 a0_4 a0_5 a0_6 l0_7) else (if a0_0 = 8 then (impl_sound.j0 k 0 a0_0 (a0_0 == 8) a0_0 a0_1 l0_2 a0_3 a0_4 a0_5 a0_6 l0_7) else (if a0_0 = 9 then (impl_sound.j0 k 0 a0_0 (a0_0 == 9) a0_0 a0_1 l0_2 a0_3 a0_4 a0_5 a0_6 l0_7) else (if a0_0 = 10 then (impl_sound.j0 k 0 a0_0 (a0_0 == 10) a0_0 a0_1 l0_2 a0_3 a0_4 a0_5 a0_6 l0_7) else (if a0_0 = 11 then (impl_sound.j0 k 0 a0_0 (a0_0 == 11) a0_0 a0_1 l0_2 a0_3 a0_4 a0_5 a0_6 l0_7) else (impl_sound.j0 k 0 a0_0 (a0_0 == 12) a0_0 a0_1 l0_2 a0_3 a0_4 a0_5 a0_6 l0_7)))))))))) = some r := h
  clear h
  have HC2 := Aside0.mk H
  clear H
  go_enter Tryd.func28, Tryd.ntmps28
  go_upto_if 6 with (first | ((with_reducible refine gate_dst (N := 1) rfl ?_); refine box_event ?hg (N := 1) ?hd (cs := #[.int .i64 a0_0, .int .i64 a0_1, .slice A0_2 l0_2.length c0_2, .int .i64 a0_3, .int .i64 a0_4, .int .i64 a0_5, .string a0_6, .slice A0_7 l0_7.length c0_7]) (t := 25) ?hr ?_; (case hd => rfl); (case hg => rfl); (case hr => first | (go_simp; done) | (go_simp; rfl)); intro gb144 hg w3 hbox hb; have n0_ := Aside0.mk (below_step (by repeat (first | (with_reducible first | exact HB.out | apply below_alloc | apply pw_below_drewN | apply below_drew1) | exact HB.out)) hb); have n1_ := Aside0.mk (hbox); have n2_ := Aside0.mk ((by rw [hg]; exact (below_size (by repeat (first | (with_reducible first | exact HB.out | apply below_alloc | apply pw_below_drewN | apply below_drew1) | exact HB.out))) : w.heap.size ≤ gb144)); have n3_ := Aside0.mk ((by rw [hg]; exact (below_size (by repeat (first | (with_reducible first | exact HB.out | apply below_alloc | apply pw_below_drewN | apply below_drew1) | exact HB.out))) : w.heap.size ≤ gb144)); clear HB; have HB := n0_; have BK144 := n1_; have GW144 := n2_; have GE144 := n3_; clear n0_ n1_ n2_ n3_; clear hb hbox hg; have hcz4_0 : w3.cell? ⟨gb144, 0, none⟩ = some (.int .i64 a0_0) := (blk_cell BK144.out 0).trans rfl; have hcz4_1 : w3.cell? ⟨gb144, 1, none⟩ = some (.int .i64 a0_1) := (blk_cell BK144.out 1).trans rfl; have hcz4_2 : w3.cell? ⟨gb144, 2, none⟩ = some (.slice A0_2 l0_2.length c0_2) := (blk_cell BK144.out 2).trans rfl; have hcz4_3 : w3.cell? ⟨gb144, 3, none⟩ = some (.int .i64 a0_3) := (blk_cell BK144.out 3).trans rfl; have hcz4_4 : w3.cell? ⟨gb144, 4, none⟩ = some (.int .i64 a0_4) := (blk_cell BK144.out 4).trans rfl; have hcz4_5 : w3.cell? ⟨gb144, 5, none⟩ = some (.int .i64 a0_5) := (blk_cell BK144.out 5).trans rfl; have hcz4_6 : w3.cell? ⟨gb144, 6, none⟩ = some (.string a0_6) := (blk_cell BK144.out 6).trans rfl; have hcz4_7 : w3.cell? ⟨gb144, 7, none⟩ = some (.slice A0_7 l0_7.length c0_7) := (blk_cell BK144.out 7).trans rfl; have hfz4_0 := blk_frozen BK144.out 0; have hfz4_1 := blk_frozen BK144.out 1; have hfz4_2 := blk_frozen BK144.out 2; have hfz4_3 := blk_frozen BK144.out 3; have hfz4_4 := blk_frozen BK144.out 4; have hfz4_5 := blk_frozen BK144.out 5; have hfz4_6 := blk_frozen BK144.out 6; have hfz4_7 := blk_frozen BK144.out 7))
  (try simp only [Act.put, List.setIfInBounds_toArray, List.set_cons_zero, List.set_cons_succ])
  go_cut [6] (fun v6 wc => ∃ (kq : Nat) (x6_1 : Bool), v6 = .bool x6_1 ∧ Aside0 (impl_sound.j0 kq 0 a0_0 x6_1 a0_0 a0_1 l0_2 a0_3 a0_4 a0_5 a0_6 l0_7 = some r) ∧ Aside0 (kq ≤ k) ∧ Aside0 (wc.heap[gb144]? = some (.cells #[.int .i64 a0_0, .int .i64 a0_1, (.slice A0_2 l0_2.length c0_2), .int .i64 a0_3, .int .i64 a0_4, .int .i64 a0_5, .string a0_6, (.slice A0_7 l0_7.length c0_7)] 25 (0, 0))) ∧ Aside0 (Below w.heap.size w wc))
  case first =>
    have H := HC2.out
    clear HC2
    by_cases c5 : a0_0 = 1
    · rw [if_pos c5] at H
      have c5b0 : (a0_0 == 1) = true := beq_iff_eq.mpr c5
      have c5b1 : (a0_0 != 1) = false := bne_eq_false_iff_eq.mpr c5
      clear c5
      (first | rw [c5b0] | (simp only [i64_w, i32_w]; rw [c5b0]) | skip)
      have H' := Aside0.mk H
      clear H
      go_wp2
      go_meet
      case rel => exact ⟨_, ((a0_0 == 1)), (by first | rfl | (simp; done) | (simp [*]; done)), H', ⟨by first | omega | exact Nat.le_refl _⟩, ⟨by (with_reducible repeat (first | refine blk_drewN ?_ _ | refine blk_drew ?_ | refine blk_alloc ?_ _)); exact BK144.out⟩, ⟨by repeat (first | (with_reducible first | exact HB.out | apply below_alloc | apply pw_below_drewN | apply below_drew1 | refine below_set ?_ GE144.out) | exact HB.out)⟩⟩
    · rw [if_neg c5] at H
      have c5b0 : (a0_0 == 1) = false := beq_eq_false_iff_ne.mpr c5
      have c5b1 : (a0_0 != 1) = true := bne_iff_ne.mpr c5
      (first | rw [c5b0] | (simp only [i64_w, i32_w]; rw [c5b0]) | skip)
      by_cases c6 : a0_0 = 2
      · rw [if_pos c6] at H
        have c6b0 : (a0_0 == 2) = true := beq_iff_eq.mpr c6
        have c6b1 : (a0_0 != 2) = false := bne_eq_false_iff_eq.mpr c6
        clear c6
        have H' := Aside0.mk H
        clear H
        go_wp2
        go_meet
        case rel => exact ⟨_, ((a0_0 == 2)), (by first | rfl | (simp; done) | (simp [*]; done)), H', ⟨by first | omega | exact Nat.le_refl _⟩, ⟨by (with_reducible repeat (first | refine blk_drewN ?_ _ | refine blk_drew ?_ | refine blk_alloc ?_ _)); exact BK144.out⟩, ⟨by repeat (first | (with_reducible first | exact HB.out | apply below_alloc | apply pw_below_drewN | apply below_drew1 | refine below_set ?_ GE144.out) | exact HB.out)⟩⟩
      · rw [if_neg c6] at H
        have c6b0 : (a0_0 == 2) = false := beq_eq_false_iff_ne.mpr c6
        have c6b1 : (a0_0 != 2) = true := bne_iff_ne.mpr c6
        by_cases c7 : a0_0 = 5
        · rw [if_pos c7] at H
          have c7b0 : (a0_0 == 5) = true := beq_iff_eq.mpr c7
          have c7b1 : (a0_0 != 5) = false := bne_eq_false_iff_eq.mpr c7
          clear c7
          have H' := Aside0.mk H
          clear H
          go_wp2
          go_meet
          case rel => exact ⟨_, ((a0_0 == 5)), (by first | rfl | (simp; done) | (simp [*]; done)), H', ⟨by first | omega | exact Nat.le_refl _⟩, ⟨by (with_reducible repeat (first | refine blk_drewN ?_ _ | refine blk_drew ?_ | refine blk_alloc ?_ _)); exact BK144.out⟩, ⟨by repeat (first | (with_reducible first | exact HB.out | apply below_alloc | apply pw_below_drewN | apply below_drew1 | refine below_set ?_ GE144.out) | exact HB.out)⟩⟩
        · rw [if_neg c7] at H
          have c7b0 : (a0_0 == 5) = false := beq_eq_false_iff_ne.mpr c7
          have c7b1 : (a0_0 != 5) = true := bne_iff_ne.mpr c7
          by_cases c8 : a0_0 = 6
          · rw [if_pos c8] at H
            have c8b0 : (a0_0 == 6) = true := beq_iff_eq.mpr c8
            have c8b1 : (a0_0 != 6) = false := bne_eq_false_iff_eq.mpr c8
            clear c8
            have H' := Aside0.mk H
            clear H
            go_wp2
            go_meet
            case rel => exact ⟨_, ((a0_0 == 6)), (by first | rfl | (simp; done) | (simp [*]; done)), H', ⟨by first | omega | exact Nat.le_refl _⟩, ⟨by (with_reducible repeat (first | refine blk_drewN ?_ _ | refine blk_drew ?_ | refine blk_alloc ?_ _)); exact BK144.out⟩, ⟨by repeat (first | (with_reducible first | exact HB.out | apply below_alloc | apply pw_below_drewN | apply below_drew1 | refine below_set ?_ GE144.out) | exact HB.out)⟩⟩
          · rw [if_neg c8] at H
            have c8b0 : (a0_0 == 6) = false := beq_eq_false_iff_ne.mpr c8
            have c8b1 : (a0_0 != 6) = true := bne_iff_ne.mpr c8
            by_cases c9 : a0_0 = 7
            · rw [if_pos c9] at H
              have c9b0 : (a0_0 == 7) = true := beq_iff_eq.mpr c9
              have c9b1 : (a0_0 != 7) = false := bne_eq_false_iff_eq.mpr c9
              clear c9
              have H' := Aside0.mk H
              clear H
              go_wp2
              go_meet
              case rel => exact ⟨_, ((a0_0 == 7)), (by first | rfl | (simp; done) | (simp [*]; done)), H', ⟨by first | omega | exact Nat.le_refl _⟩, ⟨by (with_reducible repeat (first | refine blk_drewN ?_ _ | refine blk_drew ?_ | refine blk_alloc ?_ _)); exact BK144.out⟩, ⟨by repeat (first | (with_reducible first | exact HB.out | apply below_alloc | apply pw_below_drewN | apply below_drew1 | refine below_set ?_ GE144.out) | exact HB.out)⟩⟩
            · rw [if_neg c9] at H
              have c9b0 : (a0_0 == 7) = false := beq_eq_false_iff_ne.mpr c9
              have c9b1 : (a0_0 != 7) = true := bne_iff_ne.mpr c9
              by_cases c10 : a0_0 = 8
              · rw [if_pos c10] at H
                have c10b0 : (a0_0 == 8) = true := beq_iff_eq.mpr c10
                have c10b1 : (a0_0 != 8) = false := bne_eq_false_iff_eq.mpr c10
                clear c10
                have H' := Aside0.mk H
                clear H
                go_wp2
                go_meet
                case rel => exact ⟨_, ((a0_0 == 8)), (by first | rfl | (simp; done) | (simp [*]; done)), H', ⟨by first | omega | exact Nat.le_refl _⟩, ⟨by (with_reducible repeat (first | refine blk_drewN ?_ _ | refine blk_drew ?_ | refine blk_alloc ?_ _)); exact BK144.out⟩, ⟨by repeat (first | (with_reducible first | exact HB.out | apply below_alloc | apply pw_below_drewN | apply below_drew1 | refine below_set ?_ GE144.out) | exact HB.out)⟩⟩
              · rw [if_neg c10] at H
                have c10b0 : (a0_0 == 8) = false := beq_eq_false_iff_ne.mpr c10
                have c10b1 : (a0_0 != 8) = true := bne_iff_ne.mpr c10
                by_cases c11 : a0_0 = 9
                · rw [if_pos c11] at H
                  have c11b0 : (a0_0 == 9) = true := beq_iff_eq.mpr c11
                  have c11b1 : (a0_0 != 9) = false := bne_eq_false_iff_eq.mpr c11
                  clear c11
                  have H' := Aside0.mk H
                  clear H
                  go_wp2
                  go_meet
                  case rel => exact ⟨_, ((a0_0 == 9)), (by first | rfl | (simp; done) | (simp [*]; done)), H', ⟨by first | omega | exact Nat.le_refl _⟩, ⟨by (with_reducible repeat (first | refine blk_drewN ?_ _ | refine blk_drew ?_ | refine blk_alloc ?_ _)); exact BK144.out⟩, ⟨by repeat (first | (with_reducible first | exact HB.out | apply below_alloc | apply pw_below_drewN | apply below_drew1 | refine below_set ?_ GE144.out) | exact HB.out)⟩⟩
                · rw [if_neg c11] at H
                  have c11b0 : (a0_0 == 9) = false := beq_eq_false_iff_ne.mpr c11
                  have c11b1 : (a0_0 != 9) = true := bne_iff_ne.mpr c11
                  by_cases c12 : a0_0 = 10
                  · rw [if_pos c12] at H
                    have c12b0 : (a0_0 == 10) = true := beq_iff_eq.mpr c12
                    have c12b1 : (a0_0 != 10) = false := bne_eq_false_iff_eq.mpr c12
                    clear c12
                    have H' := Aside0.mk H
                    clear H
                    go_wp2
                    go_meet
                    case rel => exact ⟨_, ((a0_0 == 10)), (by first | rfl | (simp; done) | (simp [*]; done)), H', ⟨by first | omega | exact Nat.le_refl _⟩, ⟨by (with_reducible repeat (first | refine blk_drewN ?_ _ | refine blk_drew ?_ | refine blk_alloc ?_ _)); exact BK144.out⟩, ⟨by repeat (first | (with_reducible first | exact HB.out | apply below_alloc | apply pw_below_drewN | apply below_drew1 | refine below_set ?_ GE144.out) | exact HB.out)⟩⟩
                  · rw [if_neg c12] at H
                    have c12b0 : (a0_0 == 10) = false := beq_eq_false_iff_ne.mpr c12
                    have c12b1 : (a0_0 != 10) = true := bne_iff_ne.mpr c12
                    by_cases c13 : a0_0 = 11
                    · rw [if_pos c13] at H
                      have c13b0 : (a0_0 == 11) = true := beq_iff_eq.mpr c13
                      have c13b1 : (a0_0 != 11) = false := bne_eq_false_iff_eq.mpr c13
                      clear c13
                      have H' := Aside0.mk H
                      clear H
                      go_wp2
                      go_meet
                      case rel => exact ⟨_, ((a0_0 == 11)), (by first | rfl | (simp; done) | (simp [*]; done)), H', ⟨by first | omega | exact Nat.le_refl _⟩, ⟨by (with_reducible repeat (first | refine blk_drewN ?_ _ | refine blk_drew ?_ | refine blk_alloc ?_ _)); exact BK144.out⟩, ⟨by repeat (first | (with_reducible first | exact HB.out | apply below_alloc | apply pw_below_drewN | apply below_drew1 | refine below_set ?_ GE144.out) | exact HB.out)⟩⟩
                    · rw [if_neg c13] at H
                      have c13b0 : (a0_0 == 11) = false := beq_eq_false_iff_ne.mpr c13
                      have c13b1 : (a0_0 != 11) = true := bne_iff_ne.mpr c13
                      have H' := Aside0.mk H
                      clear H
                      go_wp2
                      go_meet
                      case rel => exact ⟨_, ((a0_0 == 12)), (by first | rfl | (simp; done) | (simp [*]; done)), H', ⟨by first | omega | exact Nat.le_refl _⟩, ⟨by (with_reducible repeat (first | refine blk_drewN ?_ _ | refine blk_drew ?_ | refine blk_alloc ?_ _)); exact BK144.out⟩, ⟨by repeat (first | (with_reducible first | exact HB.out | apply below_alloc | apply pw_below_drewN | apply below_drew1 | refine below_set ?_ GE144.out) | exact HB.out)⟩⟩
  case rest =>
    clear HC2
    try clear c1
    try clear c2
    try clear p2
    try clear c5
    try clear c5b0
    try clear c5b1
    try clear c6
    try clear c6b0
    try clear c6b1
    try clear c7
    try clear c7b0
    try clear c7b1
    try clear c8
    try clear c8b0
    try clear c8b1
    try clear c9
    try clear c9b0
    try clear c9b1
    try clear c10
    try clear c10b0
    try clear c10b1
    try clear c11
    try clear c11b0
    try clear c11b1
    try clear c12
    try clear c12b0
    try clear c12b1
    try clear c13
    try clear c13b0
    try clear c13b1
    try clear hcz4_0
    try clear hcz4_1
    try clear hcz4_2
    try clear hcz4_3
    try clear hcz4_4
    try clear hcz4_5
    try clear hcz4_6
    try clear hcz4_7
    try clear hfz4_0
    try clear hfz4_1
    try clear hfz4_2
    try clear hfz4_3
    try clear hfz4_4
    try clear hfz4_5
    try clear hfz4_6
    try clear hfz4_7
    obtain ⟨kq, x6_1, rfl, HA, HJ1, BK144, HB⟩ := hcut
    cases kq with
    | zero => exact absurd HA.out (by simp [impl_sound.j0])
    | succ kj1 =>
      have H := HA.out
      clear HA
      simp only [impl_sound.j0] at H
      by_cases c14 : x6_1 = true
      · subst c14
        have H1 : (some ((l0_7.length : Int) == 0)) = some r := by rw [if_pos rfl] at H; exact H
        clear H
        have H := H1
        clear H1
        obtain rfl := Option.some.inj H
        have hcz15_0 : wc.cell? ⟨gb144, 0, none⟩ = some (.int .i64 a0_0) := (blk_cell BK144.out 0).trans rfl
        have hcz15_1 : wc.cell? ⟨gb144, 1, none⟩ = some (.int .i64 a0_1) := (blk_cell BK144.out 1).trans rfl
        have hcz15_2 : wc.cell? ⟨gb144, 2, none⟩ = some (.slice A0_2 l0_2.length c0_2) := (blk_cell BK144.out 2).trans rfl
        have hcz15_3 : wc.cell? ⟨gb144, 3, none⟩ = some (.int .i64 a0_3) := (blk_cell BK144.out 3).trans rfl
        have hcz15_4 : wc.cell? ⟨gb144, 4, none⟩ = some (.int .i64 a0_4) := (blk_cell BK144.out 4).trans rfl
        have hcz15_5 : wc.cell? ⟨gb144, 5, none⟩ = some (.int .i64 a0_5) := (blk_cell BK144.out 5).trans rfl
        have hcz15_6 : wc.cell? ⟨gb144, 6, none⟩ = some (.string a0_6) := (blk_cell BK144.out 6).trans rfl
        have hcz15_7 : wc.cell? ⟨gb144, 7, none⟩ = some (.slice A0_7 l0_7.length c0_7) := (blk_cell BK144.out 7).trans rfl
        have hfz15_0 := blk_frozen BK144.out 0
        have hfz15_1 := blk_frozen BK144.out 1
        have hfz15_2 := blk_frozen BK144.out 2
        have hfz15_3 := blk_frozen BK144.out 3
        have hfz15_4 := blk_frozen BK144.out 4
        have hfz15_5 := blk_frozen BK144.out 5
        have hfz15_6 := blk_frozen BK144.out 6
        have hfz15_7 := blk_frozen BK144.out 7
        go_wp2
        go_ret
        exact ⟨by first | rfl | (simp [errW_none, errW_some] <;> rfl) | (simp [*, errW_none, errW_some] <;> rfl), by repeat (first | (with_reducible first | exact HB.out | apply below_alloc | apply pw_below_drewN | apply below_drew1 | refine below_set ?_ GE144.out) | exact HB.out)⟩
      · replace c14 := Bool.eq_false_iff.mpr c14
        subst c14
        have H1 : (if a0_0 = 3 then (if (l0_2.length : Int) = 0 then (some false) else ((impl_characters.f kj1 l0_2).bind fun t145 => (if t145 = true then (some ((l0_7.length : Int) == 0)) else (some false)))) else (if a0_0 = 4 then ((impl_pairs.f kj1 l0_2).bind fun t146 => (if t146 = true then (some ((l0_7.length : Int) == 0)) else (some false))) else (if a0_0 = 13 then (if a0_5 < 1 then (some false) else (if a0_5 > 1000 then (some false) else (some ((l0_7.length : Int) == 1)))) else (if a0_0 = 14 then (impl_sound.j1 kj1 a0_0 (a0_0 == 14) a0_0 a0_1 l0_2 a0_3 a0_4 a0_5 a0_6 l0_7) else (if a0_0 = 15 then (impl_sound.j1 kj1 a0_0 (a0_0 == 15) a0_0 a0_1 l0_2 a0_3 a0_4 a0_5 a0_6 l0_7) else (impl_sound.j1 kj1 a0_0 (a0_0 == 16) a0_0 a0_1 l0_2 a0_3 a0_4 a0_5 a0_6 l0_7)))))) = some r := by rw [if_neg (show ¬ (false = true) by decide)] at H; exact H
        clear H
        have H := H1
        clear H1
        by_cases c16 : a0_0 = 3
        · rw [if_pos c16] at H
          have c16b0 : (a0_0 == 3) = true := beq_iff_eq.mpr c16
          have c16b1 : (a0_0 != 3) = false := bne_eq_false_iff_eq.mpr c16
          clear c16
          by_cases c17 : (l0_2.length : Int) = 0
          · rw [if_pos c17] at H
            have c17b0 : ((l0_2.length : Int) == 0) = true := beq_iff_eq.mpr c17
            have c17b1 : ((l0_2.length : Int) != 0) = false := bne_eq_false_iff_eq.mpr c17
            clear c17
            obtain rfl := Option.some.inj H
            have hcz18_0 : wc.cell? ⟨gb144, 0, none⟩ = some (.int .i64 a0_0) := (blk_cell BK144.out 0).trans rfl
            have hcz18_1 : wc.cell? ⟨gb144, 1, none⟩ = some (.int .i64 a0_1) := (blk_cell BK144.out 1).trans rfl
            have hcz18_2 : wc.cell? ⟨gb144, 2, none⟩ = some (.slice A0_2 l0_2.length c0_2) := (blk_cell BK144.out 2).trans rfl
            have hcz18_3 : wc.cell? ⟨gb144, 3, none⟩ = some (.int .i64 a0_3) := (blk_cell BK144.out 3).trans rfl
            have hcz18_4 : wc.cell? ⟨gb144, 4, none⟩ = some (.int .i64 a0_4) := (blk_cell BK144.out 4).trans rfl
            have hcz18_5 : wc.cell? ⟨gb144, 5, none⟩ = some (.int .i64 a0_5) := (blk_cell BK144.out 5).trans rfl
            have hcz18_6 : wc.cell? ⟨gb144, 6, none⟩ = some (.string a0_6) := (blk_cell BK144.out 6).trans rfl
            have hcz18_7 : wc.cell? ⟨gb144, 7, none⟩ = some (.slice A0_7 l0_7.length c0_7) := (blk_cell BK144.out 7).trans rfl
            have hfz18_0 := blk_frozen BK144.out 0
            have hfz18_1 := blk_frozen BK144.out 1
            have hfz18_2 := blk_frozen BK144.out 2
            have hfz18_3 := blk_frozen BK144.out 3
            have hfz18_4 := blk_frozen BK144.out 4
            have hfz18_5 := blk_frozen BK144.out 5
            have hfz18_6 := blk_frozen BK144.out 6
            have hfz18_7 := blk_frozen BK144.out 7
            go_wp2
            go_ret
            exact ⟨by first | rfl | (simp [errW_none, errW_some] <;> rfl) | (simp [*, errW_none, errW_some] <;> rfl), by repeat (first | (with_reducible first | exact HB.out | apply below_alloc | apply pw_below_drewN | apply below_drew1 | refine below_set ?_ GE144.out) | exact HB.out)⟩
          · rw [if_neg c17] at H
            have c17b0 : ((l0_2.length : Int) == 0) = false := beq_eq_false_iff_ne.mpr c17
            have c17b1 : ((l0_2.length : Int) != 0) = true := bne_iff_ne.mpr c17
            have c17b2 : ¬ (l0_2 = []) := fun h_ => c17 (by rw [h_]; rfl)
            replace H := Option.bind_eq_some_iff.mp H
            obtain ⟨t145, A190, H⟩ := H
            replace H : (if t145 = true then (some ((l0_7.length : Int) == 0)) else (some false)) = some r := H
            have A19 := Aside0.mk A190
            clear A190
            by_cases c20 : t145 = true
            · subst c20
              have H1 : (some ((l0_7.length : Int) == 0)) = some r := by rw [if_pos rfl] at H; exact H
              clear H
              have H := H1
              clear H1
              obtain rfl := Option.some.inj H
              have hcz21_0 : wc.cell? ⟨gb144, 0, none⟩ = some (.int .i64 a0_0) := (blk_cell BK144.out 0).trans rfl
              have hcz21_1 : wc.cell? ⟨gb144, 1, none⟩ = some (.int .i64 a0_1) := (blk_cell BK144.out 1).trans rfl
              have hcz21_2 : wc.cell? ⟨gb144, 2, none⟩ = some (.slice A0_2 l0_2.length c0_2) := (blk_cell BK144.out 2).trans rfl
              have hcz21_3 : wc.cell? ⟨gb144, 3, none⟩ = some (.int .i64 a0_3) := (blk_cell BK144.out 3).trans rfl
              have hcz21_4 : wc.cell? ⟨gb144, 4, none⟩ = some (.int .i64 a0_4) := (blk_cell BK144.out 4).trans rfl
              have hcz21_5 : wc.cell? ⟨gb144, 5, none⟩ = some (.int .i64 a0_5) := (blk_cell BK144.out 5).trans rfl
              have hcz21_6 : wc.cell? ⟨gb144, 6, none⟩ = some (.string a0_6) := (blk_cell BK144.out 6).trans rfl
              have hcz21_7 : wc.cell? ⟨gb144, 7, none⟩ = some (.slice A0_7 l0_7.length c0_7) := (blk_cell BK144.out 7).trans rfl
              have hfz21_0 := blk_frozen BK144.out 0
              have hfz21_1 := blk_frozen BK144.out 1
              have hfz21_2 := blk_frozen BK144.out 2
              have hfz21_3 := blk_frozen BK144.out 3
              have hfz21_4 := blk_frozen BK144.out 4
              have hfz21_5 := blk_frozen BK144.out 5
              have hfz21_6 := blk_frozen BK144.out 6
              have hfz21_7 := blk_frozen BK144.out 7
              go_wp2_with (first | (go_at_call 40; (with_reducible refine (impl_characters.calls kj1 _ _ l0_2 true _ ?side1 ?side2 A19.out).mono ?_); (case side1 => repeat (first | exact (Kd.C_below HR0_2.out HB.out) | (with_reducible refine Kd.C_alloc ?_ _) | (with_reducible refine Kd.C_drewN ?_ _) | (with_reducible refine Kd.C_drew ?_))); (case side2 => exact HC0_2.out); rintro e w' ⟨rfl, ⟨nd, rfl⟩⟩))
              go_ret
              exact ⟨by first | rfl | (simp [errW_none, errW_some] <;> rfl) | (simp [*, errW_none, errW_some] <;> rfl), by repeat (first | (with_reducible first | exact HB.out | apply below_alloc | apply pw_below_drewN | apply below_drew1 | refine below_set ?_ GE144.out) | exact HB.out)⟩
            · replace c20 := Bool.eq_false_iff.mpr c20
              subst c20
              have H1 : (some false) = some r := by rw [if_neg (show ¬ (false = true) by decide)] at H; exact H
              clear H
              have H := H1
              clear H1
              obtain rfl := Option.some.inj H
              have hcz22_0 : wc.cell? ⟨gb144, 0, none⟩ = some (.int .i64 a0_0) := (blk_cell BK144.out 0).trans rfl
              have hcz22_1 : wc.cell? ⟨gb144, 1, none⟩ = some (.int .i64 a0_1) := (blk_cell BK144.out 1).trans rfl
              have hcz22_2 : wc.cell? ⟨gb144, 2, none⟩ = some (.slice A0_2 l0_2.length c0_2) := (blk_cell BK144.out 2).trans rfl
              have hcz22_3 : wc.cell? ⟨gb144, 3, none⟩ = some (.int .i64 a0_3) := (blk_cell BK144.out 3).trans rfl
              have hcz22_4 : wc.cell? ⟨gb144, 4, none⟩ = some (.int .i64 a0_4) := (blk_cell BK144.out 4).trans rfl
              have hcz22_5 : wc.cell? ⟨gb144, 5, none⟩ = some (.int .i64 a0_5) := (blk_cell BK144.out 5).trans rfl
              have hcz22_6 : wc.cell? ⟨gb144, 6, none⟩ = some (.string a0_6) := (blk_cell BK144.out 6).trans rfl
              have hcz22_7 : wc.cell? ⟨gb144, 7, none⟩ = some (.slice A0_7 l0_7.length c0_7) := (blk_cell BK144.out 7).trans rfl
              have hfz22_0 := blk_frozen BK144.out 0
              have hfz22_1 := blk_frozen BK144.out 1
              have hfz22_2 := blk_frozen BK144.out 2
              have hfz22_3 := blk_frozen BK144.out 3
              have hfz22_4 := blk_frozen BK144.out 4
              have hfz22_5 := blk_frozen BK144.out 5
              have hfz22_6 := blk_frozen BK144.out 6
              have hfz22_7 := blk_frozen BK144.out 7
              go_wp2_with (first | (go_at_call 40; (with_reducible refine (impl_characters.calls kj1 _ _ l0_2 false _ ?side1 ?side2 A19.out).mono ?_); (case side1 => repeat (first | exact (Kd.C_below HR0_2.out HB.out) | (with_reducible refine Kd.C_alloc ?_ _) | (with_reducible refine Kd.C_drewN ?_ _) | (with_reducible refine Kd.C_drew ?_))); (case side2 => exact HC0_2.out); rintro e w' ⟨rfl, ⟨nd, rfl⟩⟩))
              go_ret
              exact ⟨by first | rfl | (simp [errW_none, errW_some] <;> rfl) | (simp [*, errW_none, errW_some] <;> rfl), by repeat (first | (with_reducible first | exact HB.out | apply below_alloc | apply pw_below_drewN | apply below_drew1 | refine below_set ?_ GE144.out) | exact HB.out)⟩
        · rw [if_neg c16] at H
          have c16b0 : (a0_0 == 3) = false := beq_eq_false_iff_ne.mpr c16
          have c16b1 : (a0_0 != 3) = true := bne_iff_ne.mpr c16
          by_cases c23 : a0_0 = 4
          · rw [if_pos c23] at H
            have c23b0 : (a0_0 == 4) = true := beq_iff_eq.mpr c23
            have c23b1 : (a0_0 != 4) = false := bne_eq_false_iff_eq.mpr c23
            clear c23
            replace H := Option.bind_eq_some_iff.mp H
            obtain ⟨t146, A240, H⟩ := H
            replace H : (if t146 = true then (some ((l0_7.length : Int) == 0)) else (some false)) = some r := H
            have A24 := Aside0.mk A240
            clear A240
            by_cases c25 : t146 = true
            · subst c25
              have H1 : (some ((l0_7.length : Int) == 0)) = some r := by rw [if_pos rfl] at H; exact H
              clear H
              have H := H1
              clear H1
              obtain rfl := Option.some.inj H
              have hcz26_0 : wc.cell? ⟨gb144, 0, none⟩ = some (.int .i64 a0_0) := (blk_cell BK144.out 0).trans rfl
              have hcz26_1 : wc.cell? ⟨gb144, 1, none⟩ = some (.int .i64 a0_1) := (blk_cell BK144.out 1).trans rfl
              have hcz26_2 : wc.cell? ⟨gb144, 2, none⟩ = some (.slice A0_2 l0_2.length c0_2) := (blk_cell BK144.out 2).trans rfl
              have hcz26_3 : wc.cell? ⟨gb144, 3, none⟩ = some (.int .i64 a0_3) := (blk_cell BK144.out 3).trans rfl
              have hcz26_4 : wc.cell? ⟨gb144, 4, none⟩ = some (.int .i64 a0_4) := (blk_cell BK144.out 4).trans rfl
              have hcz26_5 : wc.cell? ⟨gb144, 5, none⟩ = some (.int .i64 a0_5) := (blk_cell BK144.out 5).trans rfl
              have hcz26_6 : wc.cell? ⟨gb144, 6, none⟩ = some (.string a0_6) := (blk_cell BK144.out 6).trans rfl
              have hcz26_7 : wc.cell? ⟨gb144, 7, none⟩ = some (.slice A0_7 l0_7.length c0_7) := (blk_cell BK144.out 7).trans rfl
              have hfz26_0 := blk_frozen BK144.out 0
              have hfz26_1 := blk_frozen BK144.out 1
              have hfz26_2 := blk_frozen BK144.out 2
              have hfz26_3 := blk_frozen BK144.out 3
              have hfz26_4 := blk_frozen BK144.out 4
              have hfz26_5 := blk_frozen BK144.out 5
              have hfz26_6 := blk_frozen BK144.out 6
              have hfz26_7 := blk_frozen BK144.out 7
              go_wp2_with (first | ((with_reducible refine gate_callee (f := 41) rfl ?_); refine goesL_ (some 33) rfl rfl Tryd.func41 (by kernel_rfl) rfl #[.slice A0_2 l0_2.length c0_2] rfl (by (try simp only [List.map_toArray, List.map_cons, List.map_nil]); first | done | rfl | (simp only [List.length_drop, List.length_take]; rfl)) ?_; (with_reducible refine (impl_pairs.calls kj1 _ _ l0_2 true _ ?side1 ?side2 A24.out).mono ?_); (case side1 => repeat (first | exact (Kd.C_below HR0_2.out HB.out) | (with_reducible refine Kd.C_alloc ?_ _) | (with_reducible refine Kd.C_drewN ?_ _) | (with_reducible refine Kd.C_drew ?_))); (case side2 => exact HC0_2.out); rintro e w' ⟨rfl, ⟨nd, rfl⟩⟩; refine ⟨_, rfl, ?_⟩))
              go_ret
              exact ⟨by first | rfl | (simp [errW_none, errW_some] <;> rfl) | (simp [*, errW_none, errW_some] <;> rfl), by repeat (first | (with_reducible first | exact HB.out | apply below_alloc | apply pw_below_drewN | apply below_drew1 | refine below_set ?_ GE144.out) | exact HB.out)⟩
            · replace c25 := Bool.eq_false_iff.mpr c25
              subst c25
              have H1 : (some false) = some r := by rw [if_neg (show ¬ (false = true) by decide)] at H; exact H
              clear H
              have H := H1
              clear H1
              obtain rfl := Option.some.inj H
              have hcz27_0 : wc.cell? ⟨gb144, 0, none⟩ = some (.int .i64 a0_0) := (blk_cell BK144.out 0).trans rfl
              have hcz27_1 : wc.cell? ⟨gb144, 1, none⟩ = some (.int .i64 a0_1) := (blk_cell BK144.out 1).trans rfl
              have hcz27_2 : wc.cell? ⟨gb144, 2, none⟩ = some (.slice A0_2 l0_2.length c0_2) := (blk_cell BK144.out 2).trans rfl
              have hcz27_3 : wc.cell? ⟨gb144, 3, none⟩ = some (.int .i64 a0_3) := (blk_cell BK144.out 3).trans rfl
              have hcz27_4 : wc.cell? ⟨gb144, 4, none⟩ = some (.int .i64 a0_4) := (blk_cell BK144.out 4).trans rfl
              have hcz27_5 : wc.cell? ⟨gb144, 5, none⟩ = some (.int .i64 a0_5) := (blk_cell BK144.out 5).trans rfl
              have hcz27_6 : wc.cell? ⟨gb144, 6, none⟩ = some (.string a0_6) := (blk_cell BK144.out 6).trans rfl
              have hcz27_7 : wc.cell? ⟨gb144, 7, none⟩ = some (.slice A0_7 l0_7.length c0_7) := (blk_cell BK144.out 7).trans rfl
              have hfz27_0 := blk_frozen BK144.out 0
              have hfz27_1 := blk_frozen BK144.out 1
              have hfz27_2 := blk_frozen BK144.out 2
              have hfz27_3 := blk_frozen BK144.out 3
              have hfz27_4 := blk_frozen BK144.out 4
              have hfz27_5 := blk_frozen BK144.out 5
              have hfz27_6 := blk_frozen BK144.out 6
              have hfz27_7 := blk_frozen BK144.out 7
              go_wp2_with (first | ((with_reducible refine gate_callee (f := 41) rfl ?_); refine goesL_ (some 33) rfl rfl Tryd.func41 (by kernel_rfl) rfl #[.slice A0_2 l0_2.length c0_2] rfl (by (try simp only [List.map_toArray, List.map_cons, List.map_nil]); first | done | rfl | (simp only [List.length_drop, List.length_take]; rfl)) ?_; (with_reducible refine (impl_pairs.calls kj1 _ _ l0_2 false _ ?side1 ?side2 A24.out).mono ?_); (case side1 => repeat (first | exact (Kd.C_below HR0_2.out HB.out) | (with_reducible refine Kd.C_alloc ?_ _) | (with_reducible refine Kd.C_drewN ?_ _) | (with_reducible refine Kd.C_drew ?_))); (case side2 => exact HC0_2.out); rintro e w' ⟨rfl, ⟨nd, rfl⟩⟩; refine ⟨_, rfl, ?_⟩))
              go_ret
              exact ⟨by first | rfl | (simp [errW_none, errW_some] <;> rfl) | (simp [*, errW_none, errW_some] <;> rfl), by repeat (first | (with_reducible first | exact HB.out | apply below_alloc | apply pw_below_drewN | apply below_drew1 | refine below_set ?_ GE144.out) | exact HB.out)⟩
          · rw [if_neg c23] at H
            have c23b0 : (a0_0 == 4) = false := beq_eq_false_iff_ne.mpr c23
            have c23b1 : (a0_0 != 4) = true := bne_iff_ne.mpr c23
            by_cases c28 : a0_0 = 13
            · rw [if_pos c28] at H
              have c28b0 : (a0_0 == 13) = true := beq_iff_eq.mpr c28
              have c28b1 : (a0_0 != 13) = false := bne_eq_false_iff_eq.mpr c28
              clear c28
              by_cases c29 : a0_5 < 1
              · rw [if_pos c29] at H
                have c29b0 : decide (a0_5 < 1) = true := decide_eq_true c29
                clear c29
                obtain rfl := Option.some.inj H
                have hcz30_0 : wc.cell? ⟨gb144, 0, none⟩ = some (.int .i64 a0_0) := (blk_cell BK144.out 0).trans rfl
                have hcz30_1 : wc.cell? ⟨gb144, 1, none⟩ = some (.int .i64 a0_1) := (blk_cell BK144.out 1).trans rfl
                have hcz30_2 : wc.cell? ⟨gb144, 2, none⟩ = some (.slice A0_2 l0_2.length c0_2) := (blk_cell BK144.out 2).trans rfl
                have hcz30_3 : wc.cell? ⟨gb144, 3, none⟩ = some (.int .i64 a0_3) := (blk_cell BK144.out 3).trans rfl
                have hcz30_4 : wc.cell? ⟨gb144, 4, none⟩ = some (.int .i64 a0_4) := (blk_cell BK144.out 4).trans rfl
                have hcz30_5 : wc.cell? ⟨gb144, 5, none⟩ = some (.int .i64 a0_5) := (blk_cell BK144.out 5).trans rfl
                have hcz30_6 : wc.cell? ⟨gb144, 6, none⟩ = some (.string a0_6) := (blk_cell BK144.out 6).trans rfl
                have hcz30_7 : wc.cell? ⟨gb144, 7, none⟩ = some (.slice A0_7 l0_7.length c0_7) := (blk_cell BK144.out 7).trans rfl
                have hfz30_0 := blk_frozen BK144.out 0
                have hfz30_1 := blk_frozen BK144.out 1
                have hfz30_2 := blk_frozen BK144.out 2
                have hfz30_3 := blk_frozen BK144.out 3
                have hfz30_4 := blk_frozen BK144.out 4
                have hfz30_5 := blk_frozen BK144.out 5
                have hfz30_6 := blk_frozen BK144.out 6
                have hfz30_7 := blk_frozen BK144.out 7
                go_wp2
                go_ret
                exact ⟨by first | rfl | (simp [errW_none, errW_some] <;> rfl) | (simp [*, errW_none, errW_some] <;> rfl), by repeat (first | (with_reducible first | exact HB.out | apply below_alloc | apply pw_below_drewN | apply below_drew1 | refine below_set ?_ GE144.out) | exact HB.out)⟩
              · rw [if_neg c29] at H
                have c29b0 : decide (a0_5 < 1) = false := decide_eq_false c29
                clear c29
                by_cases c31 : a0_5 > 1000
                · rw [if_pos c31] at H
                  have c31b0 : decide (1000 < a0_5) = true := decide_eq_true c31
                  clear c31
                  obtain rfl := Option.some.inj H
                  have hcz32_0 : wc.cell? ⟨gb144, 0, none⟩ = some (.int .i64 a0_0) := (blk_cell BK144.out 0).trans rfl
                  have hcz32_1 : wc.cell? ⟨gb144, 1, none⟩ = some (.int .i64 a0_1) := (blk_cell BK144.out 1).trans rfl
                  have hcz32_2 : wc.cell? ⟨gb144, 2, none⟩ = some (.slice A0_2 l0_2.length c0_2) := (blk_cell BK144.out 2).trans rfl
                  have hcz32_3 : wc.cell? ⟨gb144, 3, none⟩ = some (.int .i64 a0_3) := (blk_cell BK144.out 3).trans rfl
                  have hcz32_4 : wc.cell? ⟨gb144, 4, none⟩ = some (.int .i64 a0_4) := (blk_cell BK144.out 4).trans rfl
                  have hcz32_5 : wc.cell? ⟨gb144, 5, none⟩ = some (.int .i64 a0_5) := (blk_cell BK144.out 5).trans rfl
                  have hcz32_6 : wc.cell? ⟨gb144, 6, none⟩ = some (.string a0_6) := (blk_cell BK144.out 6).trans rfl
                  have hcz32_7 : wc.cell? ⟨gb144, 7, none⟩ = some (.slice A0_7 l0_7.length c0_7) := (blk_cell BK144.out 7).trans rfl
                  have hfz32_0 := blk_frozen BK144.out 0
                  have hfz32_1 := blk_frozen BK144.out 1
                  have hfz32_2 := blk_frozen BK144.out 2
                  have hfz32_3 := blk_frozen BK144.out 3
                  have hfz32_4 := blk_frozen BK144.out 4
                  have hfz32_5 := blk_frozen BK144.out 5
                  have hfz32_6 := blk_frozen BK144.out 6
                  have hfz32_7 := blk_frozen BK144.out 7
                  go_wp2
                  go_ret
                  exact ⟨by first | rfl | (simp [errW_none, errW_some] <;> rfl) | (simp [*, errW_none, errW_some] <;> rfl), by repeat (first | (with_reducible first | exact HB.out | apply below_alloc | apply pw_below_drewN | apply below_drew1 | refine below_set ?_ GE144.out) | exact HB.out)⟩
                · rw [if_neg c31] at H
                  have c31b0 : decide (1000 < a0_5) = false := decide_eq_false c31
                  clear c31
                  obtain rfl := Option.some.inj H
                  have hcz33_0 : wc.cell? ⟨gb144, 0, none⟩ = some (.int .i64 a0_0) := (blk_cell BK144.out 0).trans rfl
                  have hcz33_1 : wc.cell? ⟨gb144, 1, none⟩ = some (.int .i64 a0_1) := (blk_cell BK144.out 1).trans rfl
                  have hcz33_2 : wc.cell? ⟨gb144, 2, none⟩ = some (.slice A0_2 l0_2.length c0_2) := (blk_cell BK144.out 2).trans rfl
                  have hcz33_3 : wc.cell? ⟨gb144, 3, none⟩ = some (.int .i64 a0_3) := (blk_cell BK144.out 3).trans rfl
                  have hcz33_4 : wc.cell? ⟨gb144, 4, none⟩ = some (.int .i64 a0_4) := (blk_cell BK144.out 4).trans rfl
                  have hcz33_5 : wc.cell? ⟨gb144, 5, none⟩ = some (.int .i64 a0_5) := (blk_cell BK144.out 5).trans rfl
                  have hcz33_6 : wc.cell? ⟨gb144, 6, none⟩ = some (.string a0_6) := (blk_cell BK144.out 6).trans rfl
                  have hcz33_7 : wc.cell? ⟨gb144, 7, none⟩ = some (.slice A0_7 l0_7.length c0_7) := (blk_cell BK144.out 7).trans rfl
                  have hfz33_0 := blk_frozen BK144.out 0
                  have hfz33_1 := blk_frozen BK144.out 1
                  have hfz33_2 := blk_frozen BK144.out 2
                  have hfz33_3 := blk_frozen BK144.out 3
                  have hfz33_4 := blk_frozen BK144.out 4
                  have hfz33_5 := blk_frozen BK144.out 5
                  have hfz33_6 := blk_frozen BK144.out 6
                  have hfz33_7 := blk_frozen BK144.out 7
                  go_wp2
                  go_ret
                  exact ⟨by first | rfl | (simp [errW_none, errW_some] <;> rfl) | (simp [*, errW_none, errW_some] <;> rfl), by repeat (first | (with_reducible first | exact HB.out | apply below_alloc | apply pw_below_drewN | apply below_drew1 | refine below_set ?_ GE144.out) | exact HB.out)⟩
            · rw [if_neg c28] at H
              have c28b0 : (a0_0 == 13) = false := beq_eq_false_iff_ne.mpr c28
              have c28b1 : (a0_0 != 13) = true := bne_iff_ne.mpr c28
              have HC34 := Aside0.mk H
              clear H
              go_upto_if 45 with (fail)
              go_cut [45] (fun v45 wc => ∃ (kq : Nat) (x45_33 : Bool), v45 = .bool x45_33 ∧ Aside0 (impl_sound.j1 kq a0_0 x45_33 a0_0 a0_1 l0_2 a0_3 a0_4 a0_5 a0_6 l0_7 = some r) ∧ Aside0 (kq ≤ kj1) ∧ Aside0 (wc.heap[gb144]? = some (.cells #[.int .i64 a0_0, .int .i64 a0_1, (.slice A0_2 l0_2.length c0_2), .int .i64 a0_3, .int .i64 a0_4, .int .i64 a0_5, .string a0_6, (.slice A0_7 l0_7.length c0_7)] 25 (0, 0))) ∧ Aside0 (Below w.heap.size w wc))
              case first =>
                have H := HC34.out
                clear HC34
                by_cases c35 : a0_0 = 14
                · rw [if_pos c35] at H
                  have c35b0 : (a0_0 == 14) = true := beq_iff_eq.mpr c35
                  have c35b1 : (a0_0 != 14) = false := bne_eq_false_iff_eq.mpr c35
                  clear c35
                  (first | rw [c35b0] | (simp only [i64_w, i32_w]; rw [c35b0]) | skip)
                  have H' := Aside0.mk H
                  clear H
                  go_wp2
                  go_meet
                  case rel => exact ⟨_, ((a0_0 == 14)), (by first | rfl | (simp; done) | (simp [*]; done)), H', ⟨by have := HJ1.out; first | omega | exact Nat.le_refl _⟩, ⟨by (with_reducible repeat (first | refine blk_drewN ?_ _ | refine blk_drew ?_ | refine blk_alloc ?_ _)); exact BK144.out⟩, ⟨by repeat (first | (with_reducible first | exact HB.out | apply below_alloc | apply pw_below_drewN | apply below_drew1 | refine below_set ?_ GE144.out) | exact HB.out)⟩⟩
                · rw [if_neg c35] at H
                  have c35b0 : (a0_0 == 14) = false := beq_eq_false_iff_ne.mpr c35
                  have c35b1 : (a0_0 != 14) = true := bne_iff_ne.mpr c35
                  (first | rw [c35b0] | (simp only [i64_w, i32_w]; rw [c35b0]) | skip)
                  by_cases c36 : a0_0 = 15
                  · rw [if_pos c36] at H
                    have c36b0 : (a0_0 == 15) = true := beq_iff_eq.mpr c36
                    have c36b1 : (a0_0 != 15) = false := bne_eq_false_iff_eq.mpr c36
                    clear c36
                    have H' := Aside0.mk H
                    clear H
                    go_wp2
                    go_meet
                    case rel => exact ⟨_, ((a0_0 == 15)), (by first | rfl | (simp; done) | (simp [*]; done)), H', ⟨by have := HJ1.out; first | omega | exact Nat.le_refl _⟩, ⟨by (with_reducible repeat (first | refine blk_drewN ?_ _ | refine blk_drew ?_ | refine blk_alloc ?_ _)); exact BK144.out⟩, ⟨by repeat (first | (with_reducible first | exact HB.out | apply below_alloc | apply pw_below_drewN | apply below_drew1 | refine below_set ?_ GE144.out) | exact HB.out)⟩⟩
                  · rw [if_neg c36] at H
                    have c36b0 : (a0_0 == 15) = false := beq_eq_false_iff_ne.mpr c36
                    have c36b1 : (a0_0 != 15) = true := bne_iff_ne.mpr c36
                    have H' := Aside0.mk H
                    clear H
                    go_wp2
                    go_meet
                    case rel => exact ⟨_, ((a0_0 == 16)), (by first | rfl | (simp; done) | (simp [*]; done)), H', ⟨by have := HJ1.out; first | omega | exact Nat.le_refl _⟩, ⟨by (with_reducible repeat (first | refine blk_drewN ?_ _ | refine blk_drew ?_ | refine blk_alloc ?_ _)); exact BK144.out⟩, ⟨by repeat (first | (with_reducible first | exact HB.out | apply below_alloc | apply pw_below_drewN | apply below_drew1 | refine below_set ?_ GE144.out) | exact HB.out)⟩⟩
              case rest =>
                clear HC34
                try clear c1
                try clear c2
                try clear p2
                try clear c3
                try clear c4
                try clear c5
                try clear c5b0
                try clear c5b1
                try clear c6
                try clear c6b0
                try clear c6b1
                try clear c7
                try clear c7b0
                try clear c7b1
                try clear c8
                try clear c8b0
                try clear c8b1
                try clear c9
                try clear c9b0
                try clear c9b1
                try clear c10
                try clear c10b0
                try clear c10b1
                try clear c11
                try clear c11b0
                try clear c11b1
                try clear c12
                try clear c12b0
                try clear c12b1
                try clear c13
                try clear c13b0
                try clear c13b1
                try clear c14
                try clear c16
                try clear c16b0
                try clear c16b1
                try clear c17
                try clear c17b0
                try clear c17b1
                try clear c17b2
                try clear c20
                try clear c23
                try clear c23b0
                try clear c23b1
                try clear c25
                try clear c28
                try clear c28b0
                try clear c28b1
                try clear c29
                try clear c29b0
                try clear c31
                try clear c31b0
                try clear c35
                try clear c35b0
                try clear c35b1
                try clear c36
                try clear c36b0
                try clear c36b1
                try clear hcz15_0
                try clear hcz15_1
                try clear hcz15_2
                try clear hcz15_3
                try clear hcz15_4
                try clear hcz15_5
                try clear hcz15_6
                try clear hcz15_7
                try clear hcz18_0
                try clear hcz18_1
                try clear hcz18_2
                try clear hcz18_3
                try clear hcz18_4
                try clear hcz18_5
                try clear hcz18_6
                try clear hcz18_7
                try clear hcz21_0
                try clear hcz21_1
                try clear hcz21_2
                try clear hcz21_3
                try clear hcz21_4
                try clear hcz21_5
                try clear hcz21_6
                try clear hcz21_7
                try clear hcz22_0
                try clear hcz22_1
                try clear hcz22_2
                try clear hcz22_3
                try clear hcz22_4
                try clear hcz22_5
                try clear hcz22_6
                try clear hcz22_7
                try clear hcz26_0
                try clear hcz26_1
                try clear hcz26_2
                try clear hcz26_3
                try clear hcz26_4
                try clear hcz26_5
                try clear hcz26_6
                try clear hcz26_7
                try clear hcz27_0
                try clear hcz27_1
                try clear hcz27_2
                try clear hcz27_3
                try clear hcz27_4
                try clear hcz27_5
                try clear hcz27_6
                try clear hcz27_7
                try clear hcz30_0
                try clear hcz30_1
                try clear hcz30_2
                try clear hcz30_3
                try clear hcz30_4
                try clear hcz30_5
                try clear hcz30_6
                try clear hcz30_7
                try clear hcz32_0
                try clear hcz32_1
                try clear hcz32_2
                try clear hcz32_3
                try clear hcz32_4
                try clear hcz32_5
                try clear hcz32_6
                try clear hcz32_7
                try clear hcz33_0
                try clear hcz33_1
                try clear hcz33_2
                try clear hcz33_3
                try clear hcz33_4
                try clear hcz33_5
                try clear hcz33_6
                try clear hcz33_7
                try clear hcz4_0
                try clear hcz4_1
                try clear hcz4_2
                try clear hcz4_3
                try clear hcz4_4
                try clear hcz4_5
                try clear hcz4_6
                try clear hcz4_7
                try clear hfz15_0
                try clear hfz15_1
                try clear hfz15_2
                try clear hfz15_3
                try clear hfz15_4
                try clear hfz15_5
                try clear hfz15_6
                try clear hfz15_7
                try clear hfz18_0
                try clear hfz18_1
                try clear hfz18_2
                try clear hfz18_3
                try clear hfz18_4
                try clear hfz18_5
                try clear hfz18_6
                try clear hfz18_7
                try clear hfz21_0
                try clear hfz21_1
                try clear hfz21_2
                try clear hfz21_3
                try clear hfz21_4
                try clear hfz21_5
                try clear hfz21_6
                try clear hfz21_7
                try clear hfz22_0
                try clear hfz22_1
                try clear hfz22_2
                try clear hfz22_3
                try clear hfz22_4
                try clear hfz22_5
                try clear hfz22_6
                try clear hfz22_7
                try clear hfz26_0
                try clear hfz26_1
                try clear hfz26_2
                try clear hfz26_3
                try clear hfz26_4
                try clear hfz26_5
                try clear hfz26_6
                try clear hfz26_7
                try clear hfz27_0
                try clear hfz27_1
                try clear hfz27_2
                try clear hfz27_3
                try clear hfz27_4
                try clear hfz27_5
                try clear hfz27_6
                try clear hfz27_7
                try clear hfz30_0
                try clear hfz30_1
                try clear hfz30_2
                try clear hfz30_3
                try clear hfz30_4
                try clear hfz30_5
                try clear hfz30_6
                try clear hfz30_7
                try clear hfz32_0
                try clear hfz32_1
                try clear hfz32_2
                try clear hfz32_3
                try clear hfz32_4
                try clear hfz32_5
                try clear hfz32_6
                try clear hfz32_7
                try clear hfz33_0
                try clear hfz33_1
                try clear hfz33_2
                try clear hfz33_3
                try clear hfz33_4
                try clear hfz33_5
                try clear hfz33_6
                try clear hfz33_7
                try clear hfz4_0
                try clear hfz4_1
                try clear hfz4_2
                try clear hfz4_3
                try clear hfz4_4
                try clear hfz4_5
                try clear hfz4_6
                try clear hfz4_7
                try clear p2
                obtain ⟨kq, x45_33, rfl, HA, HJ33, BK144, HB⟩ := hcut
                cases kq with
                | zero => exact absurd HA.out (by simp [impl_sound.j1])
                | succ kj33 =>
                  have H := HA.out
                  clear HA
                  simp only [impl_sound.j1] at H
                  by_cases c37 : x45_33 = true
                  · subst c37
                    have H1 : (some ((l0_7.length : Int) == 1)) = some r := by rw [if_pos rfl] at H; exact H
                    clear H
                    have H := H1
                    clear H1
                    obtain rfl := Option.some.inj H
                    have hcz38_0 : wc.cell? ⟨gb144, 0, none⟩ = some (.int .i64 a0_0) := (blk_cell BK144.out 0).trans rfl
                    have hcz38_1 : wc.cell? ⟨gb144, 1, none⟩ = some (.int .i64 a0_1) := (blk_cell BK144.out 1).trans rfl
                    have hcz38_2 : wc.cell? ⟨gb144, 2, none⟩ = some (.slice A0_2 l0_2.length c0_2) := (blk_cell BK144.out 2).trans rfl
                    have hcz38_3 : wc.cell? ⟨gb144, 3, none⟩ = some (.int .i64 a0_3) := (blk_cell BK144.out 3).trans rfl
                    have hcz38_4 : wc.cell? ⟨gb144, 4, none⟩ = some (.int .i64 a0_4) := (blk_cell BK144.out 4).trans rfl
                    have hcz38_5 : wc.cell? ⟨gb144, 5, none⟩ = some (.int .i64 a0_5) := (blk_cell BK144.out 5).trans rfl
                    have hcz38_6 : wc.cell? ⟨gb144, 6, none⟩ = some (.string a0_6) := (blk_cell BK144.out 6).trans rfl
                    have hcz38_7 : wc.cell? ⟨gb144, 7, none⟩ = some (.slice A0_7 l0_7.length c0_7) := (blk_cell BK144.out 7).trans rfl
                    have hfz38_0 := blk_frozen BK144.out 0
                    have hfz38_1 := blk_frozen BK144.out 1
                    have hfz38_2 := blk_frozen BK144.out 2
                    have hfz38_3 := blk_frozen BK144.out 3
                    have hfz38_4 := blk_frozen BK144.out 4
                    have hfz38_5 := blk_frozen BK144.out 5
                    have hfz38_6 := blk_frozen BK144.out 6
                    have hfz38_7 := blk_frozen BK144.out 7
                    go_wp2
                    go_ret
                    exact ⟨by first | rfl | (simp [errW_none, errW_some] <;> rfl) | (simp [*, errW_none, errW_some] <;> rfl), by repeat (first | (with_reducible first | exact HB.out | apply below_alloc | apply pw_below_drewN | apply below_drew1 | refine below_set ?_ GE144.out) | exact HB.out)⟩
                  · replace c37 := Bool.eq_false_iff.mpr c37
                    subst c37
                    have H1 : (if a0_0 = 17 then (if a0_3 < 0 then (some false) else (if a0_4 < (-1) then (some false) else (if a0_4 ≥ 0 then (if a0_3 > a0_4 then (some false) else (if a0_3 > 1000 then (some false) else (if a0_4 > 1000 then (some false) else (some ((l0_7.length : Int) == 1))))) else (if a0_3 > 1000 then (some false) else (if a0_4 > 1000 then (some false) else (some ((l0_7.length : Int) == 1))))))) else (if a0_0 = 18 then (some true) else (if a0_0 = 19 then (some (decide ((l0_7.length : Int) > 0))) else (some false)))) = some r := by rw [if_neg (show ¬ (false = true) by decide)] at H; exact H
                    clear H
                    have H := H1
                    clear H1
                    by_cases c39 : a0_0 = 17
                    · rw [if_pos c39] at H
                      have c39b0 : (a0_0 == 17) = true := beq_iff_eq.mpr c39
                      have c39b1 : (a0_0 != 17) = false := bne_eq_false_iff_eq.mpr c39
                      clear c39
                      by_cases c40 : a0_3 < 0
                      · rw [if_pos c40] at H
                        have c40b0 : decide (a0_3 < 0) = true := decide_eq_true c40
                        clear c40
                        obtain rfl := Option.some.inj H
                        have hcz41_0 : wc.cell? ⟨gb144, 0, none⟩ = some (.int .i64 a0_0) := (blk_cell BK144.out 0).trans rfl
                        have hcz41_1 : wc.cell? ⟨gb144, 1, none⟩ = some (.int .i64 a0_1) := (blk_cell BK144.out 1).trans rfl
                        have hcz41_2 : wc.cell? ⟨gb144, 2, none⟩ = some (.slice A0_2 l0_2.length c0_2) := (blk_cell BK144.out 2).trans rfl
                        have hcz41_3 : wc.cell? ⟨gb144, 3, none⟩ = some (.int .i64 a0_3) := (blk_cell BK144.out 3).trans rfl
                        have hcz41_4 : wc.cell? ⟨gb144, 4, none⟩ = some (.int .i64 a0_4) := (blk_cell BK144.out 4).trans rfl
                        have hcz41_5 : wc.cell? ⟨gb144, 5, none⟩ = some (.int .i64 a0_5) := (blk_cell BK144.out 5).trans rfl
                        have hcz41_6 : wc.cell? ⟨gb144, 6, none⟩ = some (.string a0_6) := (blk_cell BK144.out 6).trans rfl
                        have hcz41_7 : wc.cell? ⟨gb144, 7, none⟩ = some (.slice A0_7 l0_7.length c0_7) := (blk_cell BK144.out 7).trans rfl
                        have hfz41_0 := blk_frozen BK144.out 0
                        have hfz41_1 := blk_frozen BK144.out 1
                        have hfz41_2 := blk_frozen BK144.out 2
                        have hfz41_3 := blk_frozen BK144.out 3
                        have hfz41_4 := blk_frozen BK144.out 4
                        have hfz41_5 := blk_frozen BK144.out 5
                        have hfz41_6 := blk_frozen BK144.out 6
                        have hfz41_7 := blk_frozen BK144.out 7
                        go_wp2
                        go_ret
                        exact ⟨by first | rfl | (simp [errW_none, errW_some] <;> rfl) | (simp [*, errW_none, errW_some] <;> rfl), by repeat (first | (with_reducible first | exact HB.out | apply below_alloc | apply pw_below_drewN | apply below_drew1 | refine below_set ?_ GE144.out) | exact HB.out)⟩
                      · rw [if_neg c40] at H
                        have c40b0 : decide (a0_3 < 0) = false := decide_eq_false c40
                        clear c40
                        by_cases c42 : a0_4 < (-1)
                        · rw [if_pos c42] at H
                          have c42b0 : decide (a0_4 < (-1)) = true := decide_eq_true c42
                          clear c42
                          obtain rfl := Option.some.inj H
                          have hcz43_0 : wc.cell? ⟨gb144, 0, none⟩ = some (.int .i64 a0_0) := (blk_cell BK144.out 0).trans rfl
                          have hcz43_1 : wc.cell? ⟨gb144, 1, none⟩ = some (.int .i64 a0_1) := (blk_cell BK144.out 1).trans rfl
                          have hcz43_2 : wc.cell? ⟨gb144, 2, none⟩ = some (.slice A0_2 l0_2.length c0_2) := (blk_cell BK144.out 2).trans rfl
                          have hcz43_3 : wc.cell? ⟨gb144, 3, none⟩ = some (.int .i64 a0_3) := (blk_cell BK144.out 3).trans rfl
                          have hcz43_4 : wc.cell? ⟨gb144, 4, none⟩ = some (.int .i64 a0_4) := (blk_cell BK144.out 4).trans rfl
                          have hcz43_5 : wc.cell? ⟨gb144, 5, none⟩ = some (.int .i64 a0_5) := (blk_cell BK144.out 5).trans rfl
                          have hcz43_6 : wc.cell? ⟨gb144, 6, none⟩ = some (.string a0_6) := (blk_cell BK144.out 6).trans rfl
                          have hcz43_7 : wc.cell? ⟨gb144, 7, none⟩ = some (.slice A0_7 l0_7.length c0_7) := (blk_cell BK144.out 7).trans rfl
                          have hfz43_0 := blk_frozen BK144.out 0
                          have hfz43_1 := blk_frozen BK144.out 1
                          have hfz43_2 := blk_frozen BK144.out 2
                          have hfz43_3 := blk_frozen BK144.out 3
                          have hfz43_4 := blk_frozen BK144.out 4
                          have hfz43_5 := blk_frozen BK144.out 5
                          have hfz43_6 := blk_frozen BK144.out 6
                          have hfz43_7 := blk_frozen BK144.out 7
                          go_wp2
                          go_ret
                          exact ⟨by first | rfl | (simp [errW_none, errW_some] <;> rfl) | (simp [*, errW_none, errW_some] <;> rfl), by repeat (first | (with_reducible first | exact HB.out | apply below_alloc | apply pw_below_drewN | apply below_drew1 | refine below_set ?_ GE144.out) | exact HB.out)⟩
                        · rw [if_neg c42] at H
                          have c42b0 : decide (a0_4 < (-1)) = false := decide_eq_false c42
                          clear c42
                          by_cases c44 : a0_4 ≥ 0
                          · rw [if_pos c44] at H
                            have c44b0 : decide (0 ≤ a0_4) = true := decide_eq_true c44
                            clear c44
                            by_cases c45 : a0_3 > a0_4
                            · rw [if_pos c45] at H
                              have c45b0 : decide (a0_4 < a0_3) = true := decide_eq_true c45
                              clear c45
                              obtain rfl := Option.some.inj H
                              have hcz46_0 : wc.cell? ⟨gb144, 0, none⟩ = some (.int .i64 a0_0) := (blk_cell BK144.out 0).trans rfl
                              have hcz46_1 : wc.cell? ⟨gb144, 1, none⟩ = some (.int .i64 a0_1) := (blk_cell BK144.out 1).trans rfl
                              have hcz46_2 : wc.cell? ⟨gb144, 2, none⟩ = some (.slice A0_2 l0_2.length c0_2) := (blk_cell BK144.out 2).trans rfl
                              have hcz46_3 : wc.cell? ⟨gb144, 3, none⟩ = some (.int .i64 a0_3) := (blk_cell BK144.out 3).trans rfl
                              have hcz46_4 : wc.cell? ⟨gb144, 4, none⟩ = some (.int .i64 a0_4) := (blk_cell BK144.out 4).trans rfl
                              have hcz46_5 : wc.cell? ⟨gb144, 5, none⟩ = some (.int .i64 a0_5) := (blk_cell BK144.out 5).trans rfl
                              have hcz46_6 : wc.cell? ⟨gb144, 6, none⟩ = some (.string a0_6) := (blk_cell BK144.out 6).trans rfl
                              have hcz46_7 : wc.cell? ⟨gb144, 7, none⟩ = some (.slice A0_7 l0_7.length c0_7) := (blk_cell BK144.out 7).trans rfl
                              have hfz46_0 := blk_frozen BK144.out 0
                              have hfz46_1 := blk_frozen BK144.out 1
                              have hfz46_2 := blk_frozen BK144.out 2
                              have hfz46_3 := blk_frozen BK144.out 3
                              have hfz46_4 := blk_frozen BK144.out 4
                              have hfz46_5 := blk_frozen BK144.out 5
                              have hfz46_6 := blk_frozen BK144.out 6
                              have hfz46_7 := blk_frozen BK144.out 7
                              go_wp2
                              go_ret
                              exact ⟨by first | rfl | (simp [errW_none, errW_some] <;> rfl) | (simp [*, errW_none, errW_some] <;> rfl), by repeat (first | (with_reducible first | exact HB.out | apply below_alloc | apply pw_below_drewN | apply below_drew1 | refine below_set ?_ GE144.out) | exact HB.out)⟩
                            · rw [if_neg c45] at H
                              have c45b0 : decide (a0_4 < a0_3) = false := decide_eq_false c45
                              clear c45
                              by_cases c47 : a0_3 > 1000
                              · rw [if_pos c47] at H
                                have c47b0 : decide (1000 < a0_3) = true := decide_eq_true c47
                                clear c47
                                obtain rfl := Option.some.inj H
                                have hcz48_0 : wc.cell? ⟨gb144, 0, none⟩ = some (.int .i64 a0_0) := (blk_cell BK144.out 0).trans rfl
                                have hcz48_1 : wc.cell? ⟨gb144, 1, none⟩ = some (.int .i64 a0_1) := (blk_cell BK144.out 1).trans rfl
                                have hcz48_2 : wc.cell? ⟨gb144, 2, none⟩ = some (.slice A0_2 l0_2.length c0_2) := (blk_cell BK144.out 2).trans rfl
                                have hcz48_3 : wc.cell? ⟨gb144, 3, none⟩ = some (.int .i64 a0_3) := (blk_cell BK144.out 3).trans rfl
                                have hcz48_4 : wc.cell? ⟨gb144, 4, none⟩ = some (.int .i64 a0_4) := (blk_cell BK144.out 4).trans rfl
                                have hcz48_5 : wc.cell? ⟨gb144, 5, none⟩ = some (.int .i64 a0_5) := (blk_cell BK144.out 5).trans rfl
                                have hcz48_6 : wc.cell? ⟨gb144, 6, none⟩ = some (.string a0_6) := (blk_cell BK144.out 6).trans rfl
                                have hcz48_7 : wc.cell? ⟨gb144, 7, none⟩ = some (.slice A0_7 l0_7.length c0_7) := (blk_cell BK144.out 7).trans rfl
                                have hfz48_0 := blk_frozen BK144.out 0
                                have hfz48_1 := blk_frozen BK144.out 1
                                have hfz48_2 := blk_frozen BK144.out 2
                                have hfz48_3 := blk_frozen BK144.out 3
                                have hfz48_4 := blk_frozen BK144.out 4
                                have hfz48_5 := blk_frozen BK144.out 5
                                have hfz48_6 := blk_frozen BK144.out 6
                                have hfz48_7 := blk_frozen BK144.out 7
                                go_wp2
                                go_ret
                                exact ⟨by first | rfl | (simp [errW_none, errW_some] <;> rfl) | (simp [*, errW_none, errW_some] <;> rfl), by repeat (first | (with_reducible first | exact HB.out | apply below_alloc | apply pw_below_drewN | apply below_drew1 | refine below_set ?_ GE144.out) | exact HB.out)⟩
                              · rw [if_neg c47] at H
                                have c47b0 : decide (1000 < a0_3) = false := decide_eq_false c47
                                clear c47
                                by_cases c49 : a0_4 > 1000
                                · rw [if_pos c49] at H
                                  have c49b0 : decide (1000 < a0_4) = true := decide_eq_true c49
                                  clear c49
                                  obtain rfl := Option.some.inj H
                                  have hcz50_0 : wc.cell? ⟨gb144, 0, none⟩ = some (.int .i64 a0_0) := (blk_cell BK144.out 0).trans rfl
                                  have hcz50_1 : wc.cell? ⟨gb144, 1, none⟩ = some (.int .i64 a0_1) := (blk_cell BK144.out 1).trans rfl
                                  have hcz50_2 : wc.cell? ⟨gb144, 2, none⟩ = some (.slice A0_2 l0_2.length c0_2) := (blk_cell BK144.out 2).trans rfl
                                  have hcz50_3 : wc.cell? ⟨gb144, 3, none⟩ = some (.int .i64 a0_3) := (blk_cell BK144.out 3).trans rfl
                                  have hcz50_4 : wc.cell? ⟨gb144, 4, none⟩ = some (.int .i64 a0_4) := (blk_cell BK144.out 4).trans rfl
                                  have hcz50_5 : wc.cell? ⟨gb144, 5, none⟩ = some (.int .i64 a0_5) := (blk_cell BK144.out 5).trans rfl
                                  have hcz50_6 : wc.cell? ⟨gb144, 6, none⟩ = some (.string a0_6) := (blk_cell BK144.out 6).trans rfl
                                  have hcz50_7 : wc.cell? ⟨gb144, 7, none⟩ = some (.slice A0_7 l0_7.length c0_7) := (blk_cell BK144.out 7).trans rfl
                                  have hfz50_0 := blk_frozen BK144.out 0
                                  have hfz50_1 := blk_frozen BK144.out 1
                                  have hfz50_2 := blk_frozen BK144.out 2
                                  have hfz50_3 := blk_frozen BK144.out 3
                                  have hfz50_4 := blk_frozen BK144.out 4
                                  have hfz50_5 := blk_frozen BK144.out 5
                                  have hfz50_6 := blk_frozen BK144.out 6
                                  have hfz50_7 := blk_frozen BK144.out 7
                                  go_wp2
                                  go_ret
                                  exact ⟨by first | rfl | (simp [errW_none, errW_some] <;> rfl) | (simp [*, errW_none, errW_some] <;> rfl), by repeat (first | (with_reducible first | exact HB.out | apply below_alloc | apply pw_below_drewN | apply below_drew1 | refine below_set ?_ GE144.out) | exact HB.out)⟩
                                · rw [if_neg c49] at H
                                  have c49b0 : decide (1000 < a0_4) = false := decide_eq_false c49
                                  clear c49
                                  obtain rfl := Option.some.inj H
                                  have hcz51_0 : wc.cell? ⟨gb144, 0, none⟩ = some (.int .i64 a0_0) := (blk_cell BK144.out 0).trans rfl
                                  have hcz51_1 : wc.cell? ⟨gb144, 1, none⟩ = some (.int .i64 a0_1) := (blk_cell BK144.out 1).trans rfl
                                  have hcz51_2 : wc.cell? ⟨gb144, 2, none⟩ = some (.slice A0_2 l0_2.length c0_2) := (blk_cell BK144.out 2).trans rfl
                                  have hcz51_3 : wc.cell? ⟨gb144, 3, none⟩ = some (.int .i64 a0_3) := (blk_cell BK144.out 3).trans rfl
                                  have hcz51_4 : wc.cell? ⟨gb144, 4, none⟩ = some (.int .i64 a0_4) := (blk_cell BK144.out 4).trans rfl
                                  have hcz51_5 : wc.cell? ⟨gb144, 5, none⟩ = some (.int .i64 a0_5) := (blk_cell BK144.out 5).trans rfl
                                  have hcz51_6 : wc.cell? ⟨gb144, 6, none⟩ = some (.string a0_6) := (blk_cell BK144.out 6).trans rfl
                                  have hcz51_7 : wc.cell? ⟨gb144, 7, none⟩ = some (.slice A0_7 l0_7.length c0_7) := (blk_cell BK144.out 7).trans rfl
                                  have hfz51_0 := blk_frozen BK144.out 0
                                  have hfz51_1 := blk_frozen BK144.out 1
                                  have hfz51_2 := blk_frozen BK144.out 2
                                  have hfz51_3 := blk_frozen BK144.out 3
                                  have hfz51_4 := blk_frozen BK144.out 4
                                  have hfz51_5 := blk_frozen BK144.out 5
                                  have hfz51_6 := blk_frozen BK144.out 6
                                  have hfz51_7 := blk_frozen BK144.out 7
                                  go_wp2
                                  go_ret
                                  exact ⟨by first | rfl | (simp [errW_none, errW_some] <;> rfl) | (simp [*, errW_none, errW_some] <;> rfl), by repeat (first | (with_reducible first | exact HB.out | apply below_alloc | apply pw_below_drewN | apply below_drew1 | refine below_set ?_ GE144.out) | exact HB.out)⟩
                          · rw [if_neg c44] at H
                            have c44b0 : decide (0 ≤ a0_4) = false := decide_eq_false c44
                            clear c44
                            by_cases c52 : a0_3 > 1000
                            · rw [if_pos c52] at H
                              have c52b0 : decide (1000 < a0_3) = true := decide_eq_true c52
                              clear c52
                              obtain rfl := Option.some.inj H
                              have hcz53_0 : wc.cell? ⟨gb144, 0, none⟩ = some (.int .i64 a0_0) := (blk_cell BK144.out 0).trans rfl
                              have hcz53_1 : wc.cell? ⟨gb144, 1, none⟩ = some (.int .i64 a0_1) := (blk_cell BK144.out 1).trans rfl
                              have hcz53_2 : wc.cell? ⟨gb144, 2, none⟩ = some (.slice A0_2 l0_2.length c0_2) := (blk_cell BK144.out 2).trans rfl
                              have hcz53_3 : wc.cell? ⟨gb144, 3, none⟩ = some (.int .i64 a0_3) := (blk_cell BK144.out 3).trans rfl
                              have hcz53_4 : wc.cell? ⟨gb144, 4, none⟩ = some (.int .i64 a0_4) := (blk_cell BK144.out 4).trans rfl
                              have hcz53_5 : wc.cell? ⟨gb144, 5, none⟩ = some (.int .i64 a0_5) := (blk_cell BK144.out 5).trans rfl
                              have hcz53_6 : wc.cell? ⟨gb144, 6, none⟩ = some (.string a0_6) := (blk_cell BK144.out 6).trans rfl
                              have hcz53_7 : wc.cell? ⟨gb144, 7, none⟩ = some (.slice A0_7 l0_7.length c0_7) := (blk_cell BK144.out 7).trans rfl
                              have hfz53_0 := blk_frozen BK144.out 0
                              have hfz53_1 := blk_frozen BK144.out 1
                              have hfz53_2 := blk_frozen BK144.out 2
                              have hfz53_3 := blk_frozen BK144.out 3
                              have hfz53_4 := blk_frozen BK144.out 4
                              have hfz53_5 := blk_frozen BK144.out 5
                              have hfz53_6 := blk_frozen BK144.out 6
                              have hfz53_7 := blk_frozen BK144.out 7
                              go_wp2
                              go_ret
                              exact ⟨by first | rfl | (simp [errW_none, errW_some] <;> rfl) | (simp [*, errW_none, errW_some] <;> rfl), by repeat (first | (with_reducible first | exact HB.out | apply below_alloc | apply pw_below_drewN | apply below_drew1 | refine below_set ?_ GE144.out) | exact HB.out)⟩
                            · rw [if_neg c52] at H
                              have c52b0 : decide (1000 < a0_3) = false := decide_eq_false c52
                              clear c52
                              by_cases c54 : a0_4 > 1000
                              · rw [if_pos c54] at H
                                have c54b0 : decide (1000 < a0_4) = true := decide_eq_true c54
                                clear c54
                                obtain rfl := Option.some.inj H
                                have hcz55_0 : wc.cell? ⟨gb144, 0, none⟩ = some (.int .i64 a0_0) := (blk_cell BK144.out 0).trans rfl
                                have hcz55_1 : wc.cell? ⟨gb144, 1, none⟩ = some (.int .i64 a0_1) := (blk_cell BK144.out 1).trans rfl
                                have hcz55_2 : wc.cell? ⟨gb144, 2, none⟩ = some (.slice A0_2 l0_2.length c0_2) := (blk_cell BK144.out 2).trans rfl
                                have hcz55_3 : wc.cell? ⟨gb144, 3, none⟩ = some (.int .i64 a0_3) := (blk_cell BK144.out 3).trans rfl
                                have hcz55_4 : wc.cell? ⟨gb144, 4, none⟩ = some (.int .i64 a0_4) := (blk_cell BK144.out 4).trans rfl
                                have hcz55_5 : wc.cell? ⟨gb144, 5, none⟩ = some (.int .i64 a0_5) := (blk_cell BK144.out 5).trans rfl
                                have hcz55_6 : wc.cell? ⟨gb144, 6, none⟩ = some (.string a0_6) := (blk_cell BK144.out 6).trans rfl
                                have hcz55_7 : wc.cell? ⟨gb144, 7, none⟩ = some (.slice A0_7 l0_7.length c0_7) := (blk_cell BK144.out 7).trans rfl
                                have hfz55_0 := blk_frozen BK144.out 0
                                have hfz55_1 := blk_frozen BK144.out 1
                                have hfz55_2 := blk_frozen BK144.out 2
                                have hfz55_3 := blk_frozen BK144.out 3
                                have hfz55_4 := blk_frozen BK144.out 4
                                have hfz55_5 := blk_frozen BK144.out 5
                                have hfz55_6 := blk_frozen BK144.out 6
                                have hfz55_7 := blk_frozen BK144.out 7
                                go_wp2
                                go_ret
                                exact ⟨by first | rfl | (simp [errW_none, errW_some] <;> rfl) | (simp [*, errW_none, errW_some] <;> rfl), by repeat (first | (with_reducible first | exact HB.out | apply below_alloc | apply pw_below_drewN | apply below_drew1 | refine below_set ?_ GE144.out) | exact HB.out)⟩
                              · rw [if_neg c54] at H
                                have c54b0 : decide (1000 < a0_4) = false := decide_eq_false c54
                                clear c54
                                obtain rfl := Option.some.inj H
                                have hcz56_0 : wc.cell? ⟨gb144, 0, none⟩ = some (.int .i64 a0_0) := (blk_cell BK144.out 0).trans rfl
                                have hcz56_1 : wc.cell? ⟨gb144, 1, none⟩ = some (.int .i64 a0_1) := (blk_cell BK144.out 1).trans rfl
                                have hcz56_2 : wc.cell? ⟨gb144, 2, none⟩ = some (.slice A0_2 l0_2.length c0_2) := (blk_cell BK144.out 2).trans rfl
                                have hcz56_3 : wc.cell? ⟨gb144, 3, none⟩ = some (.int .i64 a0_3) := (blk_cell BK144.out 3).trans rfl
                                have hcz56_4 : wc.cell? ⟨gb144, 4, none⟩ = some (.int .i64 a0_4) := (blk_cell BK144.out 4).trans rfl
                                have hcz56_5 : wc.cell? ⟨gb144, 5, none⟩ = some (.int .i64 a0_5) := (blk_cell BK144.out 5).trans rfl
                                have hcz56_6 : wc.cell? ⟨gb144, 6, none⟩ = some (.string a0_6) := (blk_cell BK144.out 6).trans rfl
                                have hcz56_7 : wc.cell? ⟨gb144, 7, none⟩ = some (.slice A0_7 l0_7.length c0_7) := (blk_cell BK144.out 7).trans rfl
                                have hfz56_0 := blk_frozen BK144.out 0
                                have hfz56_1 := blk_frozen BK144.out 1
                                have hfz56_2 := blk_frozen BK144.out 2
                                have hfz56_3 := blk_frozen BK144.out 3
                                have hfz56_4 := blk_frozen BK144.out 4
                                have hfz56_5 := blk_frozen BK144.out 5
                                have hfz56_6 := blk_frozen BK144.out 6
                                have hfz56_7 := blk_frozen BK144.out 7
                                go_wp2
                                go_ret
                                exact ⟨by first | rfl | (simp [errW_none, errW_some] <;> rfl) | (simp [*, errW_none, errW_some] <;> rfl), by repeat (first | (with_reducible first | exact HB.out | apply below_alloc | apply pw_below_drewN | apply below_drew1 | refine below_set ?_ GE144.out) | exact HB.out)⟩
                    · rw [if_neg c39] at H
                      have c39b0 : (a0_0 == 17) = false := beq_eq_false_iff_ne.mpr c39
                      have c39b1 : (a0_0 != 17) = true := bne_iff_ne.mpr c39
                      by_cases c57 : a0_0 = 18
                      · rw [if_pos c57] at H
                        have c57b0 : (a0_0 == 18) = true := beq_iff_eq.mpr c57
                        have c57b1 : (a0_0 != 18) = false := bne_eq_false_iff_eq.mpr c57
                        clear c57
                        obtain rfl := Option.some.inj H
                        go_wp2
                        go_ret
                        exact ⟨by first | rfl | (simp [errW_none, errW_some] <;> rfl) | (simp [*, errW_none, errW_some] <;> rfl), by repeat (first | (with_reducible first | exact HB.out | apply below_alloc | apply pw_below_drewN | apply below_drew1 | refine below_set ?_ GE144.out) | exact HB.out)⟩
                      · rw [if_neg c57] at H
                        have c57b0 : (a0_0 == 18) = false := beq_eq_false_iff_ne.mpr c57
                        have c57b1 : (a0_0 != 18) = true := bne_iff_ne.mpr c57
                        by_cases c58 : a0_0 = 19
                        · rw [if_pos c58] at H
                          have c58b0 : (a0_0 == 19) = true := beq_iff_eq.mpr c58
                          have c58b1 : (a0_0 != 19) = false := bne_eq_false_iff_eq.mpr c58
                          clear c58
                          obtain rfl := Option.some.inj H
                          have hcz59_0 : wc.cell? ⟨gb144, 0, none⟩ = some (.int .i64 a0_0) := (blk_cell BK144.out 0).trans rfl
                          have hcz59_1 : wc.cell? ⟨gb144, 1, none⟩ = some (.int .i64 a0_1) := (blk_cell BK144.out 1).trans rfl
                          have hcz59_2 : wc.cell? ⟨gb144, 2, none⟩ = some (.slice A0_2 l0_2.length c0_2) := (blk_cell BK144.out 2).trans rfl
                          have hcz59_3 : wc.cell? ⟨gb144, 3, none⟩ = some (.int .i64 a0_3) := (blk_cell BK144.out 3).trans rfl
                          have hcz59_4 : wc.cell? ⟨gb144, 4, none⟩ = some (.int .i64 a0_4) := (blk_cell BK144.out 4).trans rfl
                          have hcz59_5 : wc.cell? ⟨gb144, 5, none⟩ = some (.int .i64 a0_5) := (blk_cell BK144.out 5).trans rfl
                          have hcz59_6 : wc.cell? ⟨gb144, 6, none⟩ = some (.string a0_6) := (blk_cell BK144.out 6).trans rfl
                          have hcz59_7 : wc.cell? ⟨gb144, 7, none⟩ = some (.slice A0_7 l0_7.length c0_7) := (blk_cell BK144.out 7).trans rfl
                          have hfz59_0 := blk_frozen BK144.out 0
                          have hfz59_1 := blk_frozen BK144.out 1
                          have hfz59_2 := blk_frozen BK144.out 2
                          have hfz59_3 := blk_frozen BK144.out 3
                          have hfz59_4 := blk_frozen BK144.out 4
                          have hfz59_5 := blk_frozen BK144.out 5
                          have hfz59_6 := blk_frozen BK144.out 6
                          have hfz59_7 := blk_frozen BK144.out 7
                          go_wp2
                          go_ret
                          exact ⟨by first | rfl | (simp [errW_none, errW_some] <;> rfl) | (simp [*, errW_none, errW_some] <;> rfl), by repeat (first | (with_reducible first | exact HB.out | apply below_alloc | apply pw_below_drewN | apply below_drew1 | refine below_set ?_ GE144.out) | exact HB.out)⟩
                        · rw [if_neg c58] at H
                          have c58b0 : (a0_0 == 19) = false := beq_eq_false_iff_ne.mpr c58
                          have c58b1 : (a0_0 != 19) = true := bne_iff_ne.mpr c58
                          obtain rfl := Option.some.inj H
                          go_wp2
                          go_ret
                          exact ⟨by first | rfl | (simp [errW_none, errW_some] <;> rfl) | (simp [*, errW_none, errW_some] <;> rfl), by repeat (first | (with_reducible first | exact HB.out | apply below_alloc | apply pw_below_drewN | apply below_drew1 | refine below_set ?_ GE144.out) | exact HB.out)⟩

end Go.Proofs.YtofkpinikkfmeaaDoor.PFnMtLeast
