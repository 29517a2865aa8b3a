/- Machine-made: walks of functions of the program, out of the print's own lines. -/
import Derived.Test.YtofkpinikkfmeaaDoorPFnMtLeasty0
import Derived.Test.YtofkpinikkfmeaaDoorPFnMtLeasty2
namespace Go.Proofs.YtofkpinikkfmeaaDoor.PFnMtLeast
open Go.RowKit Go.Proofs.YtofkpinikkfmeaaDoorW.PrintWords Go.Proofs.YtofkpinikkfmeaaDoorW.PrintLast Go.Proofs.YtofkpinikkfmeaaDoorW.PrintMore
attribute [local go_sem] max2_int min2_int max_two min_two max_three min_three max_four min_four   -- for this text's walks alone
set_option linter.unusedVariables false
set_option linter.unusedSimpArgs false

/-! ### spec_reSounds: function 15 -/
mutual
def spec_reSounds.j0 : Nat → Int → Bool → Int → Int → List Int → Int → Int → Int → ByteArray → List (S25) → Option (Bool)
  | 0, _, _, _, _, _, _, _, _, _, _ => none
  | k + 1, x1, x13, x113000, x113001, x113002, x113003, x113004, x113005, x113006, x113007 => if x13 = true then (some false) else (spec_reSounds.l0 k x1 x113007 (x113007.length : Int) 0)
def spec_reSounds.l0 : Nat → Int → List (S25) → Int → Int → Option (Bool)
  | 0, _, _, _, _ => none
  | k + 1, x1, x15, x16, x17 => if x17 < x16 then (if 0 ≤ x17 then (if x17 < (x15.length : Int) then ((spec_reSounds.f k ((rd_T25 x15 x17).f0) ((rd_T25 x15 x17).f1) ((rd_T25 x15 x17).f2) ((rd_T25 x15 x17).f3) ((rd_T25 x15 x17).f4) ((rd_T25 x15 x17).f5) ((rd_T25 x15 x17).f6) ((rd_T25 x15 x17).f7) (wrap64 (x1 - 1))).bind fun t116 => (if t116 = true then (spec_reSounds.l0 k x1 x15 x16 (wrap64 (x17 + 1))) else (some false))) else (none)) else (none)) else (some true)
def spec_reSounds.f : Nat → Int → Int → List Int → Int → Int → Int → ByteArray → List (S25) → Int → Option (Bool)
  | 0, _, _, _, _, _, _, _, _, _ => none
  | k + 1, a0_0, a0_1, l0_2, a0_3, a0_4, a0_5, a0_6, l0_7, a1 => if a1 < 0 then (spec_reSounds.j0 k a1 true a0_0 a0_1 l0_2 a0_3 a0_4 a0_5 a0_6 l0_7) else ((spec_reNode.f k a0_0 a0_1 l0_2 a0_3 a0_4 a0_5 a0_6 l0_7).bind fun t113 => (spec_reSounds.j0 k a1 (!t113) a0_0 a0_1 l0_2 a0_3 a0_4 a0_5 a0_6 l0_7))
end
theorem spec_reSounds.mono_l : ∀ k, (∀ y0 y1 y2 y3 y4 y5 y6 y7 y8, LeO (spec_reSounds.f k y0 y1 y2 y3 y4 y5 y6 y7 y8) (spec_reSounds.f (k + 1) y0 y1 y2 y3 y4 y5 y6 y7 y8)) ∧ (∀ y0 y1 y2 y3 y4 y5 y6 y7 y8 y9, LeO (spec_reSounds.j0 k y0 y1 y2 y3 y4 y5 y6 y7 y8 y9) (spec_reSounds.j0 (k + 1) y0 y1 y2 y3 y4 y5 y6 y7 y8 y9)) ∧ (∀ y0 y1 y2 y3, LeO (spec_reSounds.l0 k y0 y1 y2 y3) (spec_reSounds.l0 (k + 1) y0 y1 y2 y3))
  | 0 => ⟨fun _ _ _ _ _ _ _ _ _ r h => by simp [spec_reSounds.f] at h, fun _ _ _ _ _ _ _ _ _ _ r h => by simp [spec_reSounds.j0] at h, fun _ _ _ _ r h => by simp [spec_reSounds.l0] at h⟩
  | k + 1 => by
    obtain ⟨ih0, ih1, ih2⟩ := spec_reSounds.mono_l k
    refine ⟨?_, ?_, ?_⟩
    · intro y0 y1 y2 y3 y4 y5 y6 y7 y8
      unfold spec_reSounds.f
      repeat' first
      | (with_reducible exact ih0 _ _ _ _ _ _ _ _ _)
      | (with_reducible exact ih1 _ _ _ _ _ _ _ _ _ _)
      | (with_reducible exact ih2 _ _ _ _)
      | (with_reducible exact spec_reNode.mono _ _ _ _ _ _ _ _ _)
      | (with_reducible exact LeO.refl _)
      | (with_reducible exact LeO.none _)
      | (with_reducible refine LeO.ite ?_ ?_)
      | (with_reducible refine LeO.bind ?_ (fun _ => ?_))
      | exact ih0 _ _ _ _ _ _ _ _ _
      | exact ih1 _ _ _ _ _ _ _ _ _ _
      | exact ih2 _ _ _ _
      | exact spec_reNode.mono _ _ _ _ _ _ _ _ _
      | exact LeO.none _
      | refine LeO.ite ?_ ?_
      | refine LeO.bind ?_ (fun _ => ?_)
    · intro y0 y1 y2 y3 y4 y5 y6 y7 y8 y9
      unfold spec_reSounds.j0
      repeat' first
      | (with_reducible exact ih0 _ _ _ _ _ _ _ _ _)
      | (with_reducible exact ih1 _ _ _ _ _ _ _ _ _ _)
      | (with_reducible exact ih2 _ _ _ _)
      | (with_reducible exact spec_reNode.mono _ _ _ _ _ _ _ _ _)
      | (with_reducible exact LeO.refl _)
      | (with_reducible exact LeO.none _)
      | (with_reducible refine LeO.ite ?_ ?_)
      | (with_reducible refine LeO.bind ?_ (fun _ => ?_))
      | exact ih0 _ _ _ _ _ _ _ _ _
      | exact ih1 _ _ _ _ _ _ _ _ _ _
      | exact ih2 _ _ _ _
      | exact spec_reNode.mono _ _ _ _ _ _ _ _ _
      | exact LeO.none _
      | refine LeO.ite ?_ ?_
      | refine LeO.bind ?_ (fun _ => ?_)
    · intro y0 y1 y2 y3
      unfold spec_reSounds.l0
      repeat' first
      | (with_reducible exact ih0 _ _ _ _ _ _ _ _ _)
      | (with_reducible exact ih1 _ _ _ _ _ _ _ _ _ _)
      | (with_reducible exact ih2 _ _ _ _)
      | (with_reducible exact spec_reNode.mono _ _ _ _ _ _ _ _ _)
      | (with_reducible exact LeO.refl _)
      | (with_reducible exact LeO.none _)
      | (with_reducible refine LeO.ite ?_ ?_)
      | (with_reducible refine LeO.bind ?_ (fun _ => ?_))
      | exact ih0 _ _ _ _ _ _ _ _ _
      | exact ih1 _ _ _ _ _ _ _ _ _ _
      | exact ih2 _ _ _ _
      | exact spec_reNode.mono _ _ _ _ _ _ _ _ _
      | exact LeO.none _
      | refine LeO.ite ?_ ?_
      | refine LeO.bind ?_ (fun _ => ?_)
theorem spec_reSounds.mono : ∀ a0 a1 a2 a3 a4 a5 a6 a7 a8 k, LeO (spec_reSounds.f k a0 a1 a2 a3 a4 a5 a6 a7 a8) (spec_reSounds.f (k + 1) a0 a1 a2 a3 a4 a5 a6 a7 a8) := by
  intro a0 a1 a2 a3 a4 a5 a6 a7 a8 k
  obtain ⟨ih0, ih1, ih2⟩ := spec_reSounds.mono_l k
  exact ih0 a0 a1 a2 a3 a4 a5 a6 a7 a8
set_option maxHeartbeats 8000000 in
set_option maxRecDepth 100000 in
theorem spec_reSounds.calls (k : Nat) : ∀ (a0_0 : Int) (a0_1 : Int) (A0_2 : Option Addr) (c0_2 : Nat) (l0_2 : List Int) (a0_3 : Int) (a0_4 : Int) (a0_5 : Int) (a0_6 : ByteArray) (A0_7 : Option Addr) (c0_7 : Nat) (l0_7 : List (S25)) (a1 : Int) (r : Bool) (w : World) (hr0_2 : Kd.C (Kd.int .i32) w A0_2 l0_2.length l0_2) (hc0_2 : l0_2.length ≤ c0_2) (hr0_7 : Kd.C k25 w A0_7 l0_7.length l0_7) (hc0_7 : l0_7.length ≤ c0_7) (h : spec_reSounds.f k a0_0 a0_1 l0_2 a0_3 a0_4 a0_5 a0_6 l0_7 a1 = some r),
    Calls Tryd.prog 15 #[.agg #[.int .i64 a0_0, .int .i64 a0_1, .slice A0_2 l0_2.length c0_2, .int .i64 a0_3, .int .i64 a0_4, .int .i64 a0_5, .string a0_6, .slice A0_7 l0_7.length c0_7], .int .i64 a1] w fun e w' => e = .returned (.bool r) ∧ Below w.heap.size w w' := by
  induction k using Nat.strongRecOn with
  | _ k ih =>
  intro a0_0 a0_1 A0_2 c0_2 l0_2 a0_3 a0_4 a0_5 a0_6 A0_7 c0_7 l0_7 a1 r w hr0_2 hc0_2 hr0_7 hc0_7 h
  cases k with
  | zero => exact absurd h (by simp [spec_reSounds.f])
  | succ k =>
  simp only [spec_reSounds.f] at h
  have hu25 := Tryd.underlying25
  have HR0_2 := Aside0.mk hr0_2
  have HC0_2 := Aside0.mk hc0_2
  clear hr0_2 hc0_2
  have HR0_7 := Aside0.mk hr0_7
  have HC0_7 := Aside0.mk hc0_7
  clear hr0_7 hc0_7
  have HB := Aside0.mk (Below.refl w.heap.size w)
  have H : (if a1 < 0 then (spec_reSounds.j0 k a1 true a0_0 a0_1 l0_2 a0_3 a0_4 a0_5 a0_6 l0_7) else ((spec_reNode.f k a0_0 a0_1 l0_2 a0_3 a0_4 a0_5 a0_6 l0_7).bind fun t113 => (spec_reSounds.j0 k a1 (!t113) a0_0 a0_1 l0_2 a0_3 a0_4 a0_5 a0_6 l0_7))) = some r := h
  clear h
  have HC3 := Aside0.mk H
  clear H
  go_enter Tryd.func15, Tryd.ntmps15
  go_upto_region 1 with (first | ((with_reducible refine gate_dst (N := 2) rfl ?_); refine box_event ?hg (N := 2) ?hd (cs := #[.int .i64 a0_0, .int .i64 a0_1, .slice A0_2 l0_2.length c0_2, .int .i64 a0_3, .int .i64 a0_4, .int .i64 a0_5, .string a0_6, .slice A0_7 l0_7.length c0_7]) (t := 25) ?hr ?_; (case hd => rfl); (case hg => rfl); (case hr => first | (go_simp; done) | (go_simp; rfl)); intro gb112 hg w4 hbox hb; have n0_ := Aside0.mk (below_step (by repeat (first | (with_reducible first | exact HB.out | apply below_alloc | apply pw_below_drewN | apply below_drew1) | exact HB.out)) hb); have n1_ := Aside0.mk (hbox); have n2_ := Aside0.mk ((by rw [hg]; exact (below_size (by repeat (first | (with_reducible first | exact HB.out | apply below_alloc | apply pw_below_drewN | apply below_drew1) | exact HB.out))) : w.heap.size ≤ gb112)); have n3_ := Aside0.mk ((by rw [hg]; exact (below_size (by repeat (first | (with_reducible first | exact HB.out | apply below_alloc | apply pw_below_drewN | apply below_drew1) | exact HB.out))) : w.heap.size ≤ gb112)); clear HB; have HB := n0_; have BK112 := n1_; have GW112 := n2_; have GE112 := n3_; clear n0_ n1_ n2_ n3_; clear hb hbox hg))
  (try simp only [Act.put, List.setIfInBounds_toArray, List.set_cons_zero, List.set_cons_succ])
  go_cut [13] (fun v13 wc => ∃ (kq : Nat) (x13_2 : Bool), v13 = .bool x13_2 ∧ Aside0 (spec_reSounds.j0 kq a1 x13_2 a0_0 a0_1 l0_2 a0_3 a0_4 a0_5 a0_6 l0_7 = some r) ∧ Aside0 (kq ≤ k) ∧ Aside0 (wc.heap[gb112]? = some (.cells #[.int .i64 a0_0, .int .i64 a0_1, (.slice A0_2 l0_2.length c0_2), .int .i64 a0_3, .int .i64 a0_4, .int .i64 a0_5, .string a0_6, (.slice A0_7 l0_7.length c0_7)] 25 (0, 0))) ∧ Aside0 (Below w.heap.size w wc))
  case first =>
    have H := HC3.out
    clear HC3
    by_cases c5 : a1 < 0
    · rw [if_pos c5] at H
      have c5b0 : decide (a1 < 0) = true := decide_eq_true c5
      clear c5
      (first | rw [c5b0] | (simp only [i64_w, i32_w]; rw [c5b0]) | skip)
      have H' := Aside0.mk H
      clear H
      go_wp2
      go_meet
      case rel => exact ⟨_, (true), (by first | rfl | (simp; done) | (simp [*]; done)), H', ⟨by first | omega | exact Nat.le_refl _⟩, ⟨by (with_reducible repeat (first | refine blk_drewN ?_ _ | refine blk_drew ?_ | refine blk_alloc ?_ _)); exact BK112.out⟩, ⟨by repeat (first | (with_reducible first | exact HB.out | apply below_alloc | apply pw_below_drewN | apply below_drew1 | refine below_set ?_ GE112.out) | exact HB.out)⟩⟩
    · rw [if_neg c5] at H
      have c5b0 : decide (a1 < 0) = false := decide_eq_false c5
      clear c5
      (first | rw [c5b0] | (simp only [i64_w, i32_w]; rw [c5b0]) | skip)
      replace H := Option.bind_eq_some_iff.mp H
      obtain ⟨t113, A60, H⟩ := H
      replace H : (spec_reSounds.j0 k a1 (!t113) a0_0 a0_1 l0_2 a0_3 a0_4 a0_5 a0_6 l0_7) = some r := H
      have A6 := Aside0.mk A60
      clear A60
      have H' := Aside0.mk H
      clear H
      have hcz7_0 : w4.cell? ⟨gb112, 0, none⟩ = some (.int .i64 a0_0) := (blk_cell BK112.out 0).trans rfl
      have hcz7_1 : w4.cell? ⟨gb112, 1, none⟩ = some (.int .i64 a0_1) := (blk_cell BK112.out 1).trans rfl
      have hcz7_2 : w4.cell? ⟨gb112, 2, none⟩ = some (.slice A0_2 l0_2.length c0_2) := (blk_cell BK112.out 2).trans rfl
      have hcz7_3 : w4.cell? ⟨gb112, 3, none⟩ = some (.int .i64 a0_3) := (blk_cell BK112.out 3).trans rfl
      have hcz7_4 : w4.cell? ⟨gb112, 4, none⟩ = some (.int .i64 a0_4) := (blk_cell BK112.out 4).trans rfl
      have hcz7_5 : w4.cell? ⟨gb112, 5, none⟩ = some (.int .i64 a0_5) := (blk_cell BK112.out 5).trans rfl
      have hcz7_6 : w4.cell? ⟨gb112, 6, none⟩ = some (.string a0_6) := (blk_cell BK112.out 6).trans rfl
      have hcz7_7 : w4.cell? ⟨gb112, 7, none⟩ = some (.slice A0_7 l0_7.length c0_7) := (blk_cell BK112.out 7).trans rfl
      have hfz7_0 := blk_frozen BK112.out 0
      have hfz7_1 := blk_frozen BK112.out 1
      have hfz7_2 := blk_frozen BK112.out 2
      have hfz7_3 := blk_frozen BK112.out 3
      have hfz7_4 := blk_frozen BK112.out 4
      have hfz7_5 := blk_frozen BK112.out 5
      have hfz7_6 := blk_frozen BK112.out 6
      have hfz7_7 := blk_frozen BK112.out 7
      go_wp2_with (first | (go_at_call 25; (with_reducible refine (spec_reNode.calls k a0_0 a0_1 _ _ l0_2 a0_3 a0_4 a0_5 a0_6 _ _ l0_7 t113 _ ?side1 ?side2 ?side3 ?side4 A6.out).mono ?_); (case side1 => repeat (first | exact (Kd.C_below HR0_2.out HB.out) | (with_reducible refine Kd.C_alloc ?_ _) | (with_reducible refine Kd.C_drewN ?_ _) | (with_reducible refine Kd.C_drew ?_))); (case side2 => exact HC0_2.out); (case side3 => repeat (first | exact (Kd.C_below HR0_7.out HB.out) | (with_reducible refine Kd.C_alloc ?_ _) | (with_reducible refine Kd.C_drewN ?_ _) | (with_reducible refine Kd.C_drew ?_))); (case side4 => exact HC0_7.out); rintro e w8 ⟨rfl, hb⟩; have n0_ := Aside0.mk (blk_below (g := gb112) (o := .cells #[.int .i64 a0_0, .int .i64 a0_1, .slice A0_2 l0_2.length c0_2, .int .i64 a0_3, .int .i64 a0_4, .int .i64 a0_5, .string a0_6, .slice A0_7 l0_7.length c0_7] 25 (0, 0)) (by (with_reducible repeat (first | refine blk_drewN ?_ _ | refine blk_drew ?_ | refine blk_alloc ?_ _)); exact BK112.out) hb); have n1_ := Aside0.mk (below_step (by repeat (first | (with_reducible first | exact HB.out | apply below_alloc | apply pw_below_drewN | apply below_drew1 | refine below_set ?_ GE112.out) | exact HB.out)) hb); clear BK112; clear HB; have BK112 := n0_; have HB := n1_; clear n0_ n1_; (try clear hb); (try clear hb2); (try clear hk); (try clear hi)))
      go_meet
      case rel => exact ⟨_, (!t113), (by first | rfl | (simp; done) | (simp [*]; done)), H', ⟨by first | omega | exact Nat.le_refl _⟩, ⟨by (with_reducible repeat (first | refine blk_drewN ?_ _ | refine blk_drew ?_ | refine blk_alloc ?_ _)); exact BK112.out⟩, ⟨by repeat (first | (with_reducible first | exact HB.out | apply below_alloc | apply pw_below_drewN | apply below_drew1 | refine below_set ?_ GE112.out) | exact HB.out)⟩⟩
  case rest =>
    clear HC3
    try clear c1
    try clear p2
    try clear c5
    try clear c5b0
    try clear hcz7_0
    try clear hcz7_1
    try clear hcz7_2
    try clear hcz7_3
    try clear hcz7_4
    try clear hcz7_5
    try clear hcz7_6
    try clear hcz7_7
    try clear hfz7_0
    try clear hfz7_1
    try clear hfz7_2
    try clear hfz7_3
    try clear hfz7_4
    try clear hfz7_5
    try clear hfz7_6
    try clear hfz7_7
    obtain ⟨kq, x13_2, rfl, HA, HJ2, BK112, HB⟩ := hcut
    cases kq with
    | zero => exact absurd HA.out (by simp [spec_reSounds.j0])
    | succ kj2 =>
      have H := HA.out
      clear HA
      simp only [spec_reSounds.j0] at H
      by_cases c9 : x13_2 = true
      · subst c9
        have H1 : (some false) = some r := by rw [if_pos rfl] at H; exact H
        clear H
        have H := H1
        clear H1
        obtain rfl := Option.some.inj H
        go_wp2
        go_ret
        exact ⟨by first | rfl | (simp [errW_none, errW_some] <;> rfl) | (simp [*, errW_none, errW_some] <;> rfl), by repeat (first | (with_reducible first | exact HB.out | apply below_alloc | apply pw_below_drewN | apply below_drew1 | refine below_set ?_ GE112.out) | exact HB.out)⟩
      · replace c9 := Bool.eq_false_iff.mpr c9
        subst c9
        have H1 : (spec_reSounds.l0 kj2 a1 l0_7 (l0_7.length : Int) 0) = some r := by rw [if_neg (show ¬ (false = true) by decide)] at H; exact H
        clear H
        have H := H1
        clear H1
        have H' := Aside0.mk H
        clear H
        have hcz10_0 : wc.cell? ⟨gb112, 0, none⟩ = some (.int .i64 a0_0) := (blk_cell BK112.out 0).trans rfl
        have hcz10_1 : wc.cell? ⟨gb112, 1, none⟩ = some (.int .i64 a0_1) := (blk_cell BK112.out 1).trans rfl
        have hcz10_2 : wc.cell? ⟨gb112, 2, none⟩ = some (.slice A0_2 l0_2.length c0_2) := (blk_cell BK112.out 2).trans rfl
        have hcz10_3 : wc.cell? ⟨gb112, 3, none⟩ = some (.int .i64 a0_3) := (blk_cell BK112.out 3).trans rfl
        have hcz10_4 : wc.cell? ⟨gb112, 4, none⟩ = some (.int .i64 a0_4) := (blk_cell BK112.out 4).trans rfl
        have hcz10_5 : wc.cell? ⟨gb112, 5, none⟩ = some (.int .i64 a0_5) := (blk_cell BK112.out 5).trans rfl
        have hcz10_6 : wc.cell? ⟨gb112, 6, none⟩ = some (.string a0_6) := (blk_cell BK112.out 6).trans rfl
        have hcz10_7 : wc.cell? ⟨gb112, 7, none⟩ = some (.slice A0_7 l0_7.length c0_7) := (blk_cell BK112.out 7).trans rfl
        have hfz10_0 := blk_frozen BK112.out 0
        have hfz10_1 := blk_frozen BK112.out 1
        have hfz10_2 := blk_frozen BK112.out 2
        have hfz10_3 := blk_frozen BK112.out 3
        have hfz10_4 := blk_frozen BK112.out 4
        have hfz10_5 := blk_frozen BK112.out 5
        have hfz10_6 := blk_frozen BK112.out 6
        have hfz10_7 := blk_frozen BK112.out 7
        go_wp2
        go_loopg [17] kj2 (fun kq v17 w' => ∃ (x17_2 : Int), v17 = .int .i64 x17_2 ∧ Aside0 (spec_reSounds.l0 kq a1 l0_7 (l0_7.length : Int) x17_2 = some r) ∧ Aside0 (kq ≤ kj2) ∧ Aside0 (w'.heap[gb112]? = some (.cells #[.int .i64 a0_0, .int .i64 a0_1, (.slice A0_2 l0_2.length c0_2), .int .i64 a0_3, .int .i64 a0_4, .int .i64 a0_5, .string a0_6, (.slice A0_7 l0_7.length c0_7)] 25 (0, 0))) ∧ Aside0 (Below w.heap.size w w'))
        case atStart => exact ⟨(0), (by first | rfl | (simp; done) | (simp [*]; done)), H', ⟨Nat.le_refl _⟩, ⟨by (with_reducible repeat (first | refine blk_drewN ?_ _ | refine blk_drew ?_ | refine blk_alloc ?_ _)); exact BK112.out⟩, ⟨by repeat (first | (with_reducible first | exact HB.out | apply below_alloc | apply pw_below_drewN | apply below_drew1 | refine below_set ?_ GE112.out) | exact HB.out)⟩⟩
        case round =>
          clear H'
          try clear c1
          try clear p2
          try clear c5
          try clear c5b0
          try clear c9
          try clear hcz10_0
          try clear hcz10_1
          try clear hcz10_2
          try clear hcz10_3
          try clear hcz10_4
          try clear hcz10_5
          try clear hcz10_6
          try clear hcz10_7
          try clear hcz7_0
          try clear hcz7_1
          try clear hcz7_2
          try clear hcz7_3
          try clear hcz7_4
          try clear hcz7_5
          try clear hcz7_6
          try clear hcz7_7
          try clear hfz10_0
          try clear hfz10_1
          try clear hfz10_2
          try clear hfz10_3
          try clear hfz10_4
          try clear hfz10_5
          try clear hfz10_6
          try clear hfz10_7
          try clear hfz7_0
          try clear hfz7_1
          try clear hfz7_2
          try clear hfz7_3
          try clear hfz7_4
          try clear hfz7_5
          try clear hfz7_6
          try clear hfz7_7
          try clear p2
          obtain ⟨x17_2, rfl, HA, HK2, BK112, HB⟩ := hrel
          cases gk with
          | zero => exact absurd HA.out (by simp [spec_reSounds.l0])
          | succ k2 =>
            have H := HA.out
            clear HA
            simp only [spec_reSounds.l0] at H
            by_cases c11 : x17_2 < (l0_7.length : Int)
            · rw [if_pos c11] at H
              have c11b0 : decide (x17_2 < (l0_7.length : Int)) = true := decide_eq_true c11
              clear c11
              by_cases c12 : 0 ≤ x17_2
              · rw [if_pos c12] at H
                have c12b0 : decide (0 ≤ x17_2) = true := decide_eq_true c12
                clear c12
                by_cases c13 : x17_2 < (l0_7.length : Int)
                · rw [if_pos c13] at H
                  have c13b0 : decide (x17_2 < (l0_7.length : Int)) = true := decide_eq_true c13
                  clear c13
                  replace H := Option.bind_eq_some_iff.mp H
                  obtain ⟨t116, A140, H⟩ := H
                  replace H : (if t116 = true then (spec_reSounds.l0 k2 a1 l0_7 (l0_7.length : Int) (wrap64 (x17_2 + 1))) else (some false)) = some r := H
                  have A14 := Aside0.mk A140
                  clear A140
                  by_cases c15 : t116 = true
                  · subst c15
                    have H1 : (spec_reSounds.l0 k2 a1 l0_7 (l0_7.length : Int) (wrap64 (x17_2 + 1))) = some r := by rw [if_pos rfl] at H; exact H
                    clear H
                    have H := H1
                    clear H1
                    have H' := Aside0.mk H
                    clear H
                    have p114 : 0 ≤ (x17_2 : Int) := of_decide_eq_true (by first | (with_reducible assumption) | assumption)
                    have q114 : x17_2 < (l0_7.length : Int) := of_decide_eq_true (by first | (with_reducible assumption) | assumption)
                    obtain ⟨ad114, A114_2, c114_2, A114_7, c114_7, e114, hx114_0, hx114_1, hx114_2, hx114_3, hx114_4, hx114_5, hx114_6, hx114_7, hl114_2, hi114_2, hl114_7, hi114_7⟩ := at_T25 HR0_7.out x17_2 p114 q114
                    cases e114
                    replace hx114_0 := (HB.out.cell (World.block_lt_of_cell? w _ hx114_0)).trans hx114_0
                    replace hx114_1 := (HB.out.cell (World.block_lt_of_cell? w _ hx114_1)).trans hx114_1
                    replace hx114_2 := (HB.out.cell (World.block_lt_of_cell? w _ hx114_2)).trans hx114_2
                    replace hx114_3 := (HB.out.cell (World.block_lt_of_cell? w _ hx114_3)).trans hx114_3
                    replace hx114_4 := (HB.out.cell (World.block_lt_of_cell? w _ hx114_4)).trans hx114_4
                    replace hx114_5 := (HB.out.cell (World.block_lt_of_cell? w _ hx114_5)).trans hx114_5
                    replace hx114_6 := (HB.out.cell (World.block_lt_of_cell? w _ hx114_6)).trans hx114_6
                    replace hx114_7 := (HB.out.cell (World.block_lt_of_cell? w _ hx114_7)).trans hx114_7
                    have HR114_2 := Aside0.mk hi114_2
                    have HC114_2 := Aside0.mk hl114_2
                    clear hi114_2 hl114_2
                    have HR114_7 := Aside0.mk hi114_7
                    have HC114_7 := Aside0.mk hl114_7
                    clear hi114_7 hl114_7
                    replace p114 := eq_true p114
                    replace q114 := eq_true q114
                    go_wp2_with (first | ((with_reducible refine gate_dst (N := 6) rfl ?_); refine box_event ?hg (N := 6) ?hd (cs := #[.int .i64 0, .int .i64 0, .slice none 0 0, .int .i64 0, .int .i64 0, .int .i64 0, .string (⟨#[]⟩ : ByteArray), .slice none 0 0]) (t := 25) ?hr ?_; (case hd => rfl); (case hg => rfl); (case hr => first | (go_simp; done) | (go_simp; rfl)); intro gb115 hg w16 hbox hb; have n0_ := Aside0.mk (blk_below (g := gb112) (o := .cells #[.int .i64 a0_0, .int .i64 a0_1, .slice A0_2 l0_2.length c0_2, .int .i64 a0_3, .int .i64 a0_4, .int .i64 a0_5, .string a0_6, .slice (some ad114) l0_7.length c0_7] 25 (0, 0)) (by (with_reducible repeat (first | refine blk_drewN ?_ _ | refine blk_drew ?_ | refine blk_alloc ?_ _)); exact BK112.out) hb); have n1_ := Aside0.mk (below_step (by repeat (first | (with_reducible first | exact HB.out | apply below_alloc | apply pw_below_drewN | apply below_drew1 | refine below_set ?_ GE112.out) | exact HB.out)) hb); have n2_ := Aside0.mk (hbox); have n3_ := Aside0.mk ((by rw [hg]; exact (below_size (by repeat (first | (with_reducible first | exact HB.out | apply below_alloc | apply pw_below_drewN | apply below_drew1 | refine below_set ?_ GE112.out) | exact HB.out))) : w.heap.size ≤ gb115)); have n4_ := Aside0.mk ((by rw [hg]; exact (below_size (by repeat (first | (with_reducible first | exact HB.out | apply below_alloc | apply pw_below_drewN | apply below_drew1 | refine below_set ?_ GE112.out) | exact HB.out))) : w.heap.size ≤ gb115)); have n5_ := Aside0.mk ((by rw [hg]; exact Nat.ne_of_lt (blk_lt (g := gb112) (o := .cells #[.int .i64 a0_0, .int .i64 a0_1, .slice A0_2 l0_2.length c0_2, .int .i64 a0_3, .int .i64 a0_4, .int .i64 a0_5, .string a0_6, .slice (some ad114) l0_7.length c0_7] 25 (0, 0)) (by (with_reducible repeat (first | refine blk_drewN ?_ _ | refine blk_drew ?_ | refine blk_alloc ?_ _)); exact BK112.out)) : gb112 ≠ gb115)); have n6_ := Aside0.mk ((by rw [hg]; exact Nat.ne_of_gt (blk_lt (g := gb112) (o := .cells #[.int .i64 a0_0, .int .i64 a0_1, .slice A0_2 l0_2.length c0_2, .int .i64 a0_3, .int .i64 a0_4, .int .i64 a0_5, .string a0_6, .slice (some ad114) l0_7.length c0_7] 25 (0, 0)) (by (with_reducible repeat (first | refine blk_drewN ?_ _ | refine blk_drew ?_ | refine blk_alloc ?_ _)); exact BK112.out)) : gb115 ≠ gb112)); clear BK112; clear HB; have BK112 := n0_; have HB := n1_; have BK115 := n2_; have GW115 := n3_; have GE115 := n4_; have NB112_115 := n5_; have NB115_112 := n6_; clear n0_ n1_ n2_ n3_ n4_ n5_ n6_; clear hb hbox hg; have hnb17 := NB115_112.out; have hnc17 := NB112_115.out; have hcz18_0 : w16.cell? ⟨gb115, 0, none⟩ = some (.int .i64 0) := (blk_cell BK115.out 0).trans rfl; have hcz18_1 : w16.cell? ⟨gb115, 1, none⟩ = some (.int .i64 0) := (blk_cell BK115.out 1).trans rfl; have hcz18_2 : w16.cell? ⟨gb115, 2, none⟩ = some (.slice none 0 0) := (blk_cell BK115.out 2).trans rfl; have hcz18_3 : w16.cell? ⟨gb115, 3, none⟩ = some (.int .i64 0) := (blk_cell BK115.out 3).trans rfl; have hcz18_4 : w16.cell? ⟨gb115, 4, none⟩ = some (.int .i64 0) := (blk_cell BK115.out 4).trans rfl; have hcz18_5 : w16.cell? ⟨gb115, 5, none⟩ = some (.int .i64 0) := (blk_cell BK115.out 5).trans rfl; have hcz18_6 : w16.cell? ⟨gb115, 6, none⟩ = some (.string (⟨#[]⟩ : ByteArray)) := (blk_cell BK115.out 6).trans rfl; have hcz18_7 : w16.cell? ⟨gb115, 7, none⟩ = some (.slice none 0 0) := (blk_cell BK115.out 7).trans rfl; have hfz18_0 := blk_frozen BK115.out 0; have hfz18_1 := blk_frozen BK115.out 1; have hfz18_2 := blk_frozen BK115.out 2; have hfz18_3 := blk_frozen BK115.out 3; have hfz18_4 := blk_frozen BK115.out 4; have hfz18_5 := blk_frozen BK115.out 5; have hfz18_6 := blk_frozen BK115.out 6; have hfz18_7 := blk_frozen BK115.out 7) | ((with_reducible refine gate_callee (f := 15) rfl ?_); refine goesL_ (some 24) rfl rfl Tryd.func15 (by kernel_rfl) rfl #[.agg #[.int .i64 ((rd_T25 l0_7 x17_2).f0), .int .i64 ((rd_T25 l0_7 x17_2).f1), .slice A114_2 ((rd_T25 l0_7 x17_2).f2).length c114_2, .int .i64 ((rd_T25 l0_7 x17_2).f3), .int .i64 ((rd_T25 l0_7 x17_2).f4), .int .i64 ((rd_T25 l0_7 x17_2).f5), .string ((rd_T25 l0_7 x17_2).f6), .slice A114_7 ((rd_T25 l0_7 x17_2).f7).length c114_7], .int .i64 (wrap64 (a1 - 1))] rfl (by (try simp only [List.map_toArray, List.map_cons, List.map_nil]); first | done | rfl | (simp only [List.length_drop, List.length_take]; rfl)) ?_; (with_reducible refine (ih k2 (by have := HJ2.out; have := HK2.out; omega) ((rd_T25 l0_7 x17_2).f0) ((rd_T25 l0_7 x17_2).f1) _ _ ((rd_T25 l0_7 x17_2).f2) ((rd_T25 l0_7 x17_2).f3) ((rd_T25 l0_7 x17_2).f4) ((rd_T25 l0_7 x17_2).f5) ((rd_T25 l0_7 x17_2).f6) _ _ ((rd_T25 l0_7 x17_2).f7) (wrap64 (a1 - 1)) true _ ?side1 ?side2 ?side3 ?side4 A14.out).mono ?_); (case side1 => exact Kd.C_below HR114_2.out (by repeat (first | (with_reducible first | exact HB.out | apply below_alloc | apply pw_below_drewN | apply below_drew1 | refine below_set ?_ GE112.out | refine below_set ?_ GE115.out) | exact HB.out))); (case side2 => exact HC114_2.out); (case side3 => exact Kd.C_below HR114_7.out (by repeat (first | (with_reducible first | exact HB.out | apply below_alloc | apply pw_below_drewN | apply below_drew1 | refine below_set ?_ GE112.out | refine below_set ?_ GE115.out) | exact HB.out))); (case side4 => exact HC114_7.out); rintro e w19 ⟨rfl, hb⟩; refine ⟨_, rfl, ?_⟩; have n0_ := Aside0.mk (blk_below (g := gb112) (o := .cells #[.int .i64 a0_0, .int .i64 a0_1, .slice A0_2 l0_2.length c0_2, .int .i64 a0_3, .int .i64 a0_4, .int .i64 a0_5, .string a0_6, .slice (some ad114) l0_7.length c0_7] 25 (0, 0)) (by (with_reducible repeat (first | refine blk_drewN ?_ _ | refine blk_drew ?_ | refine blk_alloc ?_ _)); refine blk_far ?_ NB112_115.out _; (with_reducible repeat (first | refine blk_drewN ?_ _ | refine blk_drew ?_ | refine blk_alloc ?_ _)); refine blk_far ?_ NB112_115.out _; (with_reducible repeat (first | refine blk_drewN ?_ _ | refine blk_drew ?_ | refine blk_alloc ?_ _)); refine blk_far ?_ NB112_115.out _; (with_reducible repeat (first | refine blk_drewN ?_ _ | refine blk_drew ?_ | refine blk_alloc ?_ _)); refine blk_far ?_ NB112_115.out _; (with_reducible repeat (first | refine blk_drewN ?_ _ | refine blk_drew ?_ | refine blk_alloc ?_ _)); refine blk_far ?_ NB112_115.out _; (with_reducible repeat (first | refine blk_drewN ?_ _ | refine blk_drew ?_ | refine blk_alloc ?_ _)); refine blk_far ?_ NB112_115.out _; (with_reducible repeat (first | refine blk_drewN ?_ _ | refine blk_drew ?_ | refine blk_alloc ?_ _)); refine blk_far ?_ NB112_115.out _; (with_reducible repeat (first | refine blk_drewN ?_ _ | refine blk_drew ?_ | refine blk_alloc ?_ _)); refine blk_far ?_ NB112_115.out _; (with_reducible repeat (first | refine blk_drewN ?_ _ | refine blk_drew ?_ | refine blk_alloc ?_ _)); exact BK112.out) hb); have n1_ := Aside0.mk (blk_below (g := gb115) (o := .cells #[.int .i64 ((rd_T25 l0_7 x17_2).f0), .int .i64 ((rd_T25 l0_7 x17_2).f1), .slice A114_2 ((rd_T25 l0_7 x17_2).f2).length c114_2, .int .i64 ((rd_T25 l0_7 x17_2).f3), .int .i64 ((rd_T25 l0_7 x17_2).f4), .int .i64 ((rd_T25 l0_7 x17_2).f5), .string ((rd_T25 l0_7 x17_2).f6), .slice A114_7 ((rd_T25 l0_7 x17_2).f7).length c114_7] 25 (0, 0)) (by (with_reducible repeat (first | refine blk_drewN ?_ _ | refine blk_drew ?_ | refine blk_alloc ?_ _)); refine blk_put (cs := #[.int .i64 ((rd_T25 l0_7 x17_2).f0), .int .i64 ((rd_T25 l0_7 x17_2).f1), .slice A114_2 ((rd_T25 l0_7 x17_2).f2).length c114_2, .int .i64 ((rd_T25 l0_7 x17_2).f3), .int .i64 ((rd_T25 l0_7 x17_2).f4), .int .i64 ((rd_T25 l0_7 x17_2).f5), .string ((rd_T25 l0_7 x17_2).f6), .slice none 0 0]) ?_ 7 _ rfl; (with_reducible repeat (first | refine blk_drewN ?_ _ | refine blk_drew ?_ | refine blk_alloc ?_ _)); refine blk_put (cs := #[.int .i64 ((rd_T25 l0_7 x17_2).f0), .int .i64 ((rd_T25 l0_7 x17_2).f1), .slice A114_2 ((rd_T25 l0_7 x17_2).f2).length c114_2, .int .i64 ((rd_T25 l0_7 x17_2).f3), .int .i64 ((rd_T25 l0_7 x17_2).f4), .int .i64 ((rd_T25 l0_7 x17_2).f5), .string (⟨#[]⟩ : ByteArray), .slice none 0 0]) ?_ 6 _ rfl; (with_reducible repeat (first | refine blk_drewN ?_ _ | refine blk_drew ?_ | refine blk_alloc ?_ _)); refine blk_put (cs := #[.int .i64 ((rd_T25 l0_7 x17_2).f0), .int .i64 ((rd_T25 l0_7 x17_2).f1), .slice A114_2 ((rd_T25 l0_7 x17_2).f2).length c114_2, .int .i64 ((rd_T25 l0_7 x17_2).f3), .int .i64 ((rd_T25 l0_7 x17_2).f4), .int .i64 0, .string (⟨#[]⟩ : ByteArray), .slice none 0 0]) ?_ 5 _ rfl; (with_reducible repeat (first | refine blk_drewN ?_ _ | refine blk_drew ?_ | refine blk_alloc ?_ _)); refine blk_put (cs := #[.int .i64 ((rd_T25 l0_7 x17_2).f0), .int .i64 ((rd_T25 l0_7 x17_2).f1), .slice A114_2 ((rd_T25 l0_7 x17_2).f2).length c114_2, .int .i64 ((rd_T25 l0_7 x17_2).f3), .int .i64 0, .int .i64 0, .string (⟨#[]⟩ : ByteArray), .slice none 0 0]) ?_ 4 _ rfl; (with_reducible repeat (first | refine blk_drewN ?_ _ | refine blk_drew ?_ | refine blk_alloc ?_ _)); refine blk_put (cs := #[.int .i64 ((rd_T25 l0_7 x17_2).f0), .int .i64 ((rd_T25 l0_7 x17_2).f1), .slice A114_2 ((rd_T25 l0_7 x17_2).f2).length c114_2, .int .i64 0, .int .i64 0, .int .i64 0, .string (⟨#[]⟩ : ByteArray), .slice none 0 0]) ?_ 3 _ rfl; (with_reducible repeat (first | refine blk_drewN ?_ _ | refine blk_drew ?_ | refine blk_alloc ?_ _)); refine blk_put (cs := #[.int .i64 ((rd_T25 l0_7 x17_2).f0), .int .i64 ((rd_T25 l0_7 x17_2).f1), .slice none 0 0, .int .i64 0, .int .i64 0, .int .i64 0, .string (⟨#[]⟩ : ByteArray), .slice none 0 0]) ?_ 2 _ rfl; (with_reducible repeat (first | refine blk_drewN ?_ _ | refine blk_drew ?_ | refine blk_alloc ?_ _)); refine blk_put (cs := #[.int .i64 ((rd_T25 l0_7 x17_2).f0), .int .i64 0, .slice none 0 0, .int .i64 0, .int .i64 0, .int .i64 0, .string (⟨#[]⟩ : ByteArray), .slice none 0 0]) ?_ 1 _ rfl; (with_reducible repeat (first | refine blk_drewN ?_ _ | refine blk_drew ?_ | refine blk_alloc ?_ _)); refine blk_put (cs := #[.int .i64 0, .int .i64 0, .slice none 0 0, .int .i64 0, .int .i64 0, .int .i64 0, .string (⟨#[]⟩ : ByteArray), .slice none 0 0]) ?_ 0 _ rfl; (with_reducible repeat (first | refine blk_drewN ?_ _ | refine blk_drew ?_ | refine blk_alloc ?_ _)); exact BK115.out) hb); have n2_ := Aside0.mk (below_step (by repeat (first | (with_reducible first | exact HB.out | apply below_alloc | apply pw_below_drewN | apply below_drew1 | refine below_set ?_ GE112.out | refine below_set ?_ GE115.out) | exact HB.out)) hb); clear BK112; clear BK115; clear HB; have BK112 := n0_; have BK115 := n1_; have HB := n2_; clear n0_ n1_ n2_; (try clear hb); (try clear hb2); (try clear hk); (try clear hi)))
                    go_roundg k2
                    case measure => have := HJ2.out; have := HK2.out; omega
                    case rel => exact ⟨(wrap64 (x17_2 + 1)), (by first | rfl | (simp; done) | (simp [*]; done)), H', ⟨by have := HJ2.out; have := HK2.out; omega⟩, ⟨by (with_reducible repeat (first | refine blk_drewN ?_ _ | refine blk_drew ?_ | refine blk_alloc ?_ _)); exact BK112.out⟩, ⟨by repeat (first | (with_reducible first | exact HB.out | apply below_alloc | apply pw_below_drewN | apply below_drew1 | refine below_set ?_ GE112.out | refine below_set ?_ GE115.out) | exact HB.out)⟩⟩
                  · replace c15 := Bool.eq_false_iff.mpr c15
                    subst c15
                    have H1 : (some false) = some r := by rw [if_neg (show ¬ (false = true) by decide)] at H; exact H
                    clear H
                    have H := H1
                    clear H1
                    obtain rfl := Option.some.inj H
                    have p114 : 0 ≤ (x17_2 : Int) := of_decide_eq_true (by first | (with_reducible assumption) | assumption)
                    have q114 : x17_2 < (l0_7.length : Int) := of_decide_eq_true (by first | (with_reducible assumption) | assumption)
                    obtain ⟨ad114, A114_2, c114_2, A114_7, c114_7, e114, hx114_0, hx114_1, hx114_2, hx114_3, hx114_4, hx114_5, hx114_6, hx114_7, hl114_2, hi114_2, hl114_7, hi114_7⟩ := at_T25 HR0_7.out x17_2 p114 q114
                    cases e114
                    replace hx114_0 := (HB.out.cell (World.block_lt_of_cell? w _ hx114_0)).trans hx114_0
                    replace hx114_1 := (HB.out.cell (World.block_lt_of_cell? w _ hx114_1)).trans hx114_1
                    replace hx114_2 := (HB.out.cell (World.block_lt_of_cell? w _ hx114_2)).trans hx114_2
                    replace hx114_3 := (HB.out.cell (World.block_lt_of_cell? w _ hx114_3)).trans hx114_3
                    replace hx114_4 := (HB.out.cell (World.block_lt_of_cell? w _ hx114_4)).trans hx114_4
                    replace hx114_5 := (HB.out.cell (World.block_lt_of_cell? w _ hx114_5)).trans hx114_5
                    replace hx114_6 := (HB.out.cell (World.block_lt_of_cell? w _ hx114_6)).trans hx114_6
                    replace hx114_7 := (HB.out.cell (World.block_lt_of_cell? w _ hx114_7)).trans hx114_7
                    have HR114_2 := Aside0.mk hi114_2
                    have HC114_2 := Aside0.mk hl114_2
                    clear hi114_2 hl114_2
                    have HR114_7 := Aside0.mk hi114_7
                    have HC114_7 := Aside0.mk hl114_7
                    clear hi114_7 hl114_7
                    replace p114 := eq_true p114
                    replace q114 := eq_true q114
                    go_wp2_with (first | ((with_reducible refine gate_dst (N := 6) rfl ?_); refine box_event ?hg (N := 6) ?hd (cs := #[.int .i64 0, .int .i64 0, .slice none 0 0, .int .i64 0, .int .i64 0, .int .i64 0, .string (⟨#[]⟩ : ByteArray), .slice none 0 0]) (t := 25) ?hr ?_; (case hd => rfl); (case hg => rfl); (case hr => first | (go_simp; done) | (go_simp; rfl)); intro gb115 hg w20 hbox hb; have n0_ := Aside0.mk (blk_below (g := gb112) (o := .cells #[.int .i64 a0_0, .int .i64 a0_1, .slice A0_2 l0_2.length c0_2, .int .i64 a0_3, .int .i64 a0_4, .int .i64 a0_5, .string a0_6, .slice (some ad114) l0_7.length c0_7] 25 (0, 0)) (by (with_reducible repeat (first | refine blk_drewN ?_ _ | refine blk_drew ?_ | refine blk_alloc ?_ _)); exact BK112.out) hb); have n1_ := Aside0.mk (below_step (by repeat (first | (with_reducible first | exact HB.out | apply below_alloc | apply pw_below_drewN | apply below_drew1 | refine below_set ?_ GE112.out) | exact HB.out)) hb); have n2_ := Aside0.mk (hbox); have n3_ := Aside0.mk ((by rw [hg]; exact (below_size (by repeat (first | (with_reducible first | exact HB.out | apply below_alloc | apply pw_below_drewN | apply below_drew1 | refine below_set ?_ GE112.out) | exact HB.out))) : w.heap.size ≤ gb115)); have n4_ := Aside0.mk ((by rw [hg]; exact (below_size (by repeat (first | (with_reducible first | exact HB.out | apply below_alloc | apply pw_below_drewN | apply below_drew1 | refine below_set ?_ GE112.out) | exact HB.out))) : w.heap.size ≤ gb115)); have n5_ := Aside0.mk ((by rw [hg]; exact Nat.ne_of_lt (blk_lt (g := gb112) (o := .cells #[.int .i64 a0_0, .int .i64 a0_1, .slice A0_2 l0_2.length c0_2, .int .i64 a0_3, .int .i64 a0_4, .int .i64 a0_5, .string a0_6, .slice (some ad114) l0_7.length c0_7] 25 (0, 0)) (by (with_reducible repeat (first | refine blk_drewN ?_ _ | refine blk_drew ?_ | refine blk_alloc ?_ _)); exact BK112.out)) : gb112 ≠ gb115)); have n6_ := Aside0.mk ((by rw [hg]; exact Nat.ne_of_gt (blk_lt (g := gb112) (o := .cells #[.int .i64 a0_0, .int .i64 a0_1, .slice A0_2 l0_2.length c0_2, .int .i64 a0_3, .int .i64 a0_4, .int .i64 a0_5, .string a0_6, .slice (some ad114) l0_7.length c0_7] 25 (0, 0)) (by (with_reducible repeat (first | refine blk_drewN ?_ _ | refine blk_drew ?_ | refine blk_alloc ?_ _)); exact BK112.out)) : gb115 ≠ gb112)); clear BK112; clear HB; have BK112 := n0_; have HB := n1_; have BK115 := n2_; have GW115 := n3_; have GE115 := n4_; have NB112_115 := n5_; have NB115_112 := n6_; clear n0_ n1_ n2_ n3_ n4_ n5_ n6_; clear hb hbox hg; have hnb21 := NB115_112.out; have hnc21 := NB112_115.out; have hcz22_0 : w20.cell? ⟨gb115, 0, none⟩ = some (.int .i64 0) := (blk_cell BK115.out 0).trans rfl; have hcz22_1 : w20.cell? ⟨gb115, 1, none⟩ = some (.int .i64 0) := (blk_cell BK115.out 1).trans rfl; have hcz22_2 : w20.cell? ⟨gb115, 2, none⟩ = some (.slice none 0 0) := (blk_cell BK115.out 2).trans rfl; have hcz22_3 : w20.cell? ⟨gb115, 3, none⟩ = some (.int .i64 0) := (blk_cell BK115.out 3).trans rfl; have hcz22_4 : w20.cell? ⟨gb115, 4, none⟩ = some (.int .i64 0) := (blk_cell BK115.out 4).trans rfl; have hcz22_5 : w20.cell? ⟨gb115, 5, none⟩ = some (.int .i64 0) := (blk_cell BK115.out 5).trans rfl; have hcz22_6 : w20.cell? ⟨gb115, 6, none⟩ = some (.string (⟨#[]⟩ : ByteArray)) := (blk_cell BK115.out 6).trans rfl; have hcz22_7 : w20.cell? ⟨gb115, 7, none⟩ = some (.slice none 0 0) := (blk_cell BK115.out 7).trans rfl; have hfz22_0 := blk_frozen BK115.out 0; have hfz22_1 := blk_frozen BK115.out 1; have hfz22_2 := blk_frozen BK115.out 2; have hfz22_3 := blk_frozen BK115.out 3; have hfz22_4 := blk_frozen BK115.out 4; have hfz22_5 := blk_frozen BK115.out 5; have hfz22_6 := blk_frozen BK115.out 6; have hfz22_7 := blk_frozen BK115.out 7) | ((with_reducible refine gate_callee (f := 15) rfl ?_); refine goesL_ (some 24) rfl rfl Tryd.func15 (by kernel_rfl) rfl #[.agg #[.int .i64 ((rd_T25 l0_7 x17_2).f0), .int .i64 ((rd_T25 l0_7 x17_2).f1), .slice A114_2 ((rd_T25 l0_7 x17_2).f2).length c114_2, .int .i64 ((rd_T25 l0_7 x17_2).f3), .int .i64 ((rd_T25 l0_7 x17_2).f4), .int .i64 ((rd_T25 l0_7 x17_2).f5), .string ((rd_T25 l0_7 x17_2).f6), .slice A114_7 ((rd_T25 l0_7 x17_2).f7).length c114_7], .int .i64 (wrap64 (a1 - 1))] rfl (by (try simp only [List.map_toArray, List.map_cons, List.map_nil]); first | done | rfl | (simp only [List.length_drop, List.length_take]; rfl)) ?_; (with_reducible refine (ih k2 (by have := HJ2.out; have := HK2.out; omega) ((rd_T25 l0_7 x17_2).f0) ((rd_T25 l0_7 x17_2).f1) _ _ ((rd_T25 l0_7 x17_2).f2) ((rd_T25 l0_7 x17_2).f3) ((rd_T25 l0_7 x17_2).f4) ((rd_T25 l0_7 x17_2).f5) ((rd_T25 l0_7 x17_2).f6) _ _ ((rd_T25 l0_7 x17_2).f7) (wrap64 (a1 - 1)) false _ ?side1 ?side2 ?side3 ?side4 A14.out).mono ?_); (case side1 => exact Kd.C_below HR114_2.out (by repeat (first | (with_reducible first | exact HB.out | apply below_alloc | apply pw_below_drewN | apply below_drew1 | refine below_set ?_ GE112.out | refine below_set ?_ GE115.out) | exact HB.out))); (case side2 => exact HC114_2.out); (case side3 => exact Kd.C_below HR114_7.out (by repeat (first | (with_reducible first | exact HB.out | apply below_alloc | apply pw_below_drewN | apply below_drew1 | refine below_set ?_ GE112.out | refine below_set ?_ GE115.out) | exact HB.out))); (case side4 => exact HC114_7.out); rintro e w23 ⟨rfl, hb⟩; refine ⟨_, rfl, ?_⟩; have n0_ := Aside0.mk (blk_below (g := gb112) (o := .cells #[.int .i64 a0_0, .int .i64 a0_1, .slice A0_2 l0_2.length c0_2, .int .i64 a0_3, .int .i64 a0_4, .int .i64 a0_5, .string a0_6, .slice (some ad114) l0_7.length c0_7] 25 (0, 0)) (by (with_reducible repeat (first | refine blk_drewN ?_ _ | refine blk_drew ?_ | refine blk_alloc ?_ _)); refine blk_far ?_ NB112_115.out _; (with_reducible repeat (first | refine blk_drewN ?_ _ | refine blk_drew ?_ | refine blk_alloc ?_ _)); refine blk_far ?_ NB112_115.out _; (with_reducible repeat (first | refine blk_drewN ?_ _ | refine blk_drew ?_ | refine blk_alloc ?_ _)); refine blk_far ?_ NB112_115.out _; (with_reducible repeat (first | refine blk_drewN ?_ _ | refine blk_drew ?_ | refine blk_alloc ?_ _)); refine blk_far ?_ NB112_115.out _; (with_reducible repeat (first | refine blk_drewN ?_ _ | refine blk_drew ?_ | refine blk_alloc ?_ _)); refine blk_far ?_ NB112_115.out _; (with_reducible repeat (first | refine blk_drewN ?_ _ | refine blk_drew ?_ | refine blk_alloc ?_ _)); refine blk_far ?_ NB112_115.out _; (with_reducible repeat (first | refine blk_drewN ?_ _ | refine blk_drew ?_ | refine blk_alloc ?_ _)); refine blk_far ?_ NB112_115.out _; (with_reducible repeat (first | refine blk_drewN ?_ _ | refine blk_drew ?_ | refine blk_alloc ?_ _)); refine blk_far ?_ NB112_115.out _; (with_reducible repeat (first | refine blk_drewN ?_ _ | refine blk_drew ?_ | refine blk_alloc ?_ _)); exact BK112.out) hb); have n1_ := Aside0.mk (blk_below (g := gb115) (o := .cells #[.int .i64 ((rd_T25 l0_7 x17_2).f0), .int .i64 ((rd_T25 l0_7 x17_2).f1), .slice A114_2 ((rd_T25 l0_7 x17_2).f2).length c114_2, .int .i64 ((rd_T25 l0_7 x17_2).f3), .int .i64 ((rd_T25 l0_7 x17_2).f4), .int .i64 ((rd_T25 l0_7 x17_2).f5), .string ((rd_T25 l0_7 x17_2).f6), .slice A114_7 ((rd_T25 l0_7 x17_2).f7).length c114_7] 25 (0, 0)) (by (with_reducible repeat (first | refine blk_drewN ?_ _ | refine blk_drew ?_ | refine blk_alloc ?_ _)); refine blk_put (cs := #[.int .i64 ((rd_T25 l0_7 x17_2).f0), .int .i64 ((rd_T25 l0_7 x17_2).f1), .slice A114_2 ((rd_T25 l0_7 x17_2).f2).length c114_2, .int .i64 ((rd_T25 l0_7 x17_2).f3), .int .i64 ((rd_T25 l0_7 x17_2).f4), .int .i64 ((rd_T25 l0_7 x17_2).f5), .string ((rd_T25 l0_7 x17_2).f6), .slice none 0 0]) ?_ 7 _ rfl; (with_reducible repeat (first | refine blk_drewN ?_ _ | refine blk_drew ?_ | refine blk_alloc ?_ _)); refine blk_put (cs := #[.int .i64 ((rd_T25 l0_7 x17_2).f0), .int .i64 ((rd_T25 l0_7 x17_2).f1), .slice A114_2 ((rd_T25 l0_7 x17_2).f2).length c114_2, .int .i64 ((rd_T25 l0_7 x17_2).f3), .int .i64 ((rd_T25 l0_7 x17_2).f4), .int .i64 ((rd_T25 l0_7 x17_2).f5), .string (⟨#[]⟩ : ByteArray), .slice none 0 0]) ?_ 6 _ rfl; (with_reducible repeat (first | refine blk_drewN ?_ _ | refine blk_drew ?_ | refine blk_alloc ?_ _)); refine blk_put (cs := #[.int .i64 ((rd_T25 l0_7 x17_2).f0), .int .i64 ((rd_T25 l0_7 x17_2).f1), .slice A114_2 ((rd_T25 l0_7 x17_2).f2).length c114_2, .int .i64 ((rd_T25 l0_7 x17_2).f3), .int .i64 ((rd_T25 l0_7 x17_2).f4), .int .i64 0, .string (⟨#[]⟩ : ByteArray), .slice none 0 0]) ?_ 5 _ rfl; (with_reducible repeat (first | refine blk_drewN ?_ _ | refine blk_drew ?_ | refine blk_alloc ?_ _)); refine blk_put (cs := #[.int .i64 ((rd_T25 l0_7 x17_2).f0), .int .i64 ((rd_T25 l0_7 x17_2).f1), .slice A114_2 ((rd_T25 l0_7 x17_2).f2).length c114_2, .int .i64 ((rd_T25 l0_7 x17_2).f3), .int .i64 0, .int .i64 0, .string (⟨#[]⟩ : ByteArray), .slice none 0 0]) ?_ 4 _ rfl; (with_reducible repeat (first | refine blk_drewN ?_ _ | refine blk_drew ?_ | refine blk_alloc ?_ _)); refine blk_put (cs := #[.int .i64 ((rd_T25 l0_7 x17_2).f0), .int .i64 ((rd_T25 l0_7 x17_2).f1), .slice A114_2 ((rd_T25 l0_7 x17_2).f2).length c114_2, .int .i64 0, .int .i64 0, .int .i64 0, .string (⟨#[]⟩ : ByteArray), .slice none 0 0]) ?_ 3 _ rfl; (with_reducible repeat (first | refine blk_drewN ?_ _ | refine blk_drew ?_ | refine blk_alloc ?_ _)); refine blk_put (cs := #[.int .i64 ((rd_T25 l0_7 x17_2).f0), .int .i64 ((rd_T25 l0_7 x17_2).f1), .slice none 0 0, .int .i64 0, .int .i64 0, .int .i64 0, .string (⟨#[]⟩ : ByteArray), .slice none 0 0]) ?_ 2 _ rfl; (with_reducible repeat (first | refine blk_drewN ?_ _ | refine blk_drew ?_ | refine blk_alloc ?_ _)); refine blk_put (cs := #[.int .i64 ((rd_T25 l0_7 x17_2).f0), .int .i64 0, .slice none 0 0, .int .i64 0, .int .i64 0, .int .i64 0, .string (⟨#[]⟩ : ByteArray), .slice none 0 0]) ?_ 1 _ rfl; (with_reducible repeat (first | refine blk_drewN ?_ _ | refine blk_drew ?_ | refine blk_alloc ?_ _)); refine blk_put (cs := #[.int .i64 0, .int .i64 0, .slice none 0 0, .int .i64 0, .int .i64 0, .int .i64 0, .string (⟨#[]⟩ : ByteArray), .slice none 0 0]) ?_ 0 _ rfl; (with_reducible repeat (first | refine blk_drewN ?_ _ | refine blk_drew ?_ | refine blk_alloc ?_ _)); exact BK115.out) hb); have n2_ := Aside0.mk (below_step (by repeat (first | (with_reducible first | exact HB.out | apply below_alloc | apply pw_below_drewN | apply below_drew1 | refine below_set ?_ GE112.out | refine below_set ?_ GE115.out) | exact HB.out)) hb); clear BK112; clear BK115; clear HB; have BK112 := n0_; have BK115 := n1_; have HB := n2_; clear n0_ n1_ n2_; (try clear hb); (try clear hb2); (try clear hk); (try clear hi)))
                    go_ret
                    exact ⟨by first | rfl | (simp [errW_none, errW_some] <;> rfl) | (simp [*, errW_none, errW_some] <;> rfl), by repeat (first | (with_reducible first | exact HB.out | apply below_alloc | apply pw_below_drewN | apply below_drew1 | refine below_set ?_ GE112.out | refine below_set ?_ GE115.out) | exact HB.out)⟩
                · rw [if_neg c13] at H
                  exact absurd H (by simp)
              · rw [if_neg c12] at H
                exact absurd H (by simp)
            · rw [if_neg c11] at H
              have c11b0 : decide (x17_2 < (l0_7.length : Int)) = false := decide_eq_false c11
              clear c11
              obtain rfl := Option.some.inj H
              go_wp2
              go_ret
              exact ⟨by first | rfl | (simp [errW_none, errW_some] <;> rfl) | (simp [*, errW_none, errW_some] <;> rfl), by repeat (first | (with_reducible first | exact HB.out | apply below_alloc | apply pw_below_drewN | apply below_drew1 | refine below_set ?_ GE112.out) | exact HB.out)⟩

/-! ### spec_reCaps: function 16 -/
mutual
def spec_reCaps.j0 : Nat → Int → Int → Int → List Int → Int → Int → Int → ByteArray → List (S25) → Option (Int)
  | 0, _, _, _, _, _, _, _, _, _ => none
  | k + 1, x1, x118000, x118001, x118002, x118003, x118004, x118005, x118006, x118007 => spec_reCaps.l0 k x1 x118007 (x118007.length : Int) 0
def spec_reCaps.l0 : Nat → Int → List (S25) → Int → Int → Option (Int)
  | 0, _, _, _, _ => none
  | k + 1, x1, x17, x18, x19 => if x19 < x18 then (if 0 ≤ x19 then (if x19 < (x17.length : Int) then ((spec_reCaps.f k ((rd_T25 x17 x19).f0) ((rd_T25 x17 x19).f1) ((rd_T25 x17 x19).f2) ((rd_T25 x17 x19).f3) ((rd_T25 x17 x19).f4) ((rd_T25 x17 x19).f5) ((rd_T25 x17 x19).f6) ((rd_T25 x17 x19).f7) x1).bind fun t120 => (if t120 < 0 then (some (-1)) else (spec_reCaps.l0 k t120 x17 x18 (wrap64 (x19 + 1))))) else (none)) else (none)) else (some x1)
def spec_reCaps.f : Nat → Int → Int → List Int → Int → Int → Int → ByteArray → List (S25) → Int → Option (Int)
  | 0, _, _, _, _, _, _, _, _, _ => none
  | k + 1, a0_0, a0_1, l0_2, a0_3, a0_4, a0_5, a0_6, l0_7, a1 => if a0_0 = 13 then (if a0_5 = a1 then (spec_reCaps.j0 k (wrap64 (a1 + 1)) a0_0 a0_1 l0_2 a0_3 a0_4 a0_5 a0_6 l0_7) else (some (-1))) else (spec_reCaps.j0 k a1 a0_0 a0_1 l0_2 a0_3 a0_4 a0_5 a0_6 l0_7)
end
theorem spec_reCaps.mono_l : ∀ k, (∀ y0 y1 y2 y3 y4 y5 y6 y7 y8, LeO (spec_reCaps.f k y0 y1 y2 y3 y4 y5 y6 y7 y8) (spec_reCaps.f (k + 1) y0 y1 y2 y3 y4 y5 y6 y7 y8)) ∧ (∀ y0 y1 y2 y3 y4 y5 y6 y7 y8, LeO (spec_reCaps.j0 k y0 y1 y2 y3 y4 y5 y6 y7 y8) (spec_reCaps.j0 (k + 1) y0 y1 y2 y3 y4 y5 y6 y7 y8)) ∧ (∀ y0 y1 y2 y3, LeO (spec_reCaps.l0 k y0 y1 y2 y3) (spec_reCaps.l0 (k + 1) y0 y1 y2 y3))
  | 0 => ⟨fun _ _ _ _ _ _ _ _ _ r h => by simp [spec_reCaps.f] at h, fun _ _ _ _ _ _ _ _ _ r h => by simp [spec_reCaps.j0] at h, fun _ _ _ _ r h => by simp [spec_reCaps.l0] at h⟩
  | k + 1 => by
    obtain ⟨ih0, ih1, ih2⟩ := spec_reCaps.mono_l k
    refine ⟨?_, ?_, ?_⟩
    · intro y0 y1 y2 y3 y4 y5 y6 y7 y8
      unfold spec_reCaps.f
      repeat' first
      | (with_reducible exact ih0 _ _ _ _ _ _ _ _ _)
      | (with_reducible exact ih1 _ _ _ _ _ _ _ _ _)
      | (with_reducible exact ih2 _ _ _ _)
      | (with_reducible exact LeO.refl _)
      | (with_reducible exact LeO.none _)
      | (with_reducible refine LeO.ite ?_ ?_)
      | (with_reducible refine LeO.bind ?_ (fun _ => ?_))
      | exact ih0 _ _ _ _ _ _ _ _ _
      | exact ih1 _ _ _ _ _ _ _ _ _
      | exact ih2 _ _ _ _
      | exact LeO.none _
      | refine LeO.ite ?_ ?_
      | refine LeO.bind ?_ (fun _ => ?_)
    · intro y0 y1 y2 y3 y4 y5 y6 y7 y8
      unfold spec_reCaps.j0
      repeat' first
      | (with_reducible exact ih0 _ _ _ _ _ _ _ _ _)
      | (with_reducible exact ih1 _ _ _ _ _ _ _ _ _)
      | (with_reducible exact ih2 _ _ _ _)
      | (with_reducible exact LeO.refl _)
      | (with_reducible exact LeO.none _)
      | (with_reducible refine LeO.ite ?_ ?_)
      | (with_reducible refine LeO.bind ?_ (fun _ => ?_))
      | exact ih0 _ _ _ _ _ _ _ _ _
      | exact ih1 _ _ _ _ _ _ _ _ _
      | exact ih2 _ _ _ _
      | exact LeO.none _
      | refine LeO.ite ?_ ?_
      | refine LeO.bind ?_ (fun _ => ?_)
    · intro y0 y1 y2 y3
      unfold spec_reCaps.l0
      repeat' first
      | (with_reducible exact ih0 _ _ _ _ _ _ _ _ _)
      | (with_reducible exact ih1 _ _ _ _ _ _ _ _ _)
      | (with_reducible exact ih2 _ _ _ _)
      | (with_reducible exact LeO.refl _)
      | (with_reducible exact LeO.none _)
      | (with_reducible refine LeO.ite ?_ ?_)
      | (with_reducible refine LeO.bind ?_ (fun _ => ?_))
      | exact ih0 _ _ _ _ _ _ _ _ _
      | exact ih1 _ _ _ _ _ _ _ _ _
      | exact ih2 _ _ _ _
      | exact LeO.none _
      | refine LeO.ite ?_ ?_
      | refine LeO.bind ?_ (fun _ => ?_)
theorem spec_reCaps.mono : ∀ a0 a1 a2 a3 a4 a5 a6 a7 a8 k, LeO (spec_reCaps.f k a0 a1 a2 a3 a4 a5 a6 a7 a8) (spec_reCaps.f (k + 1) a0 a1 a2 a3 a4 a5 a6 a7 a8) := by
  intro a0 a1 a2 a3 a4 a5 a6 a7 a8 k
  obtain ⟨ih0, ih1, ih2⟩ := spec_reCaps.mono_l k
  exact ih0 a0 a1 a2 a3 a4 a5 a6 a7 a8
set_option maxHeartbeats 8000000 in
set_option maxRecDepth 100000 in
theorem spec_reCaps.calls (k : Nat) : ∀ (a0_0 : Int) (a0_1 : Int) (A0_2 : Option Addr) (c0_2 : Nat) (l0_2 : List Int) (a0_3 : Int) (a0_4 : Int) (a0_5 : Int) (a0_6 : ByteArray) (A0_7 : Option Addr) (c0_7 : Nat) (l0_7 : List (S25)) (a1 : Int) (r : Int) (w : World) (hr0_2 : Kd.C (Kd.int .i32) w A0_2 l0_2.length l0_2) (hc0_2 : l0_2.length ≤ c0_2) (hr0_7 : Kd.C k25 w A0_7 l0_7.length l0_7) (hc0_7 : l0_7.length ≤ c0_7) (h : spec_reCaps.f k a0_0 a0_1 l0_2 a0_3 a0_4 a0_5 a0_6 l0_7 a1 = some r),
    Calls Tryd.prog 16 #[.agg #[.int .i64 a0_0, .int .i64 a0_1, .slice A0_2 l0_2.length c0_2, .int .i64 a0_3, .int .i64 a0_4, .int .i64 a0_5, .string a0_6, .slice A0_7 l0_7.length c0_7], .int .i64 a1] w fun e w' => e = .returned (.int .i64 r) ∧ Below w.heap.size w w' := by
  induction k using Nat.strongRecOn with
  | _ k ih =>
  intro a0_0 a0_1 A0_2 c0_2 l0_2 a0_3 a0_4 a0_5 a0_6 A0_7 c0_7 l0_7 a1 r w hr0_2 hc0_2 hr0_7 hc0_7 h
  cases k with
  | zero => exact absurd h (by simp [spec_reCaps.f])
  | succ k =>
  simp only [spec_reCaps.f] at h
  have hu25 := Tryd.underlying25
  have HR0_2 := Aside0.mk hr0_2
  have HC0_2 := Aside0.mk hc0_2
  clear hr0_2 hc0_2
  have HR0_7 := Aside0.mk hr0_7
  have HC0_7 := Aside0.mk hc0_7
  clear hr0_7 hc0_7
  have HB := Aside0.mk (Below.refl w.heap.size w)
  have H : (if a0_0 = 13 then (if a0_5 = a1 then (spec_reCaps.j0 k (wrap64 (a1 + 1)) a0_0 a0_1 l0_2 a0_3 a0_4 a0_5 a0_6 l0_7) else (some (-1))) else (spec_reCaps.j0 k a1 a0_0 a0_1 l0_2 a0_3 a0_4 a0_5 a0_6 l0_7)) = some r := h
  clear h
  have HC3 := Aside0.mk H
  clear H
  go_enter Tryd.func16, Tryd.ntmps16
  go_upto_if 9 with (first | ((with_reducible refine gate_dst (N := 2) rfl ?_); refine box_event ?hg (N := 2) ?hd (cs := #[.int .i64 a0_0, .int .i64 a0_1, .slice A0_2 l0_2.length c0_2, .int .i64 a0_3, .int .i64 a0_4, .int .i64 a0_5, .string a0_6, .slice A0_7 l0_7.length c0_7]) (t := 25) ?hr ?_; (case hd => rfl); (case hg => rfl); (case hr => first | (go_simp; done) | (go_simp; rfl)); intro gb117 hg w4 hbox hb; have n0_ := Aside0.mk (below_step (by repeat (first | (with_reducible first | exact HB.out | apply below_alloc | apply pw_below_drewN | apply below_drew1) | exact HB.out)) hb); have n1_ := Aside0.mk (hbox); have n2_ := Aside0.mk ((by rw [hg]; exact (below_size (by repeat (first | (with_reducible first | exact HB.out | apply below_alloc | apply pw_below_drewN | apply below_drew1) | exact HB.out))) : w.heap.size ≤ gb117)); have n3_ := Aside0.mk ((by rw [hg]; exact (below_size (by repeat (first | (with_reducible first | exact HB.out | apply below_alloc | apply pw_below_drewN | apply below_drew1) | exact HB.out))) : w.heap.size ≤ gb117)); clear HB; have HB := n0_; have BK117 := n1_; have GW117 := n2_; have GE117 := n3_; clear n0_ n1_ n2_ n3_; clear hb hbox hg; have hcz5_0 : w4.cell? ⟨gb117, 0, none⟩ = some (.int .i64 a0_0) := (blk_cell BK117.out 0).trans rfl; have hcz5_1 : w4.cell? ⟨gb117, 1, none⟩ = some (.int .i64 a0_1) := (blk_cell BK117.out 1).trans rfl; have hcz5_2 : w4.cell? ⟨gb117, 2, none⟩ = some (.slice A0_2 l0_2.length c0_2) := (blk_cell BK117.out 2).trans rfl; have hcz5_3 : w4.cell? ⟨gb117, 3, none⟩ = some (.int .i64 a0_3) := (blk_cell BK117.out 3).trans rfl; have hcz5_4 : w4.cell? ⟨gb117, 4, none⟩ = some (.int .i64 a0_4) := (blk_cell BK117.out 4).trans rfl; have hcz5_5 : w4.cell? ⟨gb117, 5, none⟩ = some (.int .i64 a0_5) := (blk_cell BK117.out 5).trans rfl; have hcz5_6 : w4.cell? ⟨gb117, 6, none⟩ = some (.string a0_6) := (blk_cell BK117.out 6).trans rfl; have hcz5_7 : w4.cell? ⟨gb117, 7, none⟩ = some (.slice A0_7 l0_7.length c0_7) := (blk_cell BK117.out 7).trans rfl; have hfz5_0 := blk_frozen BK117.out 0; have hfz5_1 := blk_frozen BK117.out 1; have hfz5_2 := blk_frozen BK117.out 2; have hfz5_3 := blk_frozen BK117.out 3; have hfz5_4 := blk_frozen BK117.out 4; have hfz5_5 := blk_frozen BK117.out 5; have hfz5_6 := blk_frozen BK117.out 6; have hfz5_7 := blk_frozen BK117.out 7))
  (try simp only [Act.put, List.setIfInBounds_toArray, List.set_cons_zero, List.set_cons_succ])
  go_cut [1] (fun v1 wc => ∃ (kq : Nat) (x1_2 : Int), v1 = .int .i64 x1_2 ∧ Aside0 (spec_reCaps.j0 kq x1_2 a0_0 a0_1 l0_2 a0_3 a0_4 a0_5 a0_6 l0_7 = some r) ∧ Aside0 (kq ≤ k) ∧ Aside0 (wc.heap[gb117]? = some (.cells #[.int .i64 a0_0, .int .i64 a0_1, (.slice A0_2 l0_2.length c0_2), .int .i64 a0_3, .int .i64 a0_4, .int .i64 a0_5, .string a0_6, (.slice A0_7 l0_7.length c0_7)] 25 (0, 0))) ∧ Aside0 (Below w.heap.size w wc))
  case first =>
    have H := HC3.out
    clear HC3
    by_cases c6 : a0_0 = 13
    · rw [if_pos c6] at H
      have c6b0 : (a0_0 == 13) = true := beq_iff_eq.mpr c6
      have c6b1 : (a0_0 != 13) = false := bne_eq_false_iff_eq.mpr c6
      clear c6
      (first | rw [c6b0] | (simp only [i64_w, i32_w]; rw [c6b0]) | skip)
      by_cases c7 : a0_5 = a1
      · rw [if_pos c7] at H
        have c7b0 : (a0_5 == a1) = true := beq_iff_eq.mpr c7
        have c7b1 : (a0_5 != a1) = false := bne_eq_false_iff_eq.mpr c7
        clear c7
        have H' := Aside0.mk H
        clear H
        have hcz8_0 : w4.cell? ⟨gb117, 0, none⟩ = some (.int .i64 a0_0) := (blk_cell BK117.out 0).trans rfl
        have hcz8_1 : w4.cell? ⟨gb117, 1, none⟩ = some (.int .i64 a0_1) := (blk_cell BK117.out 1).trans rfl
        have hcz8_2 : w4.cell? ⟨gb117, 2, none⟩ = some (.slice A0_2 l0_2.length c0_2) := (blk_cell BK117.out 2).trans rfl
        have hcz8_3 : w4.cell? ⟨gb117, 3, none⟩ = some (.int .i64 a0_3) := (blk_cell BK117.out 3).trans rfl
        have hcz8_4 : w4.cell? ⟨gb117, 4, none⟩ = some (.int .i64 a0_4) := (blk_cell BK117.out 4).trans rfl
        have hcz8_5 : w4.cell? ⟨gb117, 5, none⟩ = some (.int .i64 a0_5) := (blk_cell BK117.out 5).trans rfl
        have hcz8_6 : w4.cell? ⟨gb117, 6, none⟩ = some (.string a0_6) := (blk_cell BK117.out 6).trans rfl
        have hcz8_7 : w4.cell? ⟨gb117, 7, none⟩ = some (.slice A0_7 l0_7.length c0_7) := (blk_cell BK117.out 7).trans rfl
        have hfz8_0 := blk_frozen BK117.out 0
        have hfz8_1 := blk_frozen BK117.out 1
        have hfz8_2 := blk_frozen BK117.out 2
        have hfz8_3 := blk_frozen BK117.out 3
        have hfz8_4 := blk_frozen BK117.out 4
        have hfz8_5 := blk_frozen BK117.out 5
        have hfz8_6 := blk_frozen BK117.out 6
        have hfz8_7 := blk_frozen BK117.out 7
        go_wp2
        go_meet
        case rel => exact ⟨_, (wrap64 (a1 + 1)), (by first | rfl | (simp; done) | (simp [*]; done)), H', ⟨by first | omega | exact Nat.le_refl _⟩, ⟨by (with_reducible repeat (first | refine blk_drewN ?_ _ | refine blk_drew ?_ | refine blk_alloc ?_ _)); exact BK117.out⟩, ⟨by repeat (first | (with_reducible first | exact HB.out | apply below_alloc | apply pw_below_drewN | apply below_drew1 | refine below_set ?_ GE117.out) | exact HB.out)⟩⟩
      · rw [if_neg c7] at H
        have c7b0 : (a0_5 == a1) = false := beq_eq_false_iff_ne.mpr c7
        have c7b1 : (a0_5 != a1) = true := bne_iff_ne.mpr c7
        obtain rfl := Option.some.inj H
        have hcz9_0 : w4.cell? ⟨gb117, 0, none⟩ = some (.int .i64 a0_0) := (blk_cell BK117.out 0).trans rfl
        have hcz9_1 : w4.cell? ⟨gb117, 1, none⟩ = some (.int .i64 a0_1) := (blk_cell BK117.out 1).trans rfl
        have hcz9_2 : w4.cell? ⟨gb117, 2, none⟩ = some (.slice A0_2 l0_2.length c0_2) := (blk_cell BK117.out 2).trans rfl
        have hcz9_3 : w4.cell? ⟨gb117, 3, none⟩ = some (.int .i64 a0_3) := (blk_cell BK117.out 3).trans rfl
        have hcz9_4 : w4.cell? ⟨gb117, 4, none⟩ = some (.int .i64 a0_4) := (blk_cell BK117.out 4).trans rfl
        have hcz9_5 : w4.cell? ⟨gb117, 5, none⟩ = some (.int .i64 a0_5) := (blk_cell BK117.out 5).trans rfl
        have hcz9_6 : w4.cell? ⟨gb117, 6, none⟩ = some (.string a0_6) := (blk_cell BK117.out 6).trans rfl
        have hcz9_7 : w4.cell? ⟨gb117, 7, none⟩ = some (.slice A0_7 l0_7.length c0_7) := (blk_cell BK117.out 7).trans rfl
        have hfz9_0 := blk_frozen BK117.out 0
        have hfz9_1 := blk_frozen BK117.out 1
        have hfz9_2 := blk_frozen BK117.out 2
        have hfz9_3 := blk_frozen BK117.out 3
        have hfz9_4 := blk_frozen BK117.out 4
        have hfz9_5 := blk_frozen BK117.out 5
        have hfz9_6 := blk_frozen BK117.out 6
        have hfz9_7 := blk_frozen BK117.out 7
        go_wp2
        go_ret
        exact ⟨by first | rfl | (simp [errW_none, errW_some] <;> rfl) | (simp [*, errW_none, errW_some] <;> rfl), by repeat (first | (with_reducible first | exact HB.out | apply below_alloc | apply pw_below_drewN | apply below_drew1 | refine below_set ?_ GE117.out) | exact HB.out)⟩
    · rw [if_neg c6] at H
      have c6b0 : (a0_0 == 13) = false := beq_eq_false_iff_ne.mpr c6
      have c6b1 : (a0_0 != 13) = true := bne_iff_ne.mpr c6
      (first | rw [c6b0] | (simp only [i64_w, i32_w]; rw [c6b0]) | skip)
      have H' := Aside0.mk H
      clear H
      go_wp2
      go_meet
      case rel => exact ⟨_, (a1), (by first | rfl | (simp; done) | (simp [*]; done)), H', ⟨by first | omega | exact Nat.le_refl _⟩, ⟨by (with_reducible repeat (first | refine blk_drewN ?_ _ | refine blk_drew ?_ | refine blk_alloc ?_ _)); exact BK117.out⟩, ⟨by repeat (first | (with_reducible first | exact HB.out | apply below_alloc | apply pw_below_drewN | apply below_drew1 | refine below_set ?_ GE117.out) | exact HB.out)⟩⟩
  case rest =>
    clear HC3
    try clear c1
    try clear p2
    try clear c6
    try clear c6b0
    try clear c6b1
    try clear p6
    try clear c7
    try clear c7b0
    try clear c7b1
    try clear hcz5_0
    try clear hcz5_1
    try clear hcz5_2
    try clear hcz5_3
    try clear hcz5_4
    try clear hcz5_5
    try clear hcz5_6
    try clear hcz5_7
    try clear hcz8_0
    try clear hcz8_1
    try clear hcz8_2
    try clear hcz8_3
    try clear hcz8_4
    try clear hcz8_5
    try clear hcz8_6
    try clear hcz8_7
    try clear hcz9_0
    try clear hcz9_1
    try clear hcz9_2
    try clear hcz9_3
    try clear hcz9_4
    try clear hcz9_5
    try clear hcz9_6
    try clear hcz9_7
    try clear hfz5_0
    try clear hfz5_1
    try clear hfz5_2
    try clear hfz5_3
    try clear hfz5_4
    try clear hfz5_5
    try clear hfz5_6
    try clear hfz5_7
    try clear hfz8_0
    try clear hfz8_1
    try clear hfz8_2
    try clear hfz8_3
    try clear hfz8_4
    try clear hfz8_5
    try clear hfz8_6
    try clear hfz8_7
    try clear hfz9_0
    try clear hfz9_1
    try clear hfz9_2
    try clear hfz9_3
    try clear hfz9_4
    try clear hfz9_5
    try clear hfz9_6
    try clear hfz9_7
    obtain ⟨kq, x1_2, rfl, HA, HJ2, BK117, HB⟩ := hcut
    cases kq with
    | zero => exact absurd HA.out (by simp [spec_reCaps.j0])
    | succ kj2 =>
      have H := HA.out
      clear HA
      simp only [spec_reCaps.j0] at H
      have H' := Aside0.mk H
      clear H
      have hcz10_0 : wc.cell? ⟨gb117, 0, none⟩ = some (.int .i64 a0_0) := (blk_cell BK117.out 0).trans rfl
      have hcz10_1 : wc.cell? ⟨gb117, 1, none⟩ = some (.int .i64 a0_1) := (blk_cell BK117.out 1).trans rfl
      have hcz10_2 : wc.cell? ⟨gb117, 2, none⟩ = some (.slice A0_2 l0_2.length c0_2) := (blk_cell BK117.out 2).trans rfl
      have hcz10_3 : wc.cell? ⟨gb117, 3, none⟩ = some (.int .i64 a0_3) := (blk_cell BK117.out 3).trans rfl
      have hcz10_4 : wc.cell? ⟨gb117, 4, none⟩ = some (.int .i64 a0_4) := (blk_cell BK117.out 4).trans rfl
      have hcz10_5 : wc.cell? ⟨gb117, 5, none⟩ = some (.int .i64 a0_5) := (blk_cell BK117.out 5).trans rfl
      have hcz10_6 : wc.cell? ⟨gb117, 6, none⟩ = some (.string a0_6) := (blk_cell BK117.out 6).trans rfl
      have hcz10_7 : wc.cell? ⟨gb117, 7, none⟩ = some (.slice A0_7 l0_7.length c0_7) := (blk_cell BK117.out 7).trans rfl
      have hfz10_0 := blk_frozen BK117.out 0
      have hfz10_1 := blk_frozen BK117.out 1
      have hfz10_2 := blk_frozen BK117.out 2
      have hfz10_3 := blk_frozen BK117.out 3
      have hfz10_4 := blk_frozen BK117.out 4
      have hfz10_5 := blk_frozen BK117.out 5
      have hfz10_6 := blk_frozen BK117.out 6
      have hfz10_7 := blk_frozen BK117.out 7
      go_wp2
      go_loopg [1, 19] kj2 (fun kq v1 v19 w' => ∃ (x1_2 : Int) (x19_2 : Int), v1 = .int .i64 x1_2 ∧ v19 = .int .i64 x19_2 ∧ Aside0 (spec_reCaps.l0 kq x1_2 l0_7 (l0_7.length : Int) x19_2 = some r) ∧ Aside0 (kq ≤ kj2) ∧ Aside0 (w'.heap[gb117]? = some (.cells #[.int .i64 a0_0, .int .i64 a0_1, (.slice A0_2 l0_2.length c0_2), .int .i64 a0_3, .int .i64 a0_4, .int .i64 a0_5, .string a0_6, (.slice A0_7 l0_7.length c0_7)] 25 (0, 0))) ∧ Aside0 (Below w.heap.size w w'))
      case atStart => exact ⟨(x1_2), (0), (by first | rfl | (simp; done) | (simp [*]; done)), (by first | rfl | (simp; done) | (simp [*]; done)), H', ⟨Nat.le_refl _⟩, ⟨by (with_reducible repeat (first | refine blk_drewN ?_ _ | refine blk_drew ?_ | refine blk_alloc ?_ _)); exact BK117.out⟩, ⟨by repeat (first | (with_reducible first | exact HB.out | apply below_alloc | apply pw_below_drewN | apply below_drew1 | refine below_set ?_ GE117.out) | exact HB.out)⟩⟩
      case round =>
        clear H'
        try clear c1
        try clear p2
        try clear c6
        try clear c6b0
        try clear c6b1
        try clear p6
        try clear c7
        try clear c7b0
        try clear c7b1
        try clear hcz10_0
        try clear hcz10_1
        try clear hcz10_2
        try clear hcz10_3
        try clear hcz10_4
        try clear hcz10_5
        try clear hcz10_6
        try clear hcz10_7
        try clear hcz5_0
        try clear hcz5_1
        try clear hcz5_2
        try clear hcz5_3
        try clear hcz5_4
        try clear hcz5_5
        try clear hcz5_6
        try clear hcz5_7
        try clear hcz8_0
        try clear hcz8_1
        try clear hcz8_2
        try clear hcz8_3
        try clear hcz8_4
        try clear hcz8_5
        try clear hcz8_6
        try clear hcz8_7
        try clear hcz9_0
        try clear hcz9_1
        try clear hcz9_2
        try clear hcz9_3
        try clear hcz9_4
        try clear hcz9_5
        try clear hcz9_6
        try clear hcz9_7
        try clear hfz10_0
        try clear hfz10_1
        try clear hfz10_2
        try clear hfz10_3
        try clear hfz10_4
        try clear hfz10_5
        try clear hfz10_6
        try clear hfz10_7
        try clear hfz5_0
        try clear hfz5_1
        try clear hfz5_2
        try clear hfz5_3
        try clear hfz5_4
        try clear hfz5_5
        try clear hfz5_6
        try clear hfz5_7
        try clear hfz8_0
        try clear hfz8_1
        try clear hfz8_2
        try clear hfz8_3
        try clear hfz8_4
        try clear hfz8_5
        try clear hfz8_6
        try clear hfz8_7
        try clear hfz9_0
        try clear hfz9_1
        try clear hfz9_2
        try clear hfz9_3
        try clear hfz9_4
        try clear hfz9_5
        try clear hfz9_6
        try clear hfz9_7
        try clear p2
        try clear p6
        obtain ⟨x1_2, x19_2, rfl, rfl, HA, HK2, BK117, HB⟩ := hrel
        cases gk with
        | zero => exact absurd HA.out (by simp [spec_reCaps.l0])
        | succ k2 =>
          have H := HA.out
          clear HA
          simp only [spec_reCaps.l0] at H
          by_cases c11 : x19_2 < (l0_7.length : Int)
          · rw [if_pos c11] at H
            have c11b0 : decide (x19_2 < (l0_7.length : Int)) = true := decide_eq_true c11
            clear c11
            by_cases c12 : 0 ≤ x19_2
            · rw [if_pos c12] at H
              have c12b0 : decide (0 ≤ x19_2) = true := decide_eq_true c12
              clear c12
              by_cases c13 : x19_2 < (l0_7.length : Int)
              · rw [if_pos c13] at H
                have c13b0 : decide (x19_2 < (l0_7.length : Int)) = true := decide_eq_true c13
                clear c13
                replace H := Option.bind_eq_some_iff.mp H
                obtain ⟨t120, A140, H⟩ := H
                replace H : (if t120 < 0 then (some (-1)) else (spec_reCaps.l0 k2 t120 l0_7 (l0_7.length : Int) (wrap64 (x19_2 + 1)))) = some r := H
                have A14 := Aside0.mk A140
                clear A140
                by_cases c15 : t120 < 0
                · rw [if_pos c15] at H
                  have c15b0 : decide (t120 < 0) = true := decide_eq_true c15
                  clear c15
                  obtain rfl := Option.some.inj H
                  have p118 : 0 ≤ (x19_2 : Int) := of_decide_eq_true (by first | (with_reducible assumption) | assumption)
                  have q118 : x19_2 < (l0_7.length : Int) := of_decide_eq_true (by first | (with_reducible assumption) | assumption)
                  obtain ⟨ad118, A118_2, c118_2, A118_7, c118_7, e118, hx118_0, hx118_1, hx118_2, hx118_3, hx118_4, hx118_5, hx118_6, hx118_7, hl118_2, hi118_2, hl118_7, hi118_7⟩ := at_T25 HR0_7.out x19_2 p118 q118
                  cases e118
                  replace hx118_0 := (HB.out.cell (World.block_lt_of_cell? w _ hx118_0)).trans hx118_0
                  replace hx118_1 := (HB.out.cell (World.block_lt_of_cell? w _ hx118_1)).trans hx118_1
                  replace hx118_2 := (HB.out.cell (World.block_lt_of_cell? w _ hx118_2)).trans hx118_2
                  replace hx118_3 := (HB.out.cell (World.block_lt_of_cell? w _ hx118_3)).trans hx118_3
                  replace hx118_4 := (HB.out.cell (World.block_lt_of_cell? w _ hx118_4)).trans hx118_4
                  replace hx118_5 := (HB.out.cell (World.block_lt_of_cell? w _ hx118_5)).trans hx118_5
                  replace hx118_6 := (HB.out.cell (World.block_lt_of_cell? w _ hx118_6)).trans hx118_6
                  replace hx118_7 := (HB.out.cell (World.block_lt_of_cell? w _ hx118_7)).trans hx118_7
                  have HR118_2 := Aside0.mk hi118_2
                  have HC118_2 := Aside0.mk hl118_2
                  clear hi118_2 hl118_2
                  have HR118_7 := Aside0.mk hi118_7
                  have HC118_7 := Aside0.mk hl118_7
                  clear hi118_7 hl118_7
                  replace p118 := eq_true p118
                  replace q118 := eq_true q118
                  go_wp2_with (first | ((with_reducible refine gate_dst (N := 6) rfl ?_); refine box_event ?hg (N := 6) ?hd (cs := #[.int .i64 0, .int .i64 0, .slice none 0 0, .int .i64 0, .int .i64 0, .int .i64 0, .string (⟨#[]⟩ : ByteArray), .slice none 0 0]) (t := 25) ?hr ?_; (case hd => rfl); (case hg => rfl); (case hr => first | (go_simp; done) | (go_simp; rfl)); intro gb119 hg w16 hbox hb; have n0_ := Aside0.mk (blk_below (g := gb117) (o := .cells #[.int .i64 a0_0, .int .i64 a0_1, .slice A0_2 l0_2.length c0_2, .int .i64 a0_3, .int .i64 a0_4, .int .i64 a0_5, .string a0_6, .slice (some ad118) l0_7.length c0_7] 25 (0, 0)) (by (with_reducible repeat (first | refine blk_drewN ?_ _ | refine blk_drew ?_ | refine blk_alloc ?_ _)); exact BK117.out) hb); have n1_ := Aside0.mk (below_step (by repeat (first | (with_reducible first | exact HB.out | apply below_alloc | apply pw_below_drewN | apply below_drew1 | refine below_set ?_ GE117.out) | exact HB.out)) hb); have n2_ := Aside0.mk (hbox); have n3_ := Aside0.mk ((by rw [hg]; exact (below_size (by repeat (first | (with_reducible first | exact HB.out | apply below_alloc | apply pw_below_drewN | apply below_drew1 | refine below_set ?_ GE117.out) | exact HB.out))) : w.heap.size ≤ gb119)); have n4_ := Aside0.mk ((by rw [hg]; exact (below_size (by repeat (first | (with_reducible first | exact HB.out | apply below_alloc | apply pw_below_drewN | apply below_drew1 | refine below_set ?_ GE117.out) | exact HB.out))) : w.heap.size ≤ gb119)); have n5_ := Aside0.mk ((by rw [hg]; exact Nat.ne_of_lt (blk_lt (g := gb117) (o := .cells #[.int .i64 a0_0, .int .i64 a0_1, .slice A0_2 l0_2.length c0_2, .int .i64 a0_3, .int .i64 a0_4, .int .i64 a0_5, .string a0_6, .slice (some ad118) l0_7.length c0_7] 25 (0, 0)) (by (with_reducible repeat (first | refine blk_drewN ?_ _ | refine blk_drew ?_ | refine blk_alloc ?_ _)); exact BK117.out)) : gb117 ≠ gb119)); have n6_ := Aside0.mk ((by rw [hg]; exact Nat.ne_of_gt (blk_lt (g := gb117) (o := .cells #[.int .i64 a0_0, .int .i64 a0_1, .slice A0_2 l0_2.length c0_2, .int .i64 a0_3, .int .i64 a0_4, .int .i64 a0_5, .string a0_6, .slice (some ad118) l0_7.length c0_7] 25 (0, 0)) (by (with_reducible repeat (first | refine blk_drewN ?_ _ | refine blk_drew ?_ | refine blk_alloc ?_ _)); exact BK117.out)) : gb119 ≠ gb117)); clear BK117; clear HB; have BK117 := n0_; have HB := n1_; have BK119 := n2_; have GW119 := n3_; have GE119 := n4_; have NB117_119 := n5_; have NB119_117 := n6_; clear n0_ n1_ n2_ n3_ n4_ n5_ n6_; clear hb hbox hg; have hnb17 := NB119_117.out; have hnc17 := NB117_119.out; have hcz18_0 : w16.cell? ⟨gb119, 0, none⟩ = some (.int .i64 0) := (blk_cell BK119.out 0).trans rfl; have hcz18_1 : w16.cell? ⟨gb119, 1, none⟩ = some (.int .i64 0) := (blk_cell BK119.out 1).trans rfl; have hcz18_2 : w16.cell? ⟨gb119, 2, none⟩ = some (.slice none 0 0) := (blk_cell BK119.out 2).trans rfl; have hcz18_3 : w16.cell? ⟨gb119, 3, none⟩ = some (.int .i64 0) := (blk_cell BK119.out 3).trans rfl; have hcz18_4 : w16.cell? ⟨gb119, 4, none⟩ = some (.int .i64 0) := (blk_cell BK119.out 4).trans rfl; have hcz18_5 : w16.cell? ⟨gb119, 5, none⟩ = some (.int .i64 0) := (blk_cell BK119.out 5).trans rfl; have hcz18_6 : w16.cell? ⟨gb119, 6, none⟩ = some (.string (⟨#[]⟩ : ByteArray)) := (blk_cell BK119.out 6).trans rfl; have hcz18_7 : w16.cell? ⟨gb119, 7, none⟩ = some (.slice none 0 0) := (blk_cell BK119.out 7).trans rfl; have hfz18_0 := blk_frozen BK119.out 0; have hfz18_1 := blk_frozen BK119.out 1; have hfz18_2 := blk_frozen BK119.out 2; have hfz18_3 := blk_frozen BK119.out 3; have hfz18_4 := blk_frozen BK119.out 4; have hfz18_5 := blk_frozen BK119.out 5; have hfz18_6 := blk_frozen BK119.out 6; have hfz18_7 := blk_frozen BK119.out 7) | ((with_reducible refine gate_callee (f := 16) rfl ?_); refine goesL_ (some 25) rfl rfl Tryd.func16 (by kernel_rfl) rfl #[.agg #[.int .i64 ((rd_T25 l0_7 x19_2).f0), .int .i64 ((rd_T25 l0_7 x19_2).f1), .slice A118_2 ((rd_T25 l0_7 x19_2).f2).length c118_2, .int .i64 ((rd_T25 l0_7 x19_2).f3), .int .i64 ((rd_T25 l0_7 x19_2).f4), .int .i64 ((rd_T25 l0_7 x19_2).f5), .string ((rd_T25 l0_7 x19_2).f6), .slice A118_7 ((rd_T25 l0_7 x19_2).f7).length c118_7], .int .i64 x1_2] rfl (by (try simp only [List.map_toArray, List.map_cons, List.map_nil]); first | done | rfl | (simp only [List.length_drop, List.length_take]; rfl)) ?_; (with_reducible refine (ih k2 (by have := HJ2.out; have := HK2.out; omega) ((rd_T25 l0_7 x19_2).f0) ((rd_T25 l0_7 x19_2).f1) _ _ ((rd_T25 l0_7 x19_2).f2) ((rd_T25 l0_7 x19_2).f3) ((rd_T25 l0_7 x19_2).f4) ((rd_T25 l0_7 x19_2).f5) ((rd_T25 l0_7 x19_2).f6) _ _ ((rd_T25 l0_7 x19_2).f7) x1_2 t120 _ ?side1 ?side2 ?side3 ?side4 A14.out).mono ?_); (case side1 => exact Kd.C_below HR118_2.out (by repeat (first | (with_reducible first | exact HB.out | apply below_alloc | apply pw_below_drewN | apply below_drew1 | refine below_set ?_ GE117.out | refine below_set ?_ GE119.out) | exact HB.out))); (case side2 => exact HC118_2.out); (case side3 => exact Kd.C_below HR118_7.out (by repeat (first | (with_reducible first | exact HB.out | apply below_alloc | apply pw_below_drewN | apply below_drew1 | refine below_set ?_ GE117.out | refine below_set ?_ GE119.out) | exact HB.out))); (case side4 => exact HC118_7.out); rintro e w19 ⟨rfl, hb⟩; refine ⟨_, rfl, ?_⟩; have n0_ := Aside0.mk (blk_below (g := gb117) (o := .cells #[.int .i64 a0_0, .int .i64 a0_1, .slice A0_2 l0_2.length c0_2, .int .i64 a0_3, .int .i64 a0_4, .int .i64 a0_5, .string a0_6, .slice (some ad118) l0_7.length c0_7] 25 (0, 0)) (by (with_reducible repeat (first | refine blk_drewN ?_ _ | refine blk_drew ?_ | refine blk_alloc ?_ _)); refine blk_far ?_ NB117_119.out _; (with_reducible repeat (first | refine blk_drewN ?_ _ | refine blk_drew ?_ | refine blk_alloc ?_ _)); refine blk_far ?_ NB117_119.out _; (with_reducible repeat (first | refine blk_drewN ?_ _ | refine blk_drew ?_ | refine blk_alloc ?_ _)); refine blk_far ?_ NB117_119.out _; (with_reducible repeat (first | refine blk_drewN ?_ _ | refine blk_drew ?_ | refine blk_alloc ?_ _)); refine blk_far ?_ NB117_119.out _; (with_reducible repeat (first | refine blk_drewN ?_ _ | refine blk_drew ?_ | refine blk_alloc ?_ _)); refine blk_far ?_ NB117_119.out _; (with_reducible repeat (first | refine blk_drewN ?_ _ | refine blk_drew ?_ | refine blk_alloc ?_ _)); refine blk_far ?_ NB117_119.out _; (with_reducible repeat (first | refine blk_drewN ?_ _ | refine blk_drew ?_ | refine blk_alloc ?_ _)); refine blk_far ?_ NB117_119.out _; (with_reducible repeat (first | refine blk_drewN ?_ _ | refine blk_drew ?_ | refine blk_alloc ?_ _)); refine blk_far ?_ NB117_119.out _; (with_reducible repeat (first | refine blk_drewN ?_ _ | refine blk_drew ?_ | refine blk_alloc ?_ _)); exact BK117.out) hb); have n1_ := Aside0.mk (blk_below (g := gb119) (o := .cells #[.int .i64 ((rd_T25 l0_7 x19_2).f0), .int .i64 ((rd_T25 l0_7 x19_2).f1), .slice A118_2 ((rd_T25 l0_7 x19_2).f2).length c118_2, .int .i64 ((rd_T25 l0_7 x19_2).f3), .int .i64 ((rd_T25 l0_7 x19_2).f4), .int .i64 ((rd_T25 l0_7 x19_2).f5), .string ((rd_T25 l0_7 x19_2).f6), .slice A118_7 ((rd_T25 l0_7 x19_2).f7).length c118_7] 25 (0, 0)) (by (with_reducible repeat (first | refine blk_drewN ?_ _ | refine blk_drew ?_ | refine blk_alloc ?_ _)); refine blk_put (cs := #[.int .i64 ((rd_T25 l0_7 x19_2).f0), .int .i64 ((rd_T25 l0_7 x19_2).f1), .slice A118_2 ((rd_T25 l0_7 x19_2).f2).length c118_2, .int .i64 ((rd_T25 l0_7 x19_2).f3), .int .i64 ((rd_T25 l0_7 x19_2).f4), .int .i64 ((rd_T25 l0_7 x19_2).f5), .string ((rd_T25 l0_7 x19_2).f6), .slice none 0 0]) ?_ 7 _ rfl; (with_reducible repeat (first | refine blk_drewN ?_ _ | refine blk_drew ?_ | refine blk_alloc ?_ _)); refine blk_put (cs := #[.int .i64 ((rd_T25 l0_7 x19_2).f0), .int .i64 ((rd_T25 l0_7 x19_2).f1), .slice A118_2 ((rd_T25 l0_7 x19_2).f2).length c118_2, .int .i64 ((rd_T25 l0_7 x19_2).f3), .int .i64 ((rd_T25 l0_7 x19_2).f4), .int .i64 ((rd_T25 l0_7 x19_2).f5), .string (⟨#[]⟩ : ByteArray), .slice none 0 0]) ?_ 6 _ rfl; (with_reducible repeat (first | refine blk_drewN ?_ _ | refine blk_drew ?_ | refine blk_alloc ?_ _)); refine blk_put (cs := #[.int .i64 ((rd_T25 l0_7 x19_2).f0), .int .i64 ((rd_T25 l0_7 x19_2).f1), .slice A118_2 ((rd_T25 l0_7 x19_2).f2).length c118_2, .int .i64 ((rd_T25 l0_7 x19_2).f3), .int .i64 ((rd_T25 l0_7 x19_2).f4), .int .i64 0, .string (⟨#[]⟩ : ByteArray), .slice none 0 0]) ?_ 5 _ rfl; (with_reducible repeat (first | refine blk_drewN ?_ _ | refine blk_drew ?_ | refine blk_alloc ?_ _)); refine blk_put (cs := #[.int .i64 ((rd_T25 l0_7 x19_2).f0), .int .i64 ((rd_T25 l0_7 x19_2).f1), .slice A118_2 ((rd_T25 l0_7 x19_2).f2).length c118_2, .int .i64 ((rd_T25 l0_7 x19_2).f3), .int .i64 0, .int .i64 0, .string (⟨#[]⟩ : ByteArray), .slice none 0 0]) ?_ 4 _ rfl; (with_reducible repeat (first | refine blk_drewN ?_ _ | refine blk_drew ?_ | refine blk_alloc ?_ _)); refine blk_put (cs := #[.int .i64 ((rd_T25 l0_7 x19_2).f0), .int .i64 ((rd_T25 l0_7 x19_2).f1), .slice A118_2 ((rd_T25 l0_7 x19_2).f2).length c118_2, .int .i64 0, .int .i64 0, .int .i64 0, .string (⟨#[]⟩ : ByteArray), .slice none 0 0]) ?_ 3 _ rfl; (with_reducible repeat (first | refine blk_drewN ?_ _ | refine blk_drew ?_ | refine blk_alloc ?_ _)); refine blk_put (cs := #[.int .i64 ((rd_T25 l0_7 x19_2).f0), .int .i64 ((rd_T25 l0_7 x19_2).f1), .slice none 0 0, .int .i64 0, .int .i64 0, .int .i64 0, .string (⟨#[]⟩ : ByteArray), .slice none 0 0]) ?_ 2 _ rfl; (with_reducible repeat (first | refine blk_drewN ?_ _ | refine blk_drew ?_ | refine blk_alloc ?_ _)); refine blk_put (cs := #[.int .i64 ((rd_T25 l0_7 x19_2).f0), .int .i64 0, .slice none 0 0, .int .i64 0, .int .i64 0, .int .i64 0, .string (⟨#[]⟩ : ByteArray), .slice none 0 0]) ?_ 1 _ rfl; (with_reducible repeat (first | refine blk_drewN ?_ _ | refine blk_drew ?_ | refine blk_alloc ?_ _)); refine blk_put (cs := #[.int .i64 0, .int .i64 0, .slice none 0 0, .int .i64 0, .int .i64 0, .int .i64 0, .string (⟨#[]⟩ : ByteArray), .slice none 0 0]) ?_ 0 _ rfl; (with_reducible repeat (first | refine blk_drewN ?_ _ | refine blk_drew ?_ | refine blk_alloc ?_ _)); exact BK119.out) hb); have n2_ := Aside0.mk (below_step (by repeat (first | (with_reducible first | exact HB.out | apply below_alloc | apply pw_below_drewN | apply below_drew1 | refine below_set ?_ GE117.out | refine below_set ?_ GE119.out) | exact HB.out)) hb); clear BK117; clear BK119; clear HB; have BK117 := n0_; have BK119 := n1_; have HB := n2_; clear n0_ n1_ n2_; (try clear hb); (try clear hb2); (try clear hk); (try clear hi)))
                  go_ret
                  exact ⟨by first | rfl | (simp [errW_none, errW_some] <;> rfl) | (simp [*, errW_none, errW_some] <;> rfl), by repeat (first | (with_reducible first | exact HB.out | apply below_alloc | apply pw_below_drewN | apply below_drew1 | refine below_set ?_ GE117.out | refine below_set ?_ GE119.out) | exact HB.out)⟩
                · rw [if_neg c15] at H
                  have c15b0 : decide (t120 < 0) = false := decide_eq_false c15
                  clear c15
                  have H' := Aside0.mk H
                  clear H
                  have p118 : 0 ≤ (x19_2 : Int) := of_decide_eq_true (by first | (with_reducible assumption) | assumption)
                  have q118 : x19_2 < (l0_7.length : Int) := of_decide_eq_true (by first | (with_reducible assumption) | assumption)
                  obtain ⟨ad118, A118_2, c118_2, A118_7, c118_7, e118, hx118_0, hx118_1, hx118_2, hx118_3, hx118_4, hx118_5, hx118_6, hx118_7, hl118_2, hi118_2, hl118_7, hi118_7⟩ := at_T25 HR0_7.out x19_2 p118 q118
                  cases e118
                  replace hx118_0 := (HB.out.cell (World.block_lt_of_cell? w _ hx118_0)).trans hx118_0
                  replace hx118_1 := (HB.out.cell (World.block_lt_of_cell? w _ hx118_1)).trans hx118_1
                  replace hx118_2 := (HB.out.cell (World.block_lt_of_cell? w _ hx118_2)).trans hx118_2
                  replace hx118_3 := (HB.out.cell (World.block_lt_of_cell? w _ hx118_3)).trans hx118_3
                  replace hx118_4 := (HB.out.cell (World.block_lt_of_cell? w _ hx118_4)).trans hx118_4
                  replace hx118_5 := (HB.out.cell (World.block_lt_of_cell? w _ hx118_5)).trans hx118_5
                  replace hx118_6 := (HB.out.cell (World.block_lt_of_cell? w _ hx118_6)).trans hx118_6
                  replace hx118_7 := (HB.out.cell (World.block_lt_of_cell? w _ hx118_7)).trans hx118_7
                  have HR118_2 := Aside0.mk hi118_2
                  have HC118_2 := Aside0.mk hl118_2
                  clear hi118_2 hl118_2
                  have HR118_7 := Aside0.mk hi118_7
                  have HC118_7 := Aside0.mk hl118_7
                  clear hi118_7 hl118_7
                  replace p118 := eq_true p118
                  replace q118 := eq_true q118
                  go_wp2_with (first | ((with_reducible refine gate_dst (N := 6) rfl ?_); refine box_event ?hg (N := 6) ?hd (cs := #[.int .i64 0, .int .i64 0, .slice none 0 0, .int .i64 0, .int .i64 0, .int .i64 0, .string (⟨#[]⟩ : ByteArray), .slice none 0 0]) (t := 25) ?hr ?_; (case hd => rfl); (case hg => rfl); (case hr => first | (go_simp; done) | (go_simp; rfl)); intro gb119 hg w20 hbox hb; have n0_ := Aside0.mk (blk_below (g := gb117) (o := .cells #[.int .i64 a0_0, .int .i64 a0_1, .slice A0_2 l0_2.length c0_2, .int .i64 a0_3, .int .i64 a0_4, .int .i64 a0_5, .string a0_6, .slice (some ad118) l0_7.length c0_7] 25 (0, 0)) (by (with_reducible repeat (first | refine blk_drewN ?_ _ | refine blk_drew ?_ | refine blk_alloc ?_ _)); exact BK117.out) hb); have n1_ := Aside0.mk (below_step (by repeat (first | (with_reducible first | exact HB.out | apply below_alloc | apply pw_below_drewN | apply below_drew1 | refine below_set ?_ GE117.out) | exact HB.out)) hb); have n2_ := Aside0.mk (hbox); have n3_ := Aside0.mk ((by rw [hg]; exact (below_size (by repeat (first | (with_reducible first | exact HB.out | apply below_alloc | apply pw_below_drewN | apply below_drew1 | refine below_set ?_ GE117.out) | exact HB.out))) : w.heap.size ≤ gb119)); have n4_ := Aside0.mk ((by rw [hg]; exact (below_size (by repeat (first | (with_reducible first | exact HB.out | apply below_alloc | apply pw_below_drewN | apply below_drew1 | refine below_set ?_ GE117.out) | exact HB.out))) : w.heap.size ≤ gb119)); have n5_ := Aside0.mk ((by rw [hg]; exact Nat.ne_of_lt (blk_lt (g := gb117) (o := .cells #[.int .i64 a0_0, .int .i64 a0_1, .slice A0_2 l0_2.length c0_2, .int .i64 a0_3, .int .i64 a0_4, .int .i64 a0_5, .string a0_6, .slice (some ad118) l0_7.length c0_7] 25 (0, 0)) (by (with_reducible repeat (first | refine blk_drewN ?_ _ | refine blk_drew ?_ | refine blk_alloc ?_ _)); exact BK117.out)) : gb117 ≠ gb119)); have n6_ := Aside0.mk ((by rw [hg]; exact Nat.ne_of_gt (blk_lt (g := gb117) (o := .cells #[.int .i64 a0_0, .int .i64 a0_1, .slice A0_2 l0_2.length c0_2, .int .i64 a0_3, .int .i64 a0_4, .int .i64 a0_5, .string a0_6, .slice (some ad118) l0_7.length c0_7] 25 (0, 0)) (by (with_reducible repeat (first | refine blk_drewN ?_ _ | refine blk_drew ?_ | refine blk_alloc ?_ _)); exact BK117.out)) : gb119 ≠ gb117)); clear BK117; clear HB; have BK117 := n0_; have HB := n1_; have BK119 := n2_; have GW119 := n3_; have GE119 := n4_; have NB117_119 := n5_; have NB119_117 := n6_; clear n0_ n1_ n2_ n3_ n4_ n5_ n6_; clear hb hbox hg; have hnb21 := NB119_117.out; have hnc21 := NB117_119.out; have hcz22_0 : w20.cell? ⟨gb119, 0, none⟩ = some (.int .i64 0) := (blk_cell BK119.out 0).trans rfl; have hcz22_1 : w20.cell? ⟨gb119, 1, none⟩ = some (.int .i64 0) := (blk_cell BK119.out 1).trans rfl; have hcz22_2 : w20.cell? ⟨gb119, 2, none⟩ = some (.slice none 0 0) := (blk_cell BK119.out 2).trans rfl; have hcz22_3 : w20.cell? ⟨gb119, 3, none⟩ = some (.int .i64 0) := (blk_cell BK119.out 3).trans rfl; have hcz22_4 : w20.cell? ⟨gb119, 4, none⟩ = some (.int .i64 0) := (blk_cell BK119.out 4).trans rfl; have hcz22_5 : w20.cell? ⟨gb119, 5, none⟩ = some (.int .i64 0) := (blk_cell BK119.out 5).trans rfl; have hcz22_6 : w20.cell? ⟨gb119, 6, none⟩ = some (.string (⟨#[]⟩ : ByteArray)) := (blk_cell BK119.out 6).trans rfl; have hcz22_7 : w20.cell? ⟨gb119, 7, none⟩ = some (.slice none 0 0) := (blk_cell BK119.out 7).trans rfl; have hfz22_0 := blk_frozen BK119.out 0; have hfz22_1 := blk_frozen BK119.out 1; have hfz22_2 := blk_frozen BK119.out 2; have hfz22_3 := blk_frozen BK119.out 3; have hfz22_4 := blk_frozen BK119.out 4; have hfz22_5 := blk_frozen BK119.out 5; have hfz22_6 := blk_frozen BK119.out 6; have hfz22_7 := blk_frozen BK119.out 7) | ((with_reducible refine gate_callee (f := 16) rfl ?_); refine goesL_ (some 25) rfl rfl Tryd.func16 (by kernel_rfl) rfl #[.agg #[.int .i64 ((rd_T25 l0_7 x19_2).f0), .int .i64 ((rd_T25 l0_7 x19_2).f1), .slice A118_2 ((rd_T25 l0_7 x19_2).f2).length c118_2, .int .i64 ((rd_T25 l0_7 x19_2).f3), .int .i64 ((rd_T25 l0_7 x19_2).f4), .int .i64 ((rd_T25 l0_7 x19_2).f5), .string ((rd_T25 l0_7 x19_2).f6), .slice A118_7 ((rd_T25 l0_7 x19_2).f7).length c118_7], .int .i64 x1_2] rfl (by (try simp only [List.map_toArray, List.map_cons, List.map_nil]); first | done | rfl | (simp only [List.length_drop, List.length_take]; rfl)) ?_; (with_reducible refine (ih k2 (by have := HJ2.out; have := HK2.out; omega) ((rd_T25 l0_7 x19_2).f0) ((rd_T25 l0_7 x19_2).f1) _ _ ((rd_T25 l0_7 x19_2).f2) ((rd_T25 l0_7 x19_2).f3) ((rd_T25 l0_7 x19_2).f4) ((rd_T25 l0_7 x19_2).f5) ((rd_T25 l0_7 x19_2).f6) _ _ ((rd_T25 l0_7 x19_2).f7) x1_2 t120 _ ?side1 ?side2 ?side3 ?side4 A14.out).mono ?_); (case side1 => exact Kd.C_below HR118_2.out (by repeat (first | (with_reducible first | exact HB.out | apply below_alloc | apply pw_below_drewN | apply below_drew1 | refine below_set ?_ GE117.out | refine below_set ?_ GE119.out) | exact HB.out))); (case side2 => exact HC118_2.out); (case side3 => exact Kd.C_below HR118_7.out (by repeat (first | (with_reducible first | exact HB.out | apply below_alloc | apply pw_below_drewN | apply below_drew1 | refine below_set ?_ GE117.out | refine below_set ?_ GE119.out) | exact HB.out))); (case side4 => exact HC118_7.out); rintro e w23 ⟨rfl, hb⟩; refine ⟨_, rfl, ?_⟩; have n0_ := Aside0.mk (blk_below (g := gb117) (o := .cells #[.int .i64 a0_0, .int .i64 a0_1, .slice A0_2 l0_2.length c0_2, .int .i64 a0_3, .int .i64 a0_4, .int .i64 a0_5, .string a0_6, .slice (some ad118) l0_7.length c0_7] 25 (0, 0)) (by (with_reducible repeat (first | refine blk_drewN ?_ _ | refine blk_drew ?_ | refine blk_alloc ?_ _)); refine blk_far ?_ NB117_119.out _; (with_reducible repeat (first | refine blk_drewN ?_ _ | refine blk_drew ?_ | refine blk_alloc ?_ _)); refine blk_far ?_ NB117_119.out _; (with_reducible repeat (first | refine blk_drewN ?_ _ | refine blk_drew ?_ | refine blk_alloc ?_ _)); refine blk_far ?_ NB117_119.out _; (with_reducible repeat (first | refine blk_drewN ?_ _ | refine blk_drew ?_ | refine blk_alloc ?_ _)); refine blk_far ?_ NB117_119.out _; (with_reducible repeat (first | refine blk_drewN ?_ _ | refine blk_drew ?_ | refine blk_alloc ?_ _)); refine blk_far ?_ NB117_119.out _; (with_reducible repeat (first | refine blk_drewN ?_ _ | refine blk_drew ?_ | refine blk_alloc ?_ _)); refine blk_far ?_ NB117_119.out _; (with_reducible repeat (first | refine blk_drewN ?_ _ | refine blk_drew ?_ | refine blk_alloc ?_ _)); refine blk_far ?_ NB117_119.out _; (with_reducible repeat (first | refine blk_drewN ?_ _ | refine blk_drew ?_ | refine blk_alloc ?_ _)); refine blk_far ?_ NB117_119.out _; (with_reducible repeat (first | refine blk_drewN ?_ _ | refine blk_drew ?_ | refine blk_alloc ?_ _)); exact BK117.out) hb); have n1_ := Aside0.mk (blk_below (g := gb119) (o := .cells #[.int .i64 ((rd_T25 l0_7 x19_2).f0), .int .i64 ((rd_T25 l0_7 x19_2).f1), .slice A118_2 ((rd_T25 l0_7 x19_2).f2).length c118_2, .int .i64 ((rd_T25 l0_7 x19_2).f3), .int .i64 ((rd_T25 l0_7 x19_2).f4), .int .i64 ((rd_T25 l0_7 x19_2).f5), .string ((rd_T25 l0_7 x19_2).f6), .slice A118_7 ((rd_T25 l0_7 x19_2).f7).length c118_7] 25 (0, 0)) (by (with_reducible repeat (first | refine blk_drewN ?_ _ | refine blk_drew ?_ | refine blk_alloc ?_ _)); refine blk_put (cs := #[.int .i64 ((rd_T25 l0_7 x19_2).f0), .int .i64 ((rd_T25 l0_7 x19_2).f1), .slice A118_2 ((rd_T25 l0_7 x19_2).f2).length c118_2, .int .i64 ((rd_T25 l0_7 x19_2).f3), .int .i64 ((rd_T25 l0_7 x19_2).f4), .int .i64 ((rd_T25 l0_7 x19_2).f5), .string ((rd_T25 l0_7 x19_2).f6), .slice none 0 0]) ?_ 7 _ rfl; (with_reducible repeat (first | refine blk_drewN ?_ _ | refine blk_drew ?_ | refine blk_alloc ?_ _)); refine blk_put (cs := #[.int .i64 ((rd_T25 l0_7 x19_2).f0), .int .i64 ((rd_T25 l0_7 x19_2).f1), .slice A118_2 ((rd_T25 l0_7 x19_2).f2).length c118_2, .int .i64 ((rd_T25 l0_7 x19_2).f3), .int .i64 ((rd_T25 l0_7 x19_2).f4), .int .i64 ((rd_T25 l0_7 x19_2).f5), .string (⟨#[]⟩ : ByteArray), .slice none 0 0]) ?_ 6 _ rfl; (with_reducible repeat (first | refine blk_drewN ?_ _ | refine blk_drew ?_ | refine blk_alloc ?_ _)); refine blk_put (cs := #[.int .i64 ((rd_T25 l0_7 x19_2).f0), .int .i64 ((rd_T25 l0_7 x19_2).f1), .slice A118_2 ((rd_T25 l0_7 x19_2).f2).length c118_2, .int .i64 ((rd_T25 l0_7 x19_2).f3), .int .i64 ((rd_T25 l0_7 x19_2).f4), .int .i64 0, .string (⟨#[]⟩ : ByteArray), .slice none 0 0]) ?_ 5 _ rfl; (with_reducible repeat (first | refine blk_drewN ?_ _ | refine blk_drew ?_ | refine blk_alloc ?_ _)); refine blk_put (cs := #[.int .i64 ((rd_T25 l0_7 x19_2).f0), .int .i64 ((rd_T25 l0_7 x19_2).f1), .slice A118_2 ((rd_T25 l0_7 x19_2).f2).length c118_2, .int .i64 ((rd_T25 l0_7 x19_2).f3), .int .i64 0, .int .i64 0, .string (⟨#[]⟩ : ByteArray), .slice none 0 0]) ?_ 4 _ rfl; (with_reducible repeat (first | refine blk_drewN ?_ _ | refine blk_drew ?_ | refine blk_alloc ?_ _)); refine blk_put (cs := #[.int .i64 ((rd_T25 l0_7 x19_2).f0), .int .i64 ((rd_T25 l0_7 x19_2).f1), .slice A118_2 ((rd_T25 l0_7 x19_2).f2).length c118_2, .int .i64 0, .int .i64 0, .int .i64 0, .string (⟨#[]⟩ : ByteArray), .slice none 0 0]) ?_ 3 _ rfl; (with_reducible repeat (first | refine blk_drewN ?_ _ | refine blk_drew ?_ | refine blk_alloc ?_ _)); refine blk_put (cs := #[.int .i64 ((rd_T25 l0_7 x19_2).f0), .int .i64 ((rd_T25 l0_7 x19_2).f1), .slice none 0 0, .int .i64 0, .int .i64 0, .int .i64 0, .string (⟨#[]⟩ : ByteArray), .slice none 0 0]) ?_ 2 _ rfl; (with_reducible repeat (first | refine blk_drewN ?_ _ | refine blk_drew ?_ | refine blk_alloc ?_ _)); refine blk_put (cs := #[.int .i64 ((rd_T25 l0_7 x19_2).f0), .int .i64 0, .slice none 0 0, .int .i64 0, .int .i64 0, .int .i64 0, .string (⟨#[]⟩ : ByteArray), .slice none 0 0]) ?_ 1 _ rfl; (with_reducible repeat (first | refine blk_drewN ?_ _ | refine blk_drew ?_ | refine blk_alloc ?_ _)); refine blk_put (cs := #[.int .i64 0, .int .i64 0, .slice none 0 0, .int .i64 0, .int .i64 0, .int .i64 0, .string (⟨#[]⟩ : ByteArray), .slice none 0 0]) ?_ 0 _ rfl; (with_reducible repeat (first | refine blk_drewN ?_ _ | refine blk_drew ?_ | refine blk_alloc ?_ _)); exact BK119.out) hb); have n2_ := Aside0.mk (below_step (by repeat (first | (with_reducible first | exact HB.out | apply below_alloc | apply pw_below_drewN | apply below_drew1 | refine below_set ?_ GE117.out | refine below_set ?_ GE119.out) | exact HB.out)) hb); clear BK117; clear BK119; clear HB; have BK117 := n0_; have BK119 := n1_; have HB := n2_; clear n0_ n1_ n2_; (try clear hb); (try clear hb2); (try clear hk); (try clear hi)))
                  go_roundg k2
                  case measure => have := HJ2.out; have := HK2.out; omega
                  case rel => exact ⟨(t120), (wrap64 (x19_2 + 1)), (by first | rfl | (simp; done) | (simp [*]; done)), (by first | rfl | (simp; done) | (simp [*]; done)), H', ⟨by have := HJ2.out; have := HK2.out; omega⟩, ⟨by (with_reducible repeat (first | refine blk_drewN ?_ _ | refine blk_drew ?_ | refine blk_alloc ?_ _)); exact BK117.out⟩, ⟨by repeat (first | (with_reducible first | exact HB.out | apply below_alloc | apply pw_below_drewN | apply below_drew1 | refine below_set ?_ GE117.out | refine below_set ?_ GE119.out) | exact HB.out)⟩⟩
              · rw [if_neg c13] at H
                exact absurd H (by simp)
            · rw [if_neg c12] at H
              exact absurd H (by simp)
          · rw [if_neg c11] at H
            have c11b0 : decide (x19_2 < (l0_7.length : Int)) = false := decide_eq_false c11
            clear c11
            obtain rfl := Option.some.inj H
            go_wp2
            go_ret
            exact ⟨by first | rfl | (simp [errW_none, errW_some] <;> rfl) | (simp [*, errW_none, errW_some] <;> rfl), by repeat (first | (with_reducible first | exact HB.out | apply below_alloc | apply pw_below_drewN | apply below_drew1 | refine below_set ?_ GE117.out) | exact HB.out)⟩

end Go.Proofs.YtofkpinikkfmeaaDoor.PFnMtLeast
