/- Machine-made: walks of functions of the program, out of the print's own lines. -/
import Derived.Test.YtofkpinikkfmeaaDoorPFnMtLeasty0
import Derived.Test.YtofkpinikkfmeaaDoorPFnMtLeasty1
namespace Go.Proofs.YtofkpinikkfmeaaDoor.PFnMtLeast
open Go.RowKit Go.Proofs.YtofkpinikkfmeaaDoorW.PrintWords Go.Proofs.YtofkpinikkfmeaaDoorW.PrintLast Go.Proofs.YtofkpinikkfmeaaDoorW.PrintMore
attribute [local go_sem] max2_int min2_int max_two min_two max_three min_three max_four min_four   -- for this text's walks alone
set_option linter.unusedVariables false
set_option linter.unusedSimpArgs false

/-! ### spec_reNode: function 25 -/
mutual
def spec_reNode.j0 : Nat → Bool → Int → Int → List Int → Int → Int → Int → ByteArray → List (S25) → Option (Bool)
  | 0, _, _, _, _, _, _, _, _, _ => none
  | k + 1, x28, x108000, x108001, x108002, x108003, x108004, x108005, x108006, x108007 => if x28 = true then (some false) else (if x108000 = 3 then (spec_reNode.l0 k x108002 (x108002.length : Int) 0 x108000 x108001 x108002 x108003 x108004 x108005 x108006 x108007) else (if x108000 = 4 then ((spec_reClass.f k x108002).bind fun t111 => (some t111)) else (if x108000 = 17 then (if 0 ≤ x108003 then (if x108003 ≤ 1000 then (if x108004 = (-1) then (some true) else (if x108003 ≤ x108004 then (some (decide (x108004 ≤ 1000))) else (some false))) else (some false)) else (some false)) else (some true))))
def spec_reNode.l0 : Nat → List Int → Int → Int → Int → Int → List Int → Int → Int → Int → ByteArray → List (S25) → Option (Bool)
  | 0, _, _, _, _, _, _, _, _, _, _, _ => none
  | k + 1, x34, x35, x36, x108000, x108001, x108002, x108003, x108004, x108005, x108006, x108007 => if x36 < x35 then (if 0 ≤ x36 then (if x36 < (x34.length : Int) then (if (rd x34 x36) < 0 then (some false) else (if (rd x34 x36) > 1114111 then (some false) else (spec_reNode.l0 k x34 x35 (wrap64 (x36 + 1)) x108000 x108001 x108002 x108003 x108004 x108005 x108006 x108007))) else (none)) else (none)) else (some (decide ((x108002.length : Int) > 0)))
end
def spec_reNode.f (k : Nat) (a0_0 : Int) (a0_1 : Int) (l0_2 : List Int) (a0_3 : Int) (a0_4 : Int) (a0_5 : Int) (a0_6 : ByteArray) (l0_7 : List (S25)) : Option (Bool) := (spec_reArity.f k a0_0).bind fun bt108 => (if (l0_7.length : Int) < bt108.1 then (spec_reNode.j0 k true a0_0 a0_1 l0_2 a0_3 a0_4 a0_5 a0_6 l0_7) else (if bt108.2 ≥ 0 then (spec_reNode.j0 k (decide ((l0_7.length : Int) > bt108.2)) a0_0 a0_1 l0_2 a0_3 a0_4 a0_5 a0_6 l0_7) else (spec_reNode.j0 k false a0_0 a0_1 l0_2 a0_3 a0_4 a0_5 a0_6 l0_7)))
theorem spec_reNode.mono_l : ∀ k, (∀ y0 y1 y2 y3 y4 y5 y6 y7 y8, LeO (spec_reNode.j0 k y0 y1 y2 y3 y4 y5 y6 y7 y8) (spec_reNode.j0 (k + 1) y0 y1 y2 y3 y4 y5 y6 y7 y8)) ∧ (∀ y0 y1 y2 y3 y4 y5 y6 y7 y8 y9 y10, LeO (spec_reNode.l0 k y0 y1 y2 y3 y4 y5 y6 y7 y8 y9 y10) (spec_reNode.l0 (k + 1) y0 y1 y2 y3 y4 y5 y6 y7 y8 y9 y10))
  | 0 => ⟨fun _ _ _ _ _ _ _ _ _ r h => by simp [spec_reNode.j0] at h, fun _ _ _ _ _ _ _ _ _ _ _ r h => by simp [spec_reNode.l0] at h⟩
  | k + 1 => by
    obtain ⟨ih0, ih1⟩ := spec_reNode.mono_l k
    refine ⟨?_, ?_⟩
    · intro y0 y1 y2 y3 y4 y5 y6 y7 y8
      unfold spec_reNode.j0
      repeat' first
      | (with_reducible exact ih0 _ _ _ _ _ _ _ _ _)
      | (with_reducible exact ih1 _ _ _ _ _ _ _ _ _ _ _)
      | (with_reducible exact spec_reArity.mono _ _)
      | (with_reducible exact spec_reClass.mono _ _)
      | (with_reducible exact LeO.refl _)
      | (with_reducible exact LeO.none _)
      | (with_reducible refine LeO.ite ?_ ?_)
      | (with_reducible refine LeO.bind ?_ (fun _ => ?_))
      | exact ih0 _ _ _ _ _ _ _ _ _
      | exact ih1 _ _ _ _ _ _ _ _ _ _ _
      | exact spec_reArity.mono _ _
      | exact spec_reClass.mono _ _
      | exact LeO.none _
      | refine LeO.ite ?_ ?_
      | refine LeO.bind ?_ (fun _ => ?_)
    · intro y0 y1 y2 y3 y4 y5 y6 y7 y8 y9 y10
      unfold spec_reNode.l0
      repeat' first
      | (with_reducible exact ih0 _ _ _ _ _ _ _ _ _)
      | (with_reducible exact ih1 _ _ _ _ _ _ _ _ _ _ _)
      | (with_reducible exact spec_reArity.mono _ _)
      | (with_reducible exact spec_reClass.mono _ _)
      | (with_reducible exact LeO.refl _)
      | (with_reducible exact LeO.none _)
      | (with_reducible refine LeO.ite ?_ ?_)
      | (with_reducible refine LeO.bind ?_ (fun _ => ?_))
      | exact ih0 _ _ _ _ _ _ _ _ _
      | exact ih1 _ _ _ _ _ _ _ _ _ _ _
      | exact spec_reArity.mono _ _
      | exact spec_reClass.mono _ _
      | exact LeO.none _
      | refine LeO.ite ?_ ?_
      | refine LeO.bind ?_ (fun _ => ?_)
theorem spec_reNode.mono : ∀ a0 a1 a2 a3 a4 a5 a6 a7 k, LeO (spec_reNode.f k a0 a1 a2 a3 a4 a5 a6 a7) (spec_reNode.f (k + 1) a0 a1 a2 a3 a4 a5 a6 a7) := by
  intro a0 a1 a2 a3 a4 a5 a6 a7 k
  obtain ⟨ih0, ih1⟩ := spec_reNode.mono_l k
  unfold spec_reNode.f
  repeat' first
      | (with_reducible exact ih0 _ _ _ _ _ _ _ _ _)
      | (with_reducible exact ih1 _ _ _ _ _ _ _ _ _ _ _)
      | (with_reducible exact spec_reArity.mono _ _)
      | (with_reducible exact spec_reClass.mono _ _)
      | (with_reducible exact LeO.refl _)
      | (with_reducible exact LeO.none _)
      | (with_reducible refine LeO.ite ?_ ?_)
      | (with_reducible refine LeO.bind ?_ (fun _ => ?_))
      | exact ih0 _ _ _ _ _ _ _ _ _
      | exact ih1 _ _ _ _ _ _ _ _ _ _ _
      | exact spec_reArity.mono _ _
      | exact spec_reClass.mono _ _
      | exact LeO.none _
      | refine LeO.ite ?_ ?_
      | refine LeO.bind ?_ (fun _ => ?_)
set_option maxHeartbeats 8000000 in
set_option maxRecDepth 100000 in
theorem spec_reNode.calls (k : Nat) (a0_0 : Int) (a0_1 : Int) (A0_2 : Option Addr) (c0_2 : Nat) (l0_2 : List Int) (a0_3 : Int) (a0_4 : Int) (a0_5 : Int) (a0_6 : ByteArray) (A0_7 : Option Addr) (c0_7 : Nat) (l0_7 : List (S25)) (r : Bool) (w : World) (hr0_2 : Kd.C (Kd.int .i32) w A0_2 l0_2.length l0_2) (hc0_2 : l0_2.length ≤ c0_2) (hr0_7 : Kd.C k25 w A0_7 l0_7.length l0_7) (hc0_7 : l0_7.length ≤ c0_7) (h : spec_reNode.f k a0_0 a0_1 l0_2 a0_3 a0_4 a0_5 a0_6 l0_7 = some r) :
    Calls Tryd.prog 25 #[.agg #[.int .i64 a0_0, .int .i64 a0_1, .slice A0_2 l0_2.length c0_2, .int .i64 a0_3, .int .i64 a0_4, .int .i64 a0_5, .string a0_6, .slice A0_7 l0_7.length c0_7]] w fun e w' => e = .returned (.bool r) ∧ Below w.heap.size w w' := by
  have hu25 := Tryd.underlying25
  have HR0_2 := Aside0.mk hr0_2
  have HC0_2 := Aside0.mk hc0_2
  clear hr0_2 hc0_2
  have HR0_7 := Aside0.mk hr0_7
  have HC0_7 := Aside0.mk hc0_7
  clear hr0_7 hc0_7
  have HB := Aside0.mk (Below.refl w.heap.size w)
  have H : ((spec_reArity.f k a0_0).bind fun bt108 => (if (l0_7.length : Int) < bt108.1 then (spec_reNode.j0 k true a0_0 a0_1 l0_2 a0_3 a0_4 a0_5 a0_6 l0_7) else (if bt108.2 ≥ 0 then (spec_reNode.j0 k (decide ((l0_7.length : Int) > bt108.2)) a0_0 a0_1 l0_2 a0_3 a0_4 a0_5 a0_6 l0_7) else (spec_reNode.j0 k false a0_0 a0_1 l0_2 a0_3 a0_4 a0_5 a0_6 l0_7)))) = some r := h
  clear h
  replace H := Option.bind_eq_some_iff.mp H
  obtain ⟨⟨t108, t109⟩, A20, H⟩ := H
  replace H : (if (l0_7.length : Int) < t108 then (spec_reNode.j0 k true a0_0 a0_1 l0_2 a0_3 a0_4 a0_5 a0_6 l0_7) else (if t109 ≥ 0 then (spec_reNode.j0 k (decide ((l0_7.length : Int) > t109)) a0_0 a0_1 l0_2 a0_3 a0_4 a0_5 a0_6 l0_7) else (spec_reNode.j0 k false a0_0 a0_1 l0_2 a0_3 a0_4 a0_5 a0_6 l0_7))) = some r := H
  have A2 := Aside0.mk A20
  clear A20
  have HC3 := Aside0.mk H
  clear H
  go_enter Tryd.func25, Tryd.ntmps25
  go_upto_region 2 with (first | ((with_reducible refine gate_dst (N := 1) rfl ?_); (try (refine gate_guard (by rfl) ?_; dsimp only)); refine box_event ?hg (N := 1) ?hd (cs := #[.int .i64 a0_0, .int .i64 a0_1, .slice A0_2 l0_2.length c0_2, .int .i64 a0_3, .int .i64 a0_4, .int .i64 a0_5, .string a0_6, .slice A0_7 l0_7.length c0_7]) (t := 25) ?hr ?_; (case hd => rfl); (case hg => rfl); (case hr => first | (go_simp; done) | (go_simp; rfl)); intro gb107 hg w4 hbox hb; have n0_ := Aside0.mk (below_step (by repeat (first | (with_reducible first | exact HB.out | apply below_alloc | apply pw_below_drewN | apply below_drew1) | exact HB.out)) hb); have n1_ := Aside0.mk (hbox); have n2_ := Aside0.mk ((by rw [hg]; exact (below_size (by repeat (first | (with_reducible first | exact HB.out | apply below_alloc | apply pw_below_drewN | apply below_drew1) | exact HB.out))) : w.heap.size ≤ gb107)); have n3_ := Aside0.mk ((by rw [hg]; exact (below_size (by repeat (first | (with_reducible first | exact HB.out | apply below_alloc | apply pw_below_drewN | apply below_drew1) | exact HB.out))) : w.heap.size ≤ gb107)); clear HB; have HB := n0_; have BK107 := n1_; have GW107 := n2_; have GE107 := n3_; clear n0_ n1_ n2_ n3_; clear hb hbox hg; have hcz5_0 : w4.cell? ⟨gb107, 0, none⟩ = some (.int .i64 a0_0) := (blk_cell BK107.out 0).trans rfl; have hcz5_1 : w4.cell? ⟨gb107, 1, none⟩ = some (.int .i64 a0_1) := (blk_cell BK107.out 1).trans rfl; have hcz5_2 : w4.cell? ⟨gb107, 2, none⟩ = some (.slice A0_2 l0_2.length c0_2) := (blk_cell BK107.out 2).trans rfl; have hcz5_3 : w4.cell? ⟨gb107, 3, none⟩ = some (.int .i64 a0_3) := (blk_cell BK107.out 3).trans rfl; have hcz5_4 : w4.cell? ⟨gb107, 4, none⟩ = some (.int .i64 a0_4) := (blk_cell BK107.out 4).trans rfl; have hcz5_5 : w4.cell? ⟨gb107, 5, none⟩ = some (.int .i64 a0_5) := (blk_cell BK107.out 5).trans rfl; have hcz5_6 : w4.cell? ⟨gb107, 6, none⟩ = some (.string a0_6) := (blk_cell BK107.out 6).trans rfl; have hcz5_7 : w4.cell? ⟨gb107, 7, none⟩ = some (.slice A0_7 l0_7.length c0_7) := (blk_cell BK107.out 7).trans rfl; have hfz5_0 := blk_frozen BK107.out 0; have hfz5_1 := blk_frozen BK107.out 1; have hfz5_2 := blk_frozen BK107.out 2; have hfz5_3 := blk_frozen BK107.out 3; have hfz5_4 := blk_frozen BK107.out 4; have hfz5_5 := blk_frozen BK107.out 5; have hfz5_6 := blk_frozen BK107.out 6; have hfz5_7 := blk_frozen BK107.out 7) | ((with_reducible refine gate_callee (f := 37) rfl ?_); refine goesL_ (some 10) rfl rfl Tryd.func37 (by kernel_rfl) rfl #[.int .i64 a0_0] rfl (by (try simp only [List.map_toArray, List.map_cons, List.map_nil]); first | done | rfl | (simp only [List.length_drop, List.length_take]; rfl)) ?_; (with_reducible refine (spec_reArity.calls k a0_0 t108 t109 _ A2.out).mono ?_); rintro e w' ⟨rfl, ⟨nd, rfl⟩⟩; refine ⟨_, rfl, ?_⟩))
  (try simp only [Act.put, List.setIfInBounds_toArray, List.set_cons_zero, List.set_cons_succ])
  go_cut [28] (fun v28 wc => ∃ (kq : Nat) (x28_2 : Bool), v28 = .bool x28_2 ∧ Aside0 (spec_reNode.j0 kq x28_2 a0_0 a0_1 l0_2 a0_3 a0_4 a0_5 a0_6 l0_7 = some r) ∧ Aside0 (kq ≤ k) ∧ Aside0 (wc.heap[gb107]? = some (.cells #[.int .i64 a0_0, .int .i64 a0_1, (.slice A0_2 l0_2.length c0_2), .int .i64 a0_3, .int .i64 a0_4, .int .i64 a0_5, .string a0_6, (.slice A0_7 l0_7.length c0_7)] 25 (0, 0))) ∧ Aside0 (Below w.heap.size w wc))
  case first =>
    have H := HC3.out
    clear HC3
    by_cases c6 : (l0_7.length : Int) < t108
    · rw [if_pos c6] at H
      have c6b0 : decide ((l0_7.length : Int) < t108) = true := decide_eq_true c6
      clear c6
      (first | rw [c6b0] | (simp only [i64_w, i32_w]; rw [c6b0]) | skip)
      have H' := Aside0.mk H
      clear H
      have hcz7_0 : w4.cell? ⟨gb107, 0, none⟩ = some (.int .i64 a0_0) := (blk_cell BK107.out 0).trans rfl
      have hcz7_1 : w4.cell? ⟨gb107, 1, none⟩ = some (.int .i64 a0_1) := (blk_cell BK107.out 1).trans rfl
      have hcz7_2 : w4.cell? ⟨gb107, 2, none⟩ = some (.slice A0_2 l0_2.length c0_2) := (blk_cell BK107.out 2).trans rfl
      have hcz7_3 : w4.cell? ⟨gb107, 3, none⟩ = some (.int .i64 a0_3) := (blk_cell BK107.out 3).trans rfl
      have hcz7_4 : w4.cell? ⟨gb107, 4, none⟩ = some (.int .i64 a0_4) := (blk_cell BK107.out 4).trans rfl
      have hcz7_5 : w4.cell? ⟨gb107, 5, none⟩ = some (.int .i64 a0_5) := (blk_cell BK107.out 5).trans rfl
      have hcz7_6 : w4.cell? ⟨gb107, 6, none⟩ = some (.string a0_6) := (blk_cell BK107.out 6).trans rfl
      have hcz7_7 : w4.cell? ⟨gb107, 7, none⟩ = some (.slice A0_7 l0_7.length c0_7) := (blk_cell BK107.out 7).trans rfl
      have hfz7_0 := blk_frozen BK107.out 0
      have hfz7_1 := blk_frozen BK107.out 1
      have hfz7_2 := blk_frozen BK107.out 2
      have hfz7_3 := blk_frozen BK107.out 3
      have hfz7_4 := blk_frozen BK107.out 4
      have hfz7_5 := blk_frozen BK107.out 5
      have hfz7_6 := blk_frozen BK107.out 6
      have hfz7_7 := blk_frozen BK107.out 7
      go_wp2
      go_meet
      case rel => exact ⟨_, (true), (by first | rfl | (simp; done) | (simp [*]; done)), H', ⟨by first | omega | exact Nat.le_refl _⟩, ⟨by (with_reducible repeat (first | refine blk_drewN ?_ _ | refine blk_drew ?_ | refine blk_alloc ?_ _)); exact BK107.out⟩, ⟨by repeat (first | (with_reducible first | exact HB.out | apply below_alloc | apply pw_below_drewN | apply below_drew1 | refine below_set ?_ GE107.out) | exact HB.out)⟩⟩
    · rw [if_neg c6] at H
      have c6b0 : decide ((l0_7.length : Int) < t108) = false := decide_eq_false c6
      clear c6
      (first | rw [c6b0] | (simp only [i64_w, i32_w]; rw [c6b0]) | skip)
      by_cases c8 : t109 ≥ 0
      · rw [if_pos c8] at H
        have c8b0 : decide (0 ≤ t109) = true := decide_eq_true c8
        clear c8
        have H' := Aside0.mk H
        clear H
        have hcz9_0 : w4.cell? ⟨gb107, 0, none⟩ = some (.int .i64 a0_0) := (blk_cell BK107.out 0).trans rfl
        have hcz9_1 : w4.cell? ⟨gb107, 1, none⟩ = some (.int .i64 a0_1) := (blk_cell BK107.out 1).trans rfl
        have hcz9_2 : w4.cell? ⟨gb107, 2, none⟩ = some (.slice A0_2 l0_2.length c0_2) := (blk_cell BK107.out 2).trans rfl
        have hcz9_3 : w4.cell? ⟨gb107, 3, none⟩ = some (.int .i64 a0_3) := (blk_cell BK107.out 3).trans rfl
        have hcz9_4 : w4.cell? ⟨gb107, 4, none⟩ = some (.int .i64 a0_4) := (blk_cell BK107.out 4).trans rfl
        have hcz9_5 : w4.cell? ⟨gb107, 5, none⟩ = some (.int .i64 a0_5) := (blk_cell BK107.out 5).trans rfl
        have hcz9_6 : w4.cell? ⟨gb107, 6, none⟩ = some (.string a0_6) := (blk_cell BK107.out 6).trans rfl
        have hcz9_7 : w4.cell? ⟨gb107, 7, none⟩ = some (.slice A0_7 l0_7.length c0_7) := (blk_cell BK107.out 7).trans rfl
        have hfz9_0 := blk_frozen BK107.out 0
        have hfz9_1 := blk_frozen BK107.out 1
        have hfz9_2 := blk_frozen BK107.out 2
        have hfz9_3 := blk_frozen BK107.out 3
        have hfz9_4 := blk_frozen BK107.out 4
        have hfz9_5 := blk_frozen BK107.out 5
        have hfz9_6 := blk_frozen BK107.out 6
        have hfz9_7 := blk_frozen BK107.out 7
        go_wp2
        go_meet
        case rel => exact ⟨_, (decide ((l0_7.length : Int) > t109)), (by first | rfl | (simp; done) | (simp [*]; done)), H', ⟨by first | omega | exact Nat.le_refl _⟩, ⟨by (with_reducible repeat (first | refine blk_drewN ?_ _ | refine blk_drew ?_ | refine blk_alloc ?_ _)); exact BK107.out⟩, ⟨by repeat (first | (with_reducible first | exact HB.out | apply below_alloc | apply pw_below_drewN | apply below_drew1 | refine below_set ?_ GE107.out) | exact HB.out)⟩⟩
      · rw [if_neg c8] at H
        have c8b0 : decide (0 ≤ t109) = false := decide_eq_false c8
        clear c8
        have H' := Aside0.mk H
        clear H
        have hcz10_0 : w4.cell? ⟨gb107, 0, none⟩ = some (.int .i64 a0_0) := (blk_cell BK107.out 0).trans rfl
        have hcz10_1 : w4.cell? ⟨gb107, 1, none⟩ = some (.int .i64 a0_1) := (blk_cell BK107.out 1).trans rfl
        have hcz10_2 : w4.cell? ⟨gb107, 2, none⟩ = some (.slice A0_2 l0_2.length c0_2) := (blk_cell BK107.out 2).trans rfl
        have hcz10_3 : w4.cell? ⟨gb107, 3, none⟩ = some (.int .i64 a0_3) := (blk_cell BK107.out 3).trans rfl
        have hcz10_4 : w4.cell? ⟨gb107, 4, none⟩ = some (.int .i64 a0_4) := (blk_cell BK107.out 4).trans rfl
        have hcz10_5 : w4.cell? ⟨gb107, 5, none⟩ = some (.int .i64 a0_5) := (blk_cell BK107.out 5).trans rfl
        have hcz10_6 : w4.cell? ⟨gb107, 6, none⟩ = some (.string a0_6) := (blk_cell BK107.out 6).trans rfl
        have hcz10_7 : w4.cell? ⟨gb107, 7, none⟩ = some (.slice A0_7 l0_7.length c0_7) := (blk_cell BK107.out 7).trans rfl
        have hfz10_0 := blk_frozen BK107.out 0
        have hfz10_1 := blk_frozen BK107.out 1
        have hfz10_2 := blk_frozen BK107.out 2
        have hfz10_3 := blk_frozen BK107.out 3
        have hfz10_4 := blk_frozen BK107.out 4
        have hfz10_5 := blk_frozen BK107.out 5
        have hfz10_6 := blk_frozen BK107.out 6
        have hfz10_7 := blk_frozen BK107.out 7
        go_wp2
        go_meet
        case rel => exact ⟨_, (false), (by first | rfl | (simp; done) | (simp [*]; done)), H', ⟨by first | omega | exact Nat.le_refl _⟩, ⟨by (with_reducible repeat (first | refine blk_drewN ?_ _ | refine blk_drew ?_ | refine blk_alloc ?_ _)); exact BK107.out⟩, ⟨by repeat (first | (with_reducible first | exact HB.out | apply below_alloc | apply pw_below_drewN | apply below_drew1 | refine below_set ?_ GE107.out) | exact HB.out)⟩⟩
  case rest =>
    clear HC3
    try clear c2
    try clear p2
    try clear c3
    try clear c6
    try clear c6b0
    try clear c8
    try clear c8b0
    try clear hcz10_0
    try clear hcz10_1
    try clear hcz10_2
    try clear hcz10_3
    try clear hcz10_4
    try clear hcz10_5
    try clear hcz10_6
    try clear hcz10_7
    try clear hcz5_0
    try clear hcz5_1
    try clear hcz5_2
    try clear hcz5_3
    try clear hcz5_4
    try clear hcz5_5
    try clear hcz5_6
    try clear hcz5_7
    try clear hcz7_0
    try clear hcz7_1
    try clear hcz7_2
    try clear hcz7_3
    try clear hcz7_4
    try clear hcz7_5
    try clear hcz7_6
    try clear hcz7_7
    try clear hcz9_0
    try clear hcz9_1
    try clear hcz9_2
    try clear hcz9_3
    try clear hcz9_4
    try clear hcz9_5
    try clear hcz9_6
    try clear hcz9_7
    try clear hfz10_0
    try clear hfz10_1
    try clear hfz10_2
    try clear hfz10_3
    try clear hfz10_4
    try clear hfz10_5
    try clear hfz10_6
    try clear hfz10_7
    try clear hfz5_0
    try clear hfz5_1
    try clear hfz5_2
    try clear hfz5_3
    try clear hfz5_4
    try clear hfz5_5
    try clear hfz5_6
    try clear hfz5_7
    try clear hfz7_0
    try clear hfz7_1
    try clear hfz7_2
    try clear hfz7_3
    try clear hfz7_4
    try clear hfz7_5
    try clear hfz7_6
    try clear hfz7_7
    try clear hfz9_0
    try clear hfz9_1
    try clear hfz9_2
    try clear hfz9_3
    try clear hfz9_4
    try clear hfz9_5
    try clear hfz9_6
    try clear hfz9_7
    obtain ⟨kq, x28_2, rfl, HA, HJ2, BK107, HB⟩ := hcut
    cases kq with
    | zero => exact absurd HA.out (by simp [spec_reNode.j0])
    | succ kj2 =>
      have H := HA.out
      clear HA
      simp only [spec_reNode.j0] at H
      by_cases c11 : x28_2 = true
      · subst c11
        have H1 : (some false) = some r := by rw [if_pos rfl] at H; exact H
        clear H
        have H := H1
        clear H1
        obtain rfl := Option.some.inj H
        go_wp2
        go_ret
        exact ⟨by first | rfl | (simp [errW_none, errW_some] <;> rfl) | (simp [*, errW_none, errW_some] <;> rfl), by repeat (first | (with_reducible first | exact HB.out | apply below_alloc | apply pw_below_drewN | apply below_drew1 | refine below_set ?_ GE107.out) | exact HB.out)⟩
      · replace c11 := Bool.eq_false_iff.mpr c11
        subst c11
        have H1 : (if a0_0 = 3 then (spec_reNode.l0 kj2 l0_2 (l0_2.length : Int) 0 a0_0 a0_1 l0_2 a0_3 a0_4 a0_5 a0_6 l0_7) else (if a0_0 = 4 then ((spec_reClass.f kj2 l0_2).bind fun t111 => (some t111)) else (if a0_0 = 17 then (if 0 ≤ a0_3 then (if a0_3 ≤ 1000 then (if a0_4 = (-1) then (some true) else (if a0_3 ≤ a0_4 then (some (decide (a0_4 ≤ 1000))) else (some false))) else (some false)) else (some false)) else (some true)))) = some r := by rw [if_neg (show ¬ (false = true) by decide)] at H; exact H
        clear H
        have H := H1
        clear H1
        by_cases c12 : a0_0 = 3
        · rw [if_pos c12] at H
          have c12b0 : (a0_0 == 3) = true := beq_iff_eq.mpr c12
          have c12b1 : (a0_0 != 3) = false := bne_eq_false_iff_eq.mpr c12
          clear c12
          have H' := Aside0.mk H
          clear H
          have hcz13_0 : wc.cell? ⟨gb107, 0, none⟩ = some (.int .i64 a0_0) := (blk_cell BK107.out 0).trans rfl
          have hcz13_1 : wc.cell? ⟨gb107, 1, none⟩ = some (.int .i64 a0_1) := (blk_cell BK107.out 1).trans rfl
          have hcz13_2 : wc.cell? ⟨gb107, 2, none⟩ = some (.slice A0_2 l0_2.length c0_2) := (blk_cell BK107.out 2).trans rfl
          have hcz13_3 : wc.cell? ⟨gb107, 3, none⟩ = some (.int .i64 a0_3) := (blk_cell BK107.out 3).trans rfl
          have hcz13_4 : wc.cell? ⟨gb107, 4, none⟩ = some (.int .i64 a0_4) := (blk_cell BK107.out 4).trans rfl
          have hcz13_5 : wc.cell? ⟨gb107, 5, none⟩ = some (.int .i64 a0_5) := (blk_cell BK107.out 5).trans rfl
          have hcz13_6 : wc.cell? ⟨gb107, 6, none⟩ = some (.string a0_6) := (blk_cell BK107.out 6).trans rfl
          have hcz13_7 : wc.cell? ⟨gb107, 7, none⟩ = some (.slice A0_7 l0_7.length c0_7) := (blk_cell BK107.out 7).trans rfl
          have hfz13_0 := blk_frozen BK107.out 0
          have hfz13_1 := blk_frozen BK107.out 1
          have hfz13_2 := blk_frozen BK107.out 2
          have hfz13_3 := blk_frozen BK107.out 3
          have hfz13_4 := blk_frozen BK107.out 4
          have hfz13_5 := blk_frozen BK107.out 5
          have hfz13_6 := blk_frozen BK107.out 6
          have hfz13_7 := blk_frozen BK107.out 7
          go_wp2
          go_loopg [36] kj2 (fun kq v36 w' => ∃ (x36_2 : Int), v36 = .int .i64 x36_2 ∧ Aside0 (spec_reNode.l0 kq l0_2 (l0_2.length : Int) x36_2 a0_0 a0_1 l0_2 a0_3 a0_4 a0_5 a0_6 l0_7 = some r) ∧ Aside0 (kq ≤ kj2) ∧ Aside0 (w'.heap[gb107]? = some (.cells #[.int .i64 a0_0, .int .i64 a0_1, (.slice A0_2 l0_2.length c0_2), .int .i64 a0_3, .int .i64 a0_4, .int .i64 a0_5, .string a0_6, (.slice A0_7 l0_7.length c0_7)] 25 (0, 0))) ∧ Aside0 (Below w.heap.size w w'))
          case atStart => exact ⟨(0), (by first | rfl | (simp; done) | (simp [*]; done)), H', ⟨Nat.le_refl _⟩, ⟨by (with_reducible repeat (first | refine blk_drewN ?_ _ | refine blk_drew ?_ | refine blk_alloc ?_ _)); exact BK107.out⟩, ⟨by repeat (first | (with_reducible first | exact HB.out | apply below_alloc | apply pw_below_drewN | apply below_drew1 | refine below_set ?_ GE107.out) | exact HB.out)⟩⟩
          case round =>
            clear H'
            try clear c1
            try clear c2
            try clear p2
            try clear c3
            try clear c6
            try clear c6b0
            try clear c8
            try clear c8b0
            try clear c11
            try clear c12
            try clear c12b0
            try clear c12b1
            try clear hcz10_0
            try clear hcz10_1
            try clear hcz10_2
            try clear hcz10_3
            try clear hcz10_4
            try clear hcz10_5
            try clear hcz10_6
            try clear hcz10_7
            try clear hcz13_0
            try clear hcz13_1
            try clear hcz13_2
            try clear hcz13_3
            try clear hcz13_4
            try clear hcz13_5
            try clear hcz13_6
            try clear hcz13_7
            try clear hcz5_0
            try clear hcz5_1
            try clear hcz5_2
            try clear hcz5_3
            try clear hcz5_4
            try clear hcz5_5
            try clear hcz5_6
            try clear hcz5_7
            try clear hcz7_0
            try clear hcz7_1
            try clear hcz7_2
            try clear hcz7_3
            try clear hcz7_4
            try clear hcz7_5
            try clear hcz7_6
            try clear hcz7_7
            try clear hcz9_0
            try clear hcz9_1
            try clear hcz9_2
            try clear hcz9_3
            try clear hcz9_4
            try clear hcz9_5
            try clear hcz9_6
            try clear hcz9_7
            try clear hfz10_0
            try clear hfz10_1
            try clear hfz10_2
            try clear hfz10_3
            try clear hfz10_4
            try clear hfz10_5
            try clear hfz10_6
            try clear hfz10_7
            try clear hfz13_0
            try clear hfz13_1
            try clear hfz13_2
            try clear hfz13_3
            try clear hfz13_4
            try clear hfz13_5
            try clear hfz13_6
            try clear hfz13_7
            try clear hfz5_0
            try clear hfz5_1
            try clear hfz5_2
            try clear hfz5_3
            try clear hfz5_4
            try clear hfz5_5
            try clear hfz5_6
            try clear hfz5_7
            try clear hfz7_0
            try clear hfz7_1
            try clear hfz7_2
            try clear hfz7_3
            try clear hfz7_4
            try clear hfz7_5
            try clear hfz7_6
            try clear hfz7_7
            try clear hfz9_0
            try clear hfz9_1
            try clear hfz9_2
            try clear hfz9_3
            try clear hfz9_4
            try clear hfz9_5
            try clear hfz9_6
            try clear hfz9_7
            try clear p2
            obtain ⟨x36_2, rfl, HA, HK2, BK107, HB⟩ := hrel
            cases gk with
            | zero => exact absurd HA.out (by simp [spec_reNode.l0])
            | succ k2 =>
              have H := HA.out
              clear HA
              simp only [spec_reNode.l0] at H
              by_cases c14 : x36_2 < (l0_2.length : Int)
              · rw [if_pos c14] at H
                have c14b0 : decide (x36_2 < (l0_2.length : Int)) = true := decide_eq_true c14
                clear c14
                by_cases c15 : 0 ≤ x36_2
                · rw [if_pos c15] at H
                  have c15b0 : decide (0 ≤ x36_2) = true := decide_eq_true c15
                  clear c15
                  by_cases c16 : x36_2 < (l0_2.length : Int)
                  · rw [if_pos c16] at H
                    have c16b0 : decide (x36_2 < (l0_2.length : Int)) = true := decide_eq_true c16
                    clear c16
                    by_cases c17 : (rd l0_2 x36_2) < 0
                    · rw [if_pos c17] at H
                      have c17b0 : decide ((rd l0_2 x36_2) < 0) = true := decide_eq_true c17
                      clear c17
                      obtain rfl := Option.some.inj H
                      have p110 : 0 ≤ (x36_2 : Int) := of_decide_eq_true (by first | (with_reducible assumption) | assumption)
                      have q110 : x36_2 < (l0_2.length : Int) := of_decide_eq_true (by first | (with_reducible assumption) | assumption)
                      obtain ⟨ad110, e110, hx110_0⟩ := Kd.at_int HR0_2.out x36_2 p110 q110
                      cases e110
                      replace hx110_0 := (HB.out.cell (World.block_lt_of_cell? w _ hx110_0)).trans hx110_0
                      replace p110 := eq_true p110
                      replace q110 := eq_true q110
                      go_wp2
                      go_ret
                      exact ⟨by first | rfl | (simp [errW_none, errW_some] <;> rfl) | (simp [*, errW_none, errW_some] <;> rfl), by repeat (first | (with_reducible first | exact HB.out | apply below_alloc | apply pw_below_drewN | apply below_drew1 | refine below_set ?_ GE107.out) | exact HB.out)⟩
                    · rw [if_neg c17] at H
                      have c17b0 : decide ((rd l0_2 x36_2) < 0) = false := decide_eq_false c17
                      clear c17
                      by_cases c18 : (rd l0_2 x36_2) > 1114111
                      · rw [if_pos c18] at H
                        have c18b0 : decide (1114111 < (rd l0_2 x36_2)) = true := decide_eq_true c18
                        clear c18
                        obtain rfl := Option.some.inj H
                        have p110 : 0 ≤ (x36_2 : Int) := of_decide_eq_true (by first | (with_reducible assumption) | assumption)
                        have q110 : x36_2 < (l0_2.length : Int) := of_decide_eq_true (by first | (with_reducible assumption) | assumption)
                        obtain ⟨ad110, e110, hx110_0⟩ := Kd.at_int HR0_2.out x36_2 p110 q110
                        cases e110
                        replace hx110_0 := (HB.out.cell (World.block_lt_of_cell? w _ hx110_0)).trans hx110_0
                        replace p110 := eq_true p110
                        replace q110 := eq_true q110
                        go_wp2
                        go_ret
                        exact ⟨by first | rfl | (simp [errW_none, errW_some] <;> rfl) | (simp [*, errW_none, errW_some] <;> rfl), by repeat (first | (with_reducible first | exact HB.out | apply below_alloc | apply pw_below_drewN | apply below_drew1 | refine below_set ?_ GE107.out) | exact HB.out)⟩
                      · rw [if_neg c18] at H
                        have c18b0 : decide (1114111 < (rd l0_2 x36_2)) = false := decide_eq_false c18
                        clear c18
                        have H' := Aside0.mk H
                        clear H
                        have p110 : 0 ≤ (x36_2 : Int) := of_decide_eq_true (by first | (with_reducible assumption) | assumption)
                        have q110 : x36_2 < (l0_2.length : Int) := of_decide_eq_true (by first | (with_reducible assumption) | assumption)
                        obtain ⟨ad110, e110, hx110_0⟩ := Kd.at_int HR0_2.out x36_2 p110 q110
                        cases e110
                        replace hx110_0 := (HB.out.cell (World.block_lt_of_cell? w _ hx110_0)).trans hx110_0
                        replace p110 := eq_true p110
                        replace q110 := eq_true q110
                        go_wp2
                        go_roundg k2
                        case measure => have := HJ2.out; have := HK2.out; omega
                        case rel => exact ⟨(wrap64 (x36_2 + 1)), (by first | rfl | (simp; done) | (simp [*]; done)), H', ⟨by have := HJ2.out; have := HK2.out; omega⟩, ⟨by (with_reducible repeat (first | refine blk_drewN ?_ _ | refine blk_drew ?_ | refine blk_alloc ?_ _)); exact BK107.out⟩, ⟨by repeat (first | (with_reducible first | exact HB.out | apply below_alloc | apply pw_below_drewN | apply below_drew1 | refine below_set ?_ GE107.out) | exact HB.out)⟩⟩
                  · rw [if_neg c16] at H
                    exact absurd H (by simp)
                · rw [if_neg c15] at H
                  exact absurd H (by simp)
              · rw [if_neg c14] at H
                have c14b0 : decide (x36_2 < (l0_2.length : Int)) = false := decide_eq_false c14
                clear c14
                obtain rfl := Option.some.inj H
                have hcz19_0 : wr.cell? ⟨gb107, 0, none⟩ = some (.int .i64 a0_0) := (blk_cell BK107.out 0).trans rfl
                have hcz19_1 : wr.cell? ⟨gb107, 1, none⟩ = some (.int .i64 a0_1) := (blk_cell BK107.out 1).trans rfl
                have hcz19_2 : wr.cell? ⟨gb107, 2, none⟩ = some (.slice A0_2 l0_2.length c0_2) := (blk_cell BK107.out 2).trans rfl
                have hcz19_3 : wr.cell? ⟨gb107, 3, none⟩ = some (.int .i64 a0_3) := (blk_cell BK107.out 3).trans rfl
                have hcz19_4 : wr.cell? ⟨gb107, 4, none⟩ = some (.int .i64 a0_4) := (blk_cell BK107.out 4).trans rfl
                have hcz19_5 : wr.cell? ⟨gb107, 5, none⟩ = some (.int .i64 a0_5) := (blk_cell BK107.out 5).trans rfl
                have hcz19_6 : wr.cell? ⟨gb107, 6, none⟩ = some (.string a0_6) := (blk_cell BK107.out 6).trans rfl
                have hcz19_7 : wr.cell? ⟨gb107, 7, none⟩ = some (.slice A0_7 l0_7.length c0_7) := (blk_cell BK107.out 7).trans rfl
                have hfz19_0 := blk_frozen BK107.out 0
                have hfz19_1 := blk_frozen BK107.out 1
                have hfz19_2 := blk_frozen BK107.out 2
                have hfz19_3 := blk_frozen BK107.out 3
                have hfz19_4 := blk_frozen BK107.out 4
                have hfz19_5 := blk_frozen BK107.out 5
                have hfz19_6 := blk_frozen BK107.out 6
                have hfz19_7 := blk_frozen BK107.out 7
                go_wp2
                go_ret
                exact ⟨by first | rfl | (simp [errW_none, errW_some] <;> rfl) | (simp [*, errW_none, errW_some] <;> rfl), by repeat (first | (with_reducible first | exact HB.out | apply below_alloc | apply pw_below_drewN | apply below_drew1 | refine below_set ?_ GE107.out) | exact HB.out)⟩
        · rw [if_neg c12] at H
          have c12b0 : (a0_0 == 3) = false := beq_eq_false_iff_ne.mpr c12
          have c12b1 : (a0_0 != 3) = true := bne_iff_ne.mpr c12
          by_cases c20 : a0_0 = 4
          · rw [if_pos c20] at H
            have c20b0 : (a0_0 == 4) = true := beq_iff_eq.mpr c20
            have c20b1 : (a0_0 != 4) = false := bne_eq_false_iff_eq.mpr c20
            clear c20
            replace H := Option.bind_eq_some_iff.mp H
            obtain ⟨t111, A210, H⟩ := H
            replace H : (some t111) = some r := H
            have A21 := Aside0.mk A210
            clear A210
            obtain rfl := Option.some.inj H
            have hcz22_0 : wc.cell? ⟨gb107, 0, none⟩ = some (.int .i64 a0_0) := (blk_cell BK107.out 0).trans rfl
            have hcz22_1 : wc.cell? ⟨gb107, 1, none⟩ = some (.int .i64 a0_1) := (blk_cell BK107.out 1).trans rfl
            have hcz22_2 : wc.cell? ⟨gb107, 2, none⟩ = some (.slice A0_2 l0_2.length c0_2) := (blk_cell BK107.out 2).trans rfl
            have hcz22_3 : wc.cell? ⟨gb107, 3, none⟩ = some (.int .i64 a0_3) := (blk_cell BK107.out 3).trans rfl
            have hcz22_4 : wc.cell? ⟨gb107, 4, none⟩ = some (.int .i64 a0_4) := (blk_cell BK107.out 4).trans rfl
            have hcz22_5 : wc.cell? ⟨gb107, 5, none⟩ = some (.int .i64 a0_5) := (blk_cell BK107.out 5).trans rfl
            have hcz22_6 : wc.cell? ⟨gb107, 6, none⟩ = some (.string a0_6) := (blk_cell BK107.out 6).trans rfl
            have hcz22_7 : wc.cell? ⟨gb107, 7, none⟩ = some (.slice A0_7 l0_7.length c0_7) := (blk_cell BK107.out 7).trans rfl
            have hfz22_0 := blk_frozen BK107.out 0
            have hfz22_1 := blk_frozen BK107.out 1
            have hfz22_2 := blk_frozen BK107.out 2
            have hfz22_3 := blk_frozen BK107.out 3
            have hfz22_4 := blk_frozen BK107.out 4
            have hfz22_5 := blk_frozen BK107.out 5
            have hfz22_6 := blk_frozen BK107.out 6
            have hfz22_7 := blk_frozen BK107.out 7
            go_wp2_with (first | ((with_reducible refine gate_callee (f := 38) rfl ?_); refine goesL_ (some 55) rfl rfl Tryd.func38 (by kernel_rfl) rfl #[.slice A0_2 l0_2.length c0_2] rfl (by (try simp only [List.map_toArray, List.map_cons, List.map_nil]); first | done | rfl | (simp only [List.length_drop, List.length_take]; rfl)) ?_; (with_reducible refine (spec_reClass.calls kj2 _ _ l0_2 t111 _ ?side1 ?side2 A21.out).mono ?_); (case side1 => repeat (first | exact (Kd.C_below HR0_2.out HB.out) | (with_reducible refine Kd.C_alloc ?_ _) | (with_reducible refine Kd.C_drewN ?_ _) | (with_reducible refine Kd.C_drew ?_))); (case side2 => exact HC0_2.out); rintro e w' ⟨rfl, ⟨nd, rfl⟩⟩; refine ⟨_, rfl, ?_⟩))
            go_ret
            exact ⟨by first | rfl | (simp [errW_none, errW_some] <;> rfl) | (simp [*, errW_none, errW_some] <;> rfl), by repeat (first | (with_reducible first | exact HB.out | apply below_alloc | apply pw_below_drewN | apply below_drew1 | refine below_set ?_ GE107.out) | exact HB.out)⟩
          · rw [if_neg c20] at H
            have c20b0 : (a0_0 == 4) = false := beq_eq_false_iff_ne.mpr c20
            have c20b1 : (a0_0 != 4) = true := bne_iff_ne.mpr c20
            by_cases c23 : a0_0 = 17
            · rw [if_pos c23] at H
              have c23b0 : (a0_0 == 17) = true := beq_iff_eq.mpr c23
              have c23b1 : (a0_0 != 17) = false := bne_eq_false_iff_eq.mpr c23
              clear c23
              by_cases c24 : 0 ≤ a0_3
              · rw [if_pos c24] at H
                have c24b0 : decide (0 ≤ a0_3) = true := decide_eq_true c24
                clear c24
                by_cases c25 : a0_3 ≤ 1000
                · rw [if_pos c25] at H
                  have c25b0 : decide (a0_3 ≤ 1000) = true := decide_eq_true c25
                  clear c25
                  by_cases c26 : a0_4 = (-1)
                  · rw [if_pos c26] at H
                    have c26b0 : (a0_4 == (-1)) = true := beq_iff_eq.mpr c26
                    have c26b1 : (a0_4 != (-1)) = false := bne_eq_false_iff_eq.mpr c26
                    clear c26
                    obtain rfl := Option.some.inj H
                    have hcz27_0 : wc.cell? ⟨gb107, 0, none⟩ = some (.int .i64 a0_0) := (blk_cell BK107.out 0).trans rfl
                    have hcz27_1 : wc.cell? ⟨gb107, 1, none⟩ = some (.int .i64 a0_1) := (blk_cell BK107.out 1).trans rfl
                    have hcz27_2 : wc.cell? ⟨gb107, 2, none⟩ = some (.slice A0_2 l0_2.length c0_2) := (blk_cell BK107.out 2).trans rfl
                    have hcz27_3 : wc.cell? ⟨gb107, 3, none⟩ = some (.int .i64 a0_3) := (blk_cell BK107.out 3).trans rfl
                    have hcz27_4 : wc.cell? ⟨gb107, 4, none⟩ = some (.int .i64 a0_4) := (blk_cell BK107.out 4).trans rfl
                    have hcz27_5 : wc.cell? ⟨gb107, 5, none⟩ = some (.int .i64 a0_5) := (blk_cell BK107.out 5).trans rfl
                    have hcz27_6 : wc.cell? ⟨gb107, 6, none⟩ = some (.string a0_6) := (blk_cell BK107.out 6).trans rfl
                    have hcz27_7 : wc.cell? ⟨gb107, 7, none⟩ = some (.slice A0_7 l0_7.length c0_7) := (blk_cell BK107.out 7).trans rfl
                    have hfz27_0 := blk_frozen BK107.out 0
                    have hfz27_1 := blk_frozen BK107.out 1
                    have hfz27_2 := blk_frozen BK107.out 2
                    have hfz27_3 := blk_frozen BK107.out 3
                    have hfz27_4 := blk_frozen BK107.out 4
                    have hfz27_5 := blk_frozen BK107.out 5
                    have hfz27_6 := blk_frozen BK107.out 6
                    have hfz27_7 := blk_frozen BK107.out 7
                    go_wp2
                    go_ret
                    exact ⟨by first | rfl | (simp [errW_none, errW_some] <;> rfl) | (simp [*, errW_none, errW_some] <;> rfl), by repeat (first | (with_reducible first | exact HB.out | apply below_alloc | apply pw_below_drewN | apply below_drew1 | refine below_set ?_ GE107.out) | exact HB.out)⟩
                  · rw [if_neg c26] at H
                    have c26b0 : (a0_4 == (-1)) = false := beq_eq_false_iff_ne.mpr c26
                    have c26b1 : (a0_4 != (-1)) = true := bne_iff_ne.mpr c26
                    by_cases c28 : a0_3 ≤ a0_4
                    · rw [if_pos c28] at H
                      have c28b0 : decide (a0_3 ≤ a0_4) = true := decide_eq_true c28
                      clear c28
                      obtain rfl := Option.some.inj H
                      have hcz29_0 : wc.cell? ⟨gb107, 0, none⟩ = some (.int .i64 a0_0) := (blk_cell BK107.out 0).trans rfl
                      have hcz29_1 : wc.cell? ⟨gb107, 1, none⟩ = some (.int .i64 a0_1) := (blk_cell BK107.out 1).trans rfl
                      have hcz29_2 : wc.cell? ⟨gb107, 2, none⟩ = some (.slice A0_2 l0_2.length c0_2) := (blk_cell BK107.out 2).trans rfl
                      have hcz29_3 : wc.cell? ⟨gb107, 3, none⟩ = some (.int .i64 a0_3) := (blk_cell BK107.out 3).trans rfl
                      have hcz29_4 : wc.cell? ⟨gb107, 4, none⟩ = some (.int .i64 a0_4) := (blk_cell BK107.out 4).trans rfl
                      have hcz29_5 : wc.cell? ⟨gb107, 5, none⟩ = some (.int .i64 a0_5) := (blk_cell BK107.out 5).trans rfl
                      have hcz29_6 : wc.cell? ⟨gb107, 6, none⟩ = some (.string a0_6) := (blk_cell BK107.out 6).trans rfl
                      have hcz29_7 : wc.cell? ⟨gb107, 7, none⟩ = some (.slice A0_7 l0_7.length c0_7) := (blk_cell BK107.out 7).trans rfl
                      have hfz29_0 := blk_frozen BK107.out 0
                      have hfz29_1 := blk_frozen BK107.out 1
                      have hfz29_2 := blk_frozen BK107.out 2
                      have hfz29_3 := blk_frozen BK107.out 3
                      have hfz29_4 := blk_frozen BK107.out 4
                      have hfz29_5 := blk_frozen BK107.out 5
                      have hfz29_6 := blk_frozen BK107.out 6
                      have hfz29_7 := blk_frozen BK107.out 7
                      go_wp2
                      go_ret
                      exact ⟨by first | rfl | (simp [errW_none, errW_some] <;> rfl) | (simp [*, errW_none, errW_some] <;> rfl), by repeat (first | (with_reducible first | exact HB.out | apply below_alloc | apply pw_below_drewN | apply below_drew1 | refine below_set ?_ GE107.out) | exact HB.out)⟩
                    · rw [if_neg c28] at H
                      have c28b0 : decide (a0_3 ≤ a0_4) = false := decide_eq_false c28
                      clear c28
                      obtain rfl := Option.some.inj H
                      have hcz30_0 : wc.cell? ⟨gb107, 0, none⟩ = some (.int .i64 a0_0) := (blk_cell BK107.out 0).trans rfl
                      have hcz30_1 : wc.cell? ⟨gb107, 1, none⟩ = some (.int .i64 a0_1) := (blk_cell BK107.out 1).trans rfl
                      have hcz30_2 : wc.cell? ⟨gb107, 2, none⟩ = some (.slice A0_2 l0_2.length c0_2) := (blk_cell BK107.out 2).trans rfl
                      have hcz30_3 : wc.cell? ⟨gb107, 3, none⟩ = some (.int .i64 a0_3) := (blk_cell BK107.out 3).trans rfl
                      have hcz30_4 : wc.cell? ⟨gb107, 4, none⟩ = some (.int .i64 a0_4) := (blk_cell BK107.out 4).trans rfl
                      have hcz30_5 : wc.cell? ⟨gb107, 5, none⟩ = some (.int .i64 a0_5) := (blk_cell BK107.out 5).trans rfl
                      have hcz30_6 : wc.cell? ⟨gb107, 6, none⟩ = some (.string a0_6) := (blk_cell BK107.out 6).trans rfl
                      have hcz30_7 : wc.cell? ⟨gb107, 7, none⟩ = some (.slice A0_7 l0_7.length c0_7) := (blk_cell BK107.out 7).trans rfl
                      have hfz30_0 := blk_frozen BK107.out 0
                      have hfz30_1 := blk_frozen BK107.out 1
                      have hfz30_2 := blk_frozen BK107.out 2
                      have hfz30_3 := blk_frozen BK107.out 3
                      have hfz30_4 := blk_frozen BK107.out 4
                      have hfz30_5 := blk_frozen BK107.out 5
                      have hfz30_6 := blk_frozen BK107.out 6
                      have hfz30_7 := blk_frozen BK107.out 7
                      go_wp2
                      go_ret
                      exact ⟨by first | rfl | (simp [errW_none, errW_some] <;> rfl) | (simp [*, errW_none, errW_some] <;> rfl), by repeat (first | (with_reducible first | exact HB.out | apply below_alloc | apply pw_below_drewN | apply below_drew1 | refine below_set ?_ GE107.out) | exact HB.out)⟩
                · rw [if_neg c25] at H
                  have c25b0 : decide (a0_3 ≤ 1000) = false := decide_eq_false c25
                  clear c25
                  obtain rfl := Option.some.inj H
                  have hcz31_0 : wc.cell? ⟨gb107, 0, none⟩ = some (.int .i64 a0_0) := (blk_cell BK107.out 0).trans rfl
                  have hcz31_1 : wc.cell? ⟨gb107, 1, none⟩ = some (.int .i64 a0_1) := (blk_cell BK107.out 1).trans rfl
                  have hcz31_2 : wc.cell? ⟨gb107, 2, none⟩ = some (.slice A0_2 l0_2.length c0_2) := (blk_cell BK107.out 2).trans rfl
                  have hcz31_3 : wc.cell? ⟨gb107, 3, none⟩ = some (.int .i64 a0_3) := (blk_cell BK107.out 3).trans rfl
                  have hcz31_4 : wc.cell? ⟨gb107, 4, none⟩ = some (.int .i64 a0_4) := (blk_cell BK107.out 4).trans rfl
                  have hcz31_5 : wc.cell? ⟨gb107, 5, none⟩ = some (.int .i64 a0_5) := (blk_cell BK107.out 5).trans rfl
                  have hcz31_6 : wc.cell? ⟨gb107, 6, none⟩ = some (.string a0_6) := (blk_cell BK107.out 6).trans rfl
                  have hcz31_7 : wc.cell? ⟨gb107, 7, none⟩ = some (.slice A0_7 l0_7.length c0_7) := (blk_cell BK107.out 7).trans rfl
                  have hfz31_0 := blk_frozen BK107.out 0
                  have hfz31_1 := blk_frozen BK107.out 1
                  have hfz31_2 := blk_frozen BK107.out 2
                  have hfz31_3 := blk_frozen BK107.out 3
                  have hfz31_4 := blk_frozen BK107.out 4
                  have hfz31_5 := blk_frozen BK107.out 5
                  have hfz31_6 := blk_frozen BK107.out 6
                  have hfz31_7 := blk_frozen BK107.out 7
                  go_wp2
                  go_ret
                  exact ⟨by first | rfl | (simp [errW_none, errW_some] <;> rfl) | (simp [*, errW_none, errW_some] <;> rfl), by repeat (first | (with_reducible first | exact HB.out | apply below_alloc | apply pw_below_drewN | apply below_drew1 | refine below_set ?_ GE107.out) | exact HB.out)⟩
              · rw [if_neg c24] at H
                have c24b0 : decide (0 ≤ a0_3) = false := decide_eq_false c24
                clear c24
                obtain rfl := Option.some.inj H
                have hcz32_0 : wc.cell? ⟨gb107, 0, none⟩ = some (.int .i64 a0_0) := (blk_cell BK107.out 0).trans rfl
                have hcz32_1 : wc.cell? ⟨gb107, 1, none⟩ = some (.int .i64 a0_1) := (blk_cell BK107.out 1).trans rfl
                have hcz32_2 : wc.cell? ⟨gb107, 2, none⟩ = some (.slice A0_2 l0_2.length c0_2) := (blk_cell BK107.out 2).trans rfl
                have hcz32_3 : wc.cell? ⟨gb107, 3, none⟩ = some (.int .i64 a0_3) := (blk_cell BK107.out 3).trans rfl
                have hcz32_4 : wc.cell? ⟨gb107, 4, none⟩ = some (.int .i64 a0_4) := (blk_cell BK107.out 4).trans rfl
                have hcz32_5 : wc.cell? ⟨gb107, 5, none⟩ = some (.int .i64 a0_5) := (blk_cell BK107.out 5).trans rfl
                have hcz32_6 : wc.cell? ⟨gb107, 6, none⟩ = some (.string a0_6) := (blk_cell BK107.out 6).trans rfl
                have hcz32_7 : wc.cell? ⟨gb107, 7, none⟩ = some (.slice A0_7 l0_7.length c0_7) := (blk_cell BK107.out 7).trans rfl
                have hfz32_0 := blk_frozen BK107.out 0
                have hfz32_1 := blk_frozen BK107.out 1
                have hfz32_2 := blk_frozen BK107.out 2
                have hfz32_3 := blk_frozen BK107.out 3
                have hfz32_4 := blk_frozen BK107.out 4
                have hfz32_5 := blk_frozen BK107.out 5
                have hfz32_6 := blk_frozen BK107.out 6
                have hfz32_7 := blk_frozen BK107.out 7
                go_wp2
                go_ret
                exact ⟨by first | rfl | (simp [errW_none, errW_some] <;> rfl) | (simp [*, errW_none, errW_some] <;> rfl), by repeat (first | (with_reducible first | exact HB.out | apply below_alloc | apply pw_below_drewN | apply below_drew1 | refine below_set ?_ GE107.out) | exact HB.out)⟩
            · rw [if_neg c23] at H
              have c23b0 : (a0_0 == 17) = false := beq_eq_false_iff_ne.mpr c23
              have c23b1 : (a0_0 != 17) = true := bne_iff_ne.mpr c23
              obtain rfl := Option.some.inj H
              have hcz33_0 : wc.cell? ⟨gb107, 0, none⟩ = some (.int .i64 a0_0) := (blk_cell BK107.out 0).trans rfl
              have hcz33_1 : wc.cell? ⟨gb107, 1, none⟩ = some (.int .i64 a0_1) := (blk_cell BK107.out 1).trans rfl
              have hcz33_2 : wc.cell? ⟨gb107, 2, none⟩ = some (.slice A0_2 l0_2.length c0_2) := (blk_cell BK107.out 2).trans rfl
              have hcz33_3 : wc.cell? ⟨gb107, 3, none⟩ = some (.int .i64 a0_3) := (blk_cell BK107.out 3).trans rfl
              have hcz33_4 : wc.cell? ⟨gb107, 4, none⟩ = some (.int .i64 a0_4) := (blk_cell BK107.out 4).trans rfl
              have hcz33_5 : wc.cell? ⟨gb107, 5, none⟩ = some (.int .i64 a0_5) := (blk_cell BK107.out 5).trans rfl
              have hcz33_6 : wc.cell? ⟨gb107, 6, none⟩ = some (.string a0_6) := (blk_cell BK107.out 6).trans rfl
              have hcz33_7 : wc.cell? ⟨gb107, 7, none⟩ = some (.slice A0_7 l0_7.length c0_7) := (blk_cell BK107.out 7).trans rfl
              have hfz33_0 := blk_frozen BK107.out 0
              have hfz33_1 := blk_frozen BK107.out 1
              have hfz33_2 := blk_frozen BK107.out 2
              have hfz33_3 := blk_frozen BK107.out 3
              have hfz33_4 := blk_frozen BK107.out 4
              have hfz33_5 := blk_frozen BK107.out 5
              have hfz33_6 := blk_frozen BK107.out 6
              have hfz33_7 := blk_frozen BK107.out 7
              go_wp2
              go_ret
              exact ⟨by first | rfl | (simp [errW_none, errW_some] <;> rfl) | (simp [*, errW_none, errW_some] <;> rfl), by repeat (first | (with_reducible first | exact HB.out | apply below_alloc | apply pw_below_drewN | apply below_drew1 | refine below_set ?_ GE107.out) | exact HB.out)⟩

end Go.Proofs.YtofkpinikkfmeaaDoor.PFnMtLeast
