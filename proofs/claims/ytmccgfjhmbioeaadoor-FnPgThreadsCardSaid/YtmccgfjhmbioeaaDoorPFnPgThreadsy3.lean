import Derived.Test.YtmccgfjhmbioeaaDoorPFnPgThreadsy0
namespace Go.Proofs.YtmccgfjhmbioeaaDoor.PFnPgThreads
open Go.RowKit Go.Proofs.YtmccgfjhmbioeaaDoorW.PrintWords Go.Proofs.YtmccgfjhmbioeaaDoorW.PrintLast Go.Proofs.YtmccgfjhmbioeaaDoorW.PrintMore
attribute [local go_sem] max2_int min2_int max_two min_two max_three min_three max_four min_four
set_option linter.unusedVariables false
set_option linter.unusedSimpArgs false
def spec_progCircle.l0 : Nat → Int → Int → Int → List (S52) → Int → Int → Option (Bool)
 | 0, _, _, _, _, _, _ => none
 | k + 1, x1, x8, x9, x140000, x140001, x140002 => if x9 < x8 then (if 0 ≤ x1 then (if x1 < (x140000.length : Int) then (if ((rd_T52 x140000 x1).f0) = 0 then (some false) else (if ((rd_T52 x140000 x1).f0) = 4 then (some false) else (if ((rd_T52 x140000 x1).f0) = 5 then (some false) else (spec_progCircle.l0 k ((rd_T52 x140000 x1).f1) x8 (wrap64 (x9 + 1)) x140000 x140001 x140002)))) else (none)) else (none)) else (some true)
def spec_progCircle.f (k : Nat) (l0_0 : List (S52)) (a0_1 : Int) (a0_2 : Int) (a1 : Int) : Option (Bool) := spec_progCircle.l0 k a1 (l0_0.length : Int) 0 l0_0 a0_1 a0_2
theorem spec_progCircle.mono_l : ∀ k, (∀ y0 y1 y2 y3 y4 y5, LeO (spec_progCircle.l0 k y0 y1 y2 y3 y4 y5) (spec_progCircle.l0 (k + 1) y0 y1 y2 y3 y4 y5))
 | 0 => fun _ _ _ _ _ _ r h => by simp [spec_progCircle.l0] at h
 | k + 1 => by
  have ih0 := spec_progCircle.mono_l k
  ·intro y0 y1 y2 y3 y4 y5
   unfold spec_progCircle.l0
   repeat' first
   | (with_reducible exact ih0 _ _ _ _ _ _)
   | (with_reducible exact LeO.refl _)
   | (with_reducible exact LeO.none _)
   | (with_reducible refine LeO.ite ?_ ?_)
   | (with_reducible refine LeO.bind ?_ (fun _ => ?_))
   | exact ih0 _ _ _ _ _ _
   | exact LeO.none _
   | refine LeO.ite ?_ ?_
   | refine LeO.bind ?_ (fun _ => ?_)
theorem spec_progCircle.mono : ∀ a0 a1 a2 a3 k, LeO (spec_progCircle.f k a0 a1 a2 a3) (spec_progCircle.f (k + 1) a0 a1 a2 a3) := by
 intro a0 a1 a2 a3 k
 have ih0 := spec_progCircle.mono_l k
 unfold spec_progCircle.f
 repeat' first
   | (with_reducible exact ih0 _ _ _ _ _ _)
   | (with_reducible exact LeO.refl _)
   | (with_reducible exact LeO.none _)
   | (with_reducible refine LeO.ite ?_ ?_)
   | (with_reducible refine LeO.bind ?_ (fun _ => ?_))
   | exact ih0 _ _ _ _ _ _
   | exact LeO.none _
   | refine LeO.ite ?_ ?_
   | refine LeO.bind ?_ (fun _ => ?_)
set_option maxHeartbeats 8000000 in
set_option maxRecDepth 100000 in
theorem spec_progCircle.calls (k : Nat) (A0_0 : Option Addr) (c0_0 : Nat) (l0_0 : List (S52)) (a0_1 : Int) (a0_2 : Int) (a1 : Int) (r : Bool) (w : World) (hr0_0 : Kd.C k52 w A0_0 l0_0.length l0_0) (hc0_0 : l0_0.length ≤ c0_0) (h : spec_progCircle.f k l0_0 a0_1 a0_2 a1 = some r) :
  Calls Tryd.prog 21 #[.agg #[.slice A0_0 l0_0.length c0_0, .int .i64 a0_1, .int .i64 a0_2], .int .i64 a1] w fun e w' => e = .returned (.bool r) ∧ Below w.heap.size w w' := by
 have hu24 := Tryd.underlying24
 have hu52 := Tryd.underlying52
 have HR0_0 := Aside0.mk hr0_0
 have HC0_0 := Aside0.mk hc0_0
 clear hr0_0 hc0_0
 have HB := Aside0.mk (Below.refl w.heap.size w)
 have H : (spec_progCircle.l0 k a1 (l0_0.length : Int) 0 l0_0 a0_1 a0_2) = some r := h
 clear h
 have H' := Aside0.mk H
 clear H
 go_enter Tryd.func21, Tryd.ntmps21
 go_wp2_with (first | ((with_reducible refine gate_dst (N := 2) rfl ?_); refine box_event ?hg (N := 2) ?hd (cs := #[.slice A0_0 l0_0.length c0_0, .int .i64 a0_1, .int .i64 a0_2]) (t := 24) ?hr ?_; (case hd => rfl); (case hg => rfl); (case hr => first | (go_simp; done) | (go_simp; rfl)); intro gb139 hg w3 hbox hb; have n0_ := Aside0.mk (below_step (by repeat (first | (with_reducible first | exact HB.out | apply below_alloc | apply pw_below_drewN | apply below_drew1) | exact HB.out)) hb); have n1_ := Aside0.mk (hbox); have n2_ := Aside0.mk ((by rw [hg]; exact (below_size (by repeat (first | (with_reducible first | exact HB.out | apply below_alloc | apply pw_below_drewN | apply below_drew1) | exact HB.out))) : w.heap.size ≤ gb139)); have n3_ := Aside0.mk ((by rw [hg]; exact (below_size (by repeat (first | (with_reducible first | exact HB.out | apply below_alloc | apply pw_below_drewN | apply below_drew1) | exact HB.out))) : w.heap.size ≤ gb139)); clear HB; have HB := n0_; have BK139 := n1_; have GW139 := n2_; have GE139 := n3_; clear n0_ n1_ n2_ n3_; clear hb hbox hg; have hcz4_0 : w3.cell? ⟨gb139, 0, none⟩ = some (.slice A0_0 l0_0.length c0_0) := (blk_cell BK139.out 0).trans rfl; have hcz4_1 : w3.cell? ⟨gb139, 1, none⟩ = some (.int .i64 a0_1) := (blk_cell BK139.out 1).trans rfl; have hcz4_2 : w3.cell? ⟨gb139, 2, none⟩ = some (.int .i64 a0_2) := (blk_cell BK139.out 2).trans rfl; have hfz4_0 := blk_frozen BK139.out 0; have hfz4_1 := blk_frozen BK139.out 1; have hfz4_2 := blk_frozen BK139.out 2))
 go_loopg [1, 9] k (fun kq v1 v9 w' => ∃ (x1_1 : Int) (x9_1 : Int), v1 = .int .i64 x1_1 ∧ v9 = .int .i64 x9_1 ∧ Aside0 (spec_progCircle.l0 kq x1_1 (l0_0.length : Int) x9_1 l0_0 a0_1 a0_2 = some r) ∧ Aside0 (kq ≤ k) ∧ Aside0 (w'.heap[gb139]? = some (.cells #[(.slice A0_0 l0_0.length c0_0), .int .i64 a0_1, .int .i64 a0_2] 24 (0, 0))) ∧ Aside0 (Below w.heap.size w w'))
 case atStart => exact ⟨(a1), (0), (by first | rfl | (simp; done) | (simp [*]; done)), (by first | rfl | (simp; done) | (simp [*]; done)), H', ⟨Nat.le_refl _⟩, ⟨by (with_reducible repeat (first | refine blk_drewN ?_ _ | refine blk_drew ?_ | refine blk_alloc ?_ _)); exact BK139.out⟩, ⟨by repeat (first | (with_reducible first | exact HB.out | apply below_alloc | apply pw_below_drewN | apply below_drew1 | refine below_set ?_ GE139.out) | exact HB.out)⟩⟩
 case round =>
  clear H'
  try clear c2
  try clear p2
  try clear hcz4_0
  try clear hcz4_1
  try clear hcz4_2
  try clear hfz4_0
  try clear hfz4_1
  try clear hfz4_2
  obtain ⟨x1_1, x9_1, rfl, rfl, HA, HK1, BK139, HB⟩ := hrel
  cases gk with
  | zero => exact absurd HA.out (by simp [spec_progCircle.l0])
  | succ k1 =>
   have H := HA.out
   clear HA
   simp only [spec_progCircle.l0] at H
   by_cases c5 : x9_1 < (l0_0.length : Int)
   ·rw [if_pos c5] at H
    have c5b0 : decide (x9_1 < (l0_0.length : Int)) = true := decide_eq_true c5
    clear c5
    by_cases c6 : 0 ≤ x1_1
    ·rw [if_pos c6] at H
     have c6b0 : decide (0 ≤ x1_1) = true := decide_eq_true c6
     clear c6
     by_cases c7 : x1_1 < (l0_0.length : Int)
     ·rw [if_pos c7] at H
      have c7b0 : decide (x1_1 < (l0_0.length : Int)) = true := decide_eq_true c7
      clear c7
      by_cases c8 : ((rd_T52 l0_0 x1_1).f0) = 0
      ·rw [if_pos c8] at H
       have c8b0 : (((rd_T52 l0_0 x1_1).f0) == 0) = true := beq_iff_eq.mpr c8
       have c8b1 : (((rd_T52 l0_0 x1_1).f0) != 0) = false := bne_eq_false_iff_eq.mpr c8
       clear c8
       obtain rfl := Option.some.inj H
       have hcz9_0 : wr.cell? ⟨gb139, 0, none⟩ = some (.slice A0_0 l0_0.length c0_0) := (blk_cell BK139.out 0).trans rfl
       have hcz9_1 : wr.cell? ⟨gb139, 1, none⟩ = some (.int .i64 a0_1) := (blk_cell BK139.out 1).trans rfl
       have hcz9_2 : wr.cell? ⟨gb139, 2, none⟩ = some (.int .i64 a0_2) := (blk_cell BK139.out 2).trans rfl
       have hfz9_0 := blk_frozen BK139.out 0
       have hfz9_1 := blk_frozen BK139.out 1
       have hfz9_2 := blk_frozen BK139.out 2
       have p140 : 0 ≤ (x1_1 : Int) := of_decide_eq_true (by first | (with_reducible assumption) | assumption)
       have q140 : x1_1 < (l0_0.length : Int) := of_decide_eq_true (by first | (with_reducible assumption) | assumption)
       obtain ⟨ad140, A140_3, c140_3, e140, hx140_0, hx140_1, hx140_2, hx140_3, hl140_3, hi140_3⟩ := at_T52 HR0_0.out x1_1 p140 q140
       cases e140
       replace hx140_0 := (HB.out.cell (World.block_lt_of_cell? w _ hx140_0)).trans hx140_0
       replace hx140_1 := (HB.out.cell (World.block_lt_of_cell? w _ hx140_1)).trans hx140_1
       replace hx140_2 := (HB.out.cell (World.block_lt_of_cell? w _ hx140_2)).trans hx140_2
       replace hx140_3 := (HB.out.cell (World.block_lt_of_cell? w _ hx140_3)).trans hx140_3
       have HR140_3 := Aside0.mk hi140_3
       have HC140_3 := Aside0.mk hl140_3
       clear hi140_3 hl140_3
       replace p140 := eq_true p140
       replace q140 := eq_true q140
       go_wp2_with (first | ((with_reducible refine gate_dst (N := 5) rfl ?_); refine box_event ?hg (N := 5) ?hd (cs := #[.int .i64 0, .int .i64 0, .int .i64 0, .slice none 0 0]) (t := 52) ?hr ?_; (case hd => rfl); (case hg => rfl); (case hr => first | (go_simp; done) | (go_simp; rfl)); intro gb141 hg w10 hbox hb; have n0_ := Aside0.mk (blk_below (g := gb139) (o := .cells #[.slice (some ad140) l0_0.length c0_0, .int .i64 a0_1, .int .i64 a0_2] 24 (0, 0)) (by (with_reducible repeat (first | refine blk_drewN ?_ _ | refine blk_drew ?_ | refine blk_alloc ?_ _)); exact BK139.out) hb); have n1_ := Aside0.mk (below_step (by repeat (first | (with_reducible first | exact HB.out | apply below_alloc | apply pw_below_drewN | apply below_drew1 | refine below_set ?_ GE139.out) | exact HB.out)) hb); have n2_ := Aside0.mk (hbox); have n3_ := Aside0.mk ((by rw [hg]; exact (below_size (by repeat (first | (with_reducible first | exact HB.out | apply below_alloc | apply pw_below_drewN | apply below_drew1 | refine below_set ?_ GE139.out) | exact HB.out))) : w.heap.size ≤ gb141)); have n4_ := Aside0.mk ((by rw [hg]; exact (below_size (by repeat (first | (with_reducible first | exact HB.out | apply below_alloc | apply pw_below_drewN | apply below_drew1 | refine below_set ?_ GE139.out) | exact HB.out))) : w.heap.size ≤ gb141)); have n5_ := Aside0.mk ((by rw [hg]; exact Nat.ne_of_lt (blk_lt (g := gb139) (o := .cells #[.slice (some ad140) l0_0.length c0_0, .int .i64 a0_1, .int .i64 a0_2] 24 (0, 0)) (by (with_reducible repeat (first | refine blk_drewN ?_ _ | refine blk_drew ?_ | refine blk_alloc ?_ _)); exact BK139.out)) : gb139 ≠ gb141)); have n6_ := Aside0.mk ((by rw [hg]; exact Nat.ne_of_gt (blk_lt (g := gb139) (o := .cells #[.slice (some ad140) l0_0.length c0_0, .int .i64 a0_1, .int .i64 a0_2] 24 (0, 0)) (by (with_reducible repeat (first | refine blk_drewN ?_ _ | refine blk_drew ?_ | refine blk_alloc ?_ _)); exact BK139.out)) : gb141 ≠ gb139)); clear BK139; clear HB; have BK139 := n0_; have HB := n1_; have BK141 := n2_; have GW141 := n3_; have GE141 := n4_; have NB139_141 := n5_; have NB141_139 := n6_; clear n0_ n1_ n2_ n3_ n4_ n5_ n6_; clear hb hbox hg; have hnb11 := NB141_139.out; have hnc11 := NB139_141.out; have hcz12_0 : w10.cell? ⟨gb141, 0, none⟩ = some (.int .i64 0) := (blk_cell BK141.out 0).trans rfl; have hcz12_1 : w10.cell? ⟨gb141, 1, none⟩ = some (.int .i64 0) := (blk_cell BK141.out 1).trans rfl; have hcz12_2 : w10.cell? ⟨gb141, 2, none⟩ = some (.int .i64 0) := (blk_cell BK141.out 2).trans rfl; have hcz12_3 : w10.cell? ⟨gb141, 3, none⟩ = some (.slice none 0 0) := (blk_cell BK141.out 3).trans rfl; have hfz12_0 := blk_frozen BK141.out 0; have hfz12_1 := blk_frozen BK141.out 1; have hfz12_2 := blk_frozen BK141.out 2; have hfz12_3 := blk_frozen BK141.out 3))
       go_ret
       exact ⟨by first | rfl | (simp [errW_none, errW_some] <;> rfl) | (simp [*, errW_none, errW_some] <;> rfl), by repeat (first | (with_reducible first | exact HB.out | apply below_alloc | apply pw_below_drewN | apply below_drew1 | refine below_set ?_ GE139.out | refine below_set ?_ GE141.out) | exact HB.out)⟩
      ·rw [if_neg c8] at H
       have c8b0 : (((rd_T52 l0_0 x1_1).f0) == 0) = false := beq_eq_false_iff_ne.mpr c8
       have c8b1 : (((rd_T52 l0_0 x1_1).f0) != 0) = true := bne_iff_ne.mpr c8
       by_cases c13 : ((rd_T52 l0_0 x1_1).f0) = 4
       ·rw [if_pos c13] at H
        have c13b0 : (((rd_T52 l0_0 x1_1).f0) == 4) = true := beq_iff_eq.mpr c13
        have c13b1 : (((rd_T52 l0_0 x1_1).f0) != 4) = false := bne_eq_false_iff_eq.mpr c13
        clear c13
        obtain rfl := Option.some.inj H
        have hcz14_0 : wr.cell? ⟨gb139, 0, none⟩ = some (.slice A0_0 l0_0.length c0_0) := (blk_cell BK139.out 0).trans rfl
        have hcz14_1 : wr.cell? ⟨gb139, 1, none⟩ = some (.int .i64 a0_1) := (blk_cell BK139.out 1).trans rfl
        have hcz14_2 : wr.cell? ⟨gb139, 2, none⟩ = some (.int .i64 a0_2) := (blk_cell BK139.out 2).trans rfl
        have hfz14_0 := blk_frozen BK139.out 0
        have hfz14_1 := blk_frozen BK139.out 1
        have hfz14_2 := blk_frozen BK139.out 2
        have p140 : 0 ≤ (x1_1 : Int) := of_decide_eq_true (by first | (with_reducible assumption) | assumption)
        have q140 : x1_1 < (l0_0.length : Int) := of_decide_eq_true (by first | (with_reducible assumption) | assumption)
        obtain ⟨ad140, A140_3, c140_3, e140, hx140_0, hx140_1, hx140_2, hx140_3, hl140_3, hi140_3⟩ := at_T52 HR0_0.out x1_1 p140 q140
        cases e140
        replace hx140_0 := (HB.out.cell (World.block_lt_of_cell? w _ hx140_0)).trans hx140_0
        replace hx140_1 := (HB.out.cell (World.block_lt_of_cell? w _ hx140_1)).trans hx140_1
        replace hx140_2 := (HB.out.cell (World.block_lt_of_cell? w _ hx140_2)).trans hx140_2
        replace hx140_3 := (HB.out.cell (World.block_lt_of_cell? w _ hx140_3)).trans hx140_3
        have HR140_3 := Aside0.mk hi140_3
        have HC140_3 := Aside0.mk hl140_3
        clear hi140_3 hl140_3
        replace p140 := eq_true p140
        replace q140 := eq_true q140
        go_wp2_with (first | ((with_reducible refine gate_dst (N := 5) rfl ?_); refine box_event ?hg (N := 5) ?hd (cs := #[.int .i64 0, .int .i64 0, .int .i64 0, .slice none 0 0]) (t := 52) ?hr ?_; (case hd => rfl); (case hg => rfl); (case hr => first | (go_simp; done) | (go_simp; rfl)); intro gb141 hg w15 hbox hb; have n0_ := Aside0.mk (blk_below (g := gb139) (o := .cells #[.slice (some ad140) l0_0.length c0_0, .int .i64 a0_1, .int .i64 a0_2] 24 (0, 0)) (by (with_reducible repeat (first | refine blk_drewN ?_ _ | refine blk_drew ?_ | refine blk_alloc ?_ _)); exact BK139.out) hb); have n1_ := Aside0.mk (below_step (by repeat (first | (with_reducible first | exact HB.out | apply below_alloc | apply pw_below_drewN | apply below_drew1 | refine below_set ?_ GE139.out) | exact HB.out)) hb); have n2_ := Aside0.mk (hbox); have n3_ := Aside0.mk ((by rw [hg]; exact (below_size (by repeat (first | (with_reducible first | exact HB.out | apply below_alloc | apply pw_below_drewN | apply below_drew1 | refine below_set ?_ GE139.out) | exact HB.out))) : w.heap.size ≤ gb141)); have n4_ := Aside0.mk ((by rw [hg]; exact (below_size (by repeat (first | (with_reducible first | exact HB.out | apply below_alloc | apply pw_below_drewN | apply below_drew1 | refine below_set ?_ GE139.out) | exact HB.out))) : w.heap.size ≤ gb141)); have n5_ := Aside0.mk ((by rw [hg]; exact Nat.ne_of_lt (blk_lt (g := gb139) (o := .cells #[.slice (some ad140) l0_0.length c0_0, .int .i64 a0_1, .int .i64 a0_2] 24 (0, 0)) (by (with_reducible repeat (first | refine blk_drewN ?_ _ | refine blk_drew ?_ | refine blk_alloc ?_ _)); exact BK139.out)) : gb139 ≠ gb141)); have n6_ := Aside0.mk ((by rw [hg]; exact Nat.ne_of_gt (blk_lt (g := gb139) (o := .cells #[.slice (some ad140) l0_0.length c0_0, .int .i64 a0_1, .int .i64 a0_2] 24 (0, 0)) (by (with_reducible repeat (first | refine blk_drewN ?_ _ | refine blk_drew ?_ | refine blk_alloc ?_ _)); exact BK139.out)) : gb141 ≠ gb139)); clear BK139; clear HB; have BK139 := n0_; have HB := n1_; have BK141 := n2_; have GW141 := n3_; have GE141 := n4_; have NB139_141 := n5_; have NB141_139 := n6_; clear n0_ n1_ n2_ n3_ n4_ n5_ n6_; clear hb hbox hg; have hnb16 := NB141_139.out; have hnc16 := NB139_141.out; have hcz17_0 : w15.cell? ⟨gb141, 0, none⟩ = some (.int .i64 0) := (blk_cell BK141.out 0).trans rfl; have hcz17_1 : w15.cell? ⟨gb141, 1, none⟩ = some (.int .i64 0) := (blk_cell BK141.out 1).trans rfl; have hcz17_2 : w15.cell? ⟨gb141, 2, none⟩ = some (.int .i64 0) := (blk_cell BK141.out 2).trans rfl; have hcz17_3 : w15.cell? ⟨gb141, 3, none⟩ = some (.slice none 0 0) := (blk_cell BK141.out 3).trans rfl; have hfz17_0 := blk_frozen BK141.out 0; have hfz17_1 := blk_frozen BK141.out 1; have hfz17_2 := blk_frozen BK141.out 2; have hfz17_3 := blk_frozen BK141.out 3))
        go_ret
        exact ⟨by first | rfl | (simp [errW_none, errW_some] <;> rfl) | (simp [*, errW_none, errW_some] <;> rfl), by repeat (first | (with_reducible first | exact HB.out | apply below_alloc | apply pw_below_drewN | apply below_drew1 | refine below_set ?_ GE139.out | refine below_set ?_ GE141.out) | exact HB.out)⟩
       ·rw [if_neg c13] at H
        have c13b0 : (((rd_T52 l0_0 x1_1).f0) == 4) = false := beq_eq_false_iff_ne.mpr c13
        have c13b1 : (((rd_T52 l0_0 x1_1).f0) != 4) = true := bne_iff_ne.mpr c13
        by_cases c18 : ((rd_T52 l0_0 x1_1).f0) = 5
        ·rw [if_pos c18] at H
         have c18b0 : (((rd_T52 l0_0 x1_1).f0) == 5) = true := beq_iff_eq.mpr c18
         have c18b1 : (((rd_T52 l0_0 x1_1).f0) != 5) = false := bne_eq_false_iff_eq.mpr c18
         clear c18
         obtain rfl := Option.some.inj H
         have hcz19_0 : wr.cell? ⟨gb139, 0, none⟩ = some (.slice A0_0 l0_0.length c0_0) := (blk_cell BK139.out 0).trans rfl
         have hcz19_1 : wr.cell? ⟨gb139, 1, none⟩ = some (.int .i64 a0_1) := (blk_cell BK139.out 1).trans rfl
         have hcz19_2 : wr.cell? ⟨gb139, 2, none⟩ = some (.int .i64 a0_2) := (blk_cell BK139.out 2).trans rfl
         have hfz19_0 := blk_frozen BK139.out 0
         have hfz19_1 := blk_frozen BK139.out 1
         have hfz19_2 := blk_frozen BK139.out 2
         have p140 : 0 ≤ (x1_1 : Int) := of_decide_eq_true (by first | (with_reducible assumption) | assumption)
         have q140 : x1_1 < (l0_0.length : Int) := of_decide_eq_true (by first | (with_reducible assumption) | assumption)
         obtain ⟨ad140, A140_3, c140_3, e140, hx140_0, hx140_1, hx140_2, hx140_3, hl140_3, hi140_3⟩ := at_T52 HR0_0.out x1_1 p140 q140
         cases e140
         replace hx140_0 := (HB.out.cell (World.block_lt_of_cell? w _ hx140_0)).trans hx140_0
         replace hx140_1 := (HB.out.cell (World.block_lt_of_cell? w _ hx140_1)).trans hx140_1
         replace hx140_2 := (HB.out.cell (World.block_lt_of_cell? w _ hx140_2)).trans hx140_2
         replace hx140_3 := (HB.out.cell (World.block_lt_of_cell? w _ hx140_3)).trans hx140_3
         have HR140_3 := Aside0.mk hi140_3
         have HC140_3 := Aside0.mk hl140_3
         clear hi140_3 hl140_3
         replace p140 := eq_true p140
         replace q140 := eq_true q140
         go_wp2_with (first | ((with_reducible refine gate_dst (N := 5) rfl ?_); refine box_event ?hg (N := 5) ?hd (cs := #[.int .i64 0, .int .i64 0, .int .i64 0, .slice none 0 0]) (t := 52) ?hr ?_; (case hd => rfl); (case hg => rfl); (case hr => first | (go_simp; done) | (go_simp; rfl)); intro gb141 hg w20 hbox hb; have n0_ := Aside0.mk (blk_below (g := gb139) (o := .cells #[.slice (some ad140) l0_0.length c0_0, .int .i64 a0_1, .int .i64 a0_2] 24 (0, 0)) (by (with_reducible repeat (first | refine blk_drewN ?_ _ | refine blk_drew ?_ | refine blk_alloc ?_ _)); exact BK139.out) hb); have n1_ := Aside0.mk (below_step (by repeat (first | (with_reducible first | exact HB.out | apply below_alloc | apply pw_below_drewN | apply below_drew1 | refine below_set ?_ GE139.out) | exact HB.out)) hb); have n2_ := Aside0.mk (hbox); have n3_ := Aside0.mk ((by rw [hg]; exact (below_size (by repeat (first | (with_reducible first | exact HB.out | apply below_alloc | apply pw_below_drewN | apply below_drew1 | refine below_set ?_ GE139.out) | exact HB.out))) : w.heap.size ≤ gb141)); have n4_ := Aside0.mk ((by rw [hg]; exact (below_size (by repeat (first | (with_reducible first | exact HB.out | apply below_alloc | apply pw_below_drewN | apply below_drew1 | refine below_set ?_ GE139.out) | exact HB.out))) : w.heap.size ≤ gb141)); have n5_ := Aside0.mk ((by rw [hg]; exact Nat.ne_of_lt (blk_lt (g := gb139) (o := .cells #[.slice (some ad140) l0_0.length c0_0, .int .i64 a0_1, .int .i64 a0_2] 24 (0, 0)) (by (with_reducible repeat (first | refine blk_drewN ?_ _ | refine blk_drew ?_ | refine blk_alloc ?_ _)); exact BK139.out)) : gb139 ≠ gb141)); have n6_ := Aside0.mk ((by rw [hg]; exact Nat.ne_of_gt (blk_lt (g := gb139) (o := .cells #[.slice (some ad140) l0_0.length c0_0, .int .i64 a0_1, .int .i64 a0_2] 24 (0, 0)) (by (with_reducible repeat (first | refine blk_drewN ?_ _ | refine blk_drew ?_ | refine blk_alloc ?_ _)); exact BK139.out)) : gb141 ≠ gb139)); clear BK139; clear HB; have BK139 := n0_; have HB := n1_; have BK141 := n2_; have GW141 := n3_; have GE141 := n4_; have NB139_141 := n5_; have NB141_139 := n6_; clear n0_ n1_ n2_ n3_ n4_ n5_ n6_; clear hb hbox hg; have hnb21 := NB141_139.out; have hnc21 := NB139_141.out; have hcz22_0 : w20.cell? ⟨gb141, 0, none⟩ = some (.int .i64 0) := (blk_cell BK141.out 0).trans rfl; have hcz22_1 : w20.cell? ⟨gb141, 1, none⟩ = some (.int .i64 0) := (blk_cell BK141.out 1).trans rfl; have hcz22_2 : w20.cell? ⟨gb141, 2, none⟩ = some (.int .i64 0) := (blk_cell BK141.out 2).trans rfl; have hcz22_3 : w20.cell? ⟨gb141, 3, none⟩ = some (.slice none 0 0) := (blk_cell BK141.out 3).trans rfl; have hfz22_0 := blk_frozen BK141.out 0; have hfz22_1 := blk_frozen BK141.out 1; have hfz22_2 := blk_frozen BK141.out 2; have hfz22_3 := blk_frozen BK141.out 3))
         go_ret
         exact ⟨by first | rfl | (simp [errW_none, errW_some] <;> rfl) | (simp [*, errW_none, errW_some] <;> rfl), by repeat (first | (with_reducible first | exact HB.out | apply below_alloc | apply pw_below_drewN | apply below_drew1 | refine below_set ?_ GE139.out | refine below_set ?_ GE141.out) | exact HB.out)⟩
        ·rw [if_neg c18] at H
         have c18b0 : (((rd_T52 l0_0 x1_1).f0) == 5) = false := beq_eq_false_iff_ne.mpr c18
         have c18b1 : (((rd_T52 l0_0 x1_1).f0) != 5) = true := bne_iff_ne.mpr c18
         have H' := Aside0.mk H
         clear H
         have hcz23_0 : wr.cell? ⟨gb139, 0, none⟩ = some (.slice A0_0 l0_0.length c0_0) := (blk_cell BK139.out 0).trans rfl
         have hcz23_1 : wr.cell? ⟨gb139, 1, none⟩ = some (.int .i64 a0_1) := (blk_cell BK139.out 1).trans rfl
         have hcz23_2 : wr.cell? ⟨gb139, 2, none⟩ = some (.int .i64 a0_2) := (blk_cell BK139.out 2).trans rfl
         have hfz23_0 := blk_frozen BK139.out 0
         have hfz23_1 := blk_frozen BK139.out 1
         have hfz23_2 := blk_frozen BK139.out 2
         have p140 : 0 ≤ (x1_1 : Int) := of_decide_eq_true (by first | (with_reducible assumption) | assumption)
         have q140 : x1_1 < (l0_0.length : Int) := of_decide_eq_true (by first | (with_reducible assumption) | assumption)
         obtain ⟨ad140, A140_3, c140_3, e140, hx140_0, hx140_1, hx140_2, hx140_3, hl140_3, hi140_3⟩ := at_T52 HR0_0.out x1_1 p140 q140
         cases e140
         replace hx140_0 := (HB.out.cell (World.block_lt_of_cell? w _ hx140_0)).trans hx140_0
         replace hx140_1 := (HB.out.cell (World.block_lt_of_cell? w _ hx140_1)).trans hx140_1
         replace hx140_2 := (HB.out.cell (World.block_lt_of_cell? w _ hx140_2)).trans hx140_2
         replace hx140_3 := (HB.out.cell (World.block_lt_of_cell? w _ hx140_3)).trans hx140_3
         have HR140_3 := Aside0.mk hi140_3
         have HC140_3 := Aside0.mk hl140_3
         clear hi140_3 hl140_3
         replace p140 := eq_true p140
         replace q140 := eq_true q140
         go_wp2_with (first | ((with_reducible refine gate_dst (N := 5) rfl ?_); refine box_event ?hg (N := 5) ?hd (cs := #[.int .i64 0, .int .i64 0, .int .i64 0, .slice none 0 0]) (t := 52) ?hr ?_; (case hd => rfl); (case hg => rfl); (case hr => first | (go_simp; done) | (go_simp; rfl)); intro gb141 hg w24 hbox hb; have n0_ := Aside0.mk (blk_below (g := gb139) (o := .cells #[.slice (some ad140) l0_0.length c0_0, .int .i64 a0_1, .int .i64 a0_2] 24 (0, 0)) (by (with_reducible repeat (first | refine blk_drewN ?_ _ | refine blk_drew ?_ | refine blk_alloc ?_ _)); exact BK139.out) hb); have n1_ := Aside0.mk (below_step (by repeat (first | (with_reducible first | exact HB.out | apply below_alloc | apply pw_below_drewN | apply below_drew1 | refine below_set ?_ GE139.out) | exact HB.out)) hb); have n2_ := Aside0.mk (hbox); have n3_ := Aside0.mk ((by rw [hg]; exact (below_size (by repeat (first | (with_reducible first | exact HB.out | apply below_alloc | apply pw_below_drewN | apply below_drew1 | refine below_set ?_ GE139.out) | exact HB.out))) : w.heap.size ≤ gb141)); have n4_ := Aside0.mk ((by rw [hg]; exact (below_size (by repeat (first | (with_reducible first | exact HB.out | apply below_alloc | apply pw_below_drewN | apply below_drew1 | refine below_set ?_ GE139.out) | exact HB.out))) : w.heap.size ≤ gb141)); have n5_ := Aside0.mk ((by rw [hg]; exact Nat.ne_of_lt (blk_lt (g := gb139) (o := .cells #[.slice (some ad140) l0_0.length c0_0, .int .i64 a0_1, .int .i64 a0_2] 24 (0, 0)) (by (with_reducible repeat (first | refine blk_drewN ?_ _ | refine blk_drew ?_ | refine blk_alloc ?_ _)); exact BK139.out)) : gb139 ≠ gb141)); have n6_ := Aside0.mk ((by rw [hg]; exact Nat.ne_of_gt (blk_lt (g := gb139) (o := .cells #[.slice (some ad140) l0_0.length c0_0, .int .i64 a0_1, .int .i64 a0_2] 24 (0, 0)) (by (with_reducible repeat (first | refine blk_drewN ?_ _ | refine blk_drew ?_ | refine blk_alloc ?_ _)); exact BK139.out)) : gb141 ≠ gb139)); clear BK139; clear HB; have BK139 := n0_; have HB := n1_; have BK141 := n2_; have GW141 := n3_; have GE141 := n4_; have NB139_141 := n5_; have NB141_139 := n6_; clear n0_ n1_ n2_ n3_ n4_ n5_ n6_; clear hb hbox hg; have hnb25 := NB141_139.out; have hnc25 := NB139_141.out; have hcz26_0 : w24.cell? ⟨gb141, 0, none⟩ = some (.int .i64 0) := (blk_cell BK141.out 0).trans rfl; have hcz26_1 : w24.cell? ⟨gb141, 1, none⟩ = some (.int .i64 0) := (blk_cell BK141.out 1).trans rfl; have hcz26_2 : w24.cell? ⟨gb141, 2, none⟩ = some (.int .i64 0) := (blk_cell BK141.out 2).trans rfl; have hcz26_3 : w24.cell? ⟨gb141, 3, none⟩ = some (.slice none 0 0) := (blk_cell BK141.out 3).trans rfl; have hfz26_0 := blk_frozen BK141.out 0; have hfz26_1 := blk_frozen BK141.out 1; have hfz26_2 := blk_frozen BK141.out 2; have hfz26_3 := blk_frozen BK141.out 3))
         go_roundg k1
         case measure => have := HK1.out; omega
         case rel => exact ⟨((rd_T52 l0_0 x1_1).f1), (wrap64 (x9_1 + 1)), (by first | rfl | (simp; done) | (simp [*]; done)), (by first | rfl | (simp; done) | (simp [*]; done)), H', ⟨by have := HK1.out; omega⟩, ⟨by (with_reducible repeat (first | refine blk_drewN ?_ _ | refine blk_drew ?_ | refine blk_alloc ?_ _)); refine blk_far ?_ NB139_141.out _; (with_reducible repeat (first | refine blk_drewN ?_ _ | refine blk_drew ?_ | refine blk_alloc ?_ _)); refine blk_far ?_ NB139_141.out _; (with_reducible repeat (first | refine blk_drewN ?_ _ | refine blk_drew ?_ | refine blk_alloc ?_ _)); refine blk_far ?_ NB139_141.out _; (with_reducible repeat (first | refine blk_drewN ?_ _ | refine blk_drew ?_ | refine blk_alloc ?_ _)); refine blk_far ?_ NB139_141.out _; (with_reducible repeat (first | refine blk_drewN ?_ _ | refine blk_drew ?_ | refine blk_alloc ?_ _)); exact BK139.out⟩, ⟨by repeat (first | (with_reducible first | exact HB.out | apply below_alloc | apply pw_below_drewN | apply below_drew1 | refine below_set ?_ GE139.out | refine below_set ?_ GE141.out) | exact HB.out)⟩⟩
     ·rw [if_neg c7] at H
      exact absurd H (by simp)
    ·rw [if_neg c6] at H
     exact absurd H (by simp)
   ·rw [if_neg c5] at H
    have c5b0 : decide (x9_1 < (l0_0.length : Int)) = false := decide_eq_false c5
    clear c5
    obtain rfl := Option.some.inj H
    go_wp2
    go_ret
    exact ⟨by first | rfl | (simp [errW_none, errW_some] <;> rfl) | (simp [*, errW_none, errW_some] <;> rfl), by repeat (first | (with_reducible first | exact HB.out | apply below_alloc | apply pw_below_drewN | apply below_drew1 | refine below_set ?_ GE139.out) | exact HB.out)⟩
end Go.Proofs.YtmccgfjhmbioeaaDoor.PFnPgThreads
