import Derived.Test.YtmccgfjhmbioeaaDoorPFnPgThreadsy0
import Derived.Test.YtmccgfjhmbioeaaDoorPFnPgThreadsy5
namespace Go.Proofs.YtmccgfjhmbioeaaDoor.PFnPgThreads
open Go.RowKit Go.Proofs.YtmccgfjhmbioeaaDoorW.PrintWords Go.Proofs.YtmccgfjhmbioeaaDoorW.PrintLast Go.Proofs.YtmccgfjhmbioeaaDoorW.PrintMore
attribute [local go_sem] max2_int min2_int max_two min_two max_three min_three max_four min_four
set_option linter.unusedVariables false
set_option linter.unusedSimpArgs false
mutual
def impl_fitInst.j0 : Nat → Int → Bool → Int → Int → Int → List Int → List (S52) → Int → Int → Option (Bool)
 | 0, _, _, _, _, _, _, _, _, _ => none
 | k + 1, x5, x27, x158000, x158001, x158002, x158003, x159000, x159001, x159002 => if x27 = true then (some false) else (if x158000 = 0 then (if x158002 ≥ 0 then (some (decide (x158002 < x5))) else (some false)) else (if x158000 = 2 then (if x158002 ≥ 0 then (some (decide (x158002 < x159002))) else (some false)) else (if x158000 = 3 then (if x158002 > 0 then (some (decide (x158002 < 64))) else (some false)) else (if x158000 = 4 then (impl_fitInst.j1 k x158000 (x158000 == 4) x158000 x158001 x158002 x158003) else (if x158000 = 5 then (impl_fitInst.j1 k x158000 (x158000 == 5) x158000 x158001 x158002 x158003) else (impl_fitInst.j1 k x158000 (x158000 == 6) x158000 x158001 x158002 x158003))))))
def impl_fitInst.j1 : Nat → Int → Bool → Int → Int → Int → List Int → Option (Bool)
 | 0, _, _, _, _, _, _ => none
 | k + 1, x29, x63, x158000, x158001, x158002, x158003 => if x63 = true then (some true) else (if x29 = 9 then (if (x158003.length : Int) = 0 then (some true) else (if (x158003.length : Int) = 2 then (if 0 < (x158003.length : Int) then (if (rd x158003 0) = 0 then (if 1 < (x158003.length : Int) then (some ((rd x158003 1) == 1114111)) else (none)) else (some false)) else (none)) else (some false))) else (if x29 = 10 then (if (x158003.length : Int) = 0 then (some true) else (if (x158003.length : Int) = 4 then (if 0 < (x158003.length : Int) then (if (rd x158003 0) = 0 then (if 1 < (x158003.length : Int) then (if (rd x158003 1) = 9 then (if 2 < (x158003.length : Int) then (if (rd x158003 2) = 11 then (if 3 < (x158003.length : Int) then (some ((rd x158003 3) == 1114111)) else (none)) else (some false)) else (none)) else (some false)) else (none)) else (some false)) else (none)) else (some false))) else (if x29 = 7 then (if x158002 = 1 then (if (x158003.length : Int) = 1 then ((impl_characters.f k x158003).bind fun t165 => (if t165 = true then (some true) else (if x158002 = 0 then (some false) else (some false)))) else (if x158002 = 0 then ((impl_pairs.f k x158003).bind fun t166 => (some t166)) else (some false))) else (if x158002 = 0 then (if (x158003.length : Int) = 1 then (some false) else ((impl_pairs.f k x158003).bind fun t167 => (some t167))) else (some false))) else (if x29 = 8 then (if (x158003.length : Int) = 1 then ((impl_characters.f k x158003).bind fun t168 => (some t168)) else (if (x158003.length : Int) = 2 then (if 0 < (x158003.length : Int) then (if 1 < (x158003.length : Int) then (if (rd x158003 0) = (rd x158003 1) then ((impl_characters.f k x158003).bind fun t171 => (some t171)) else (some false)) else (none)) else (none)) else (some false))) else (some false)))))
end
def impl_fitInst.f (k : Nat) (a0_0 : Int) (a0_1 : Int) (a0_2 : Int) (l0_3 : List Int) (l1_0 : List (S52)) (a1_1 : Int) (a1_2 : Int) : Option (Bool) := if a0_0 = 4 then (impl_fitInst.j0 k (l1_0.length : Int) false a0_0 a0_1 a0_2 l0_3 l1_0 a1_1 a1_2) else (if a0_0 = 5 then (impl_fitInst.j0 k (l1_0.length : Int) false a0_0 a0_1 a0_2 l0_3 l1_0 a1_1 a1_2) else (if a0_1 < 0 then (impl_fitInst.j0 k (l1_0.length : Int) true a0_0 a0_1 a0_2 l0_3 l1_0 a1_1 a1_2) else (impl_fitInst.j0 k (l1_0.length : Int) (decide (a0_1 ≥ (l1_0.length : Int))) a0_0 a0_1 a0_2 l0_3 l1_0 a1_1 a1_2)))
theorem impl_fitInst.mono_l : ∀ k, (∀ y0 y1 y2 y3 y4 y5 y6 y7 y8, LeO (impl_fitInst.j0 k y0 y1 y2 y3 y4 y5 y6 y7 y8) (impl_fitInst.j0 (k + 1) y0 y1 y2 y3 y4 y5 y6 y7 y8)) ∧ (∀ y0 y1 y2 y3 y4 y5, LeO (impl_fitInst.j1 k y0 y1 y2 y3 y4 y5) (impl_fitInst.j1 (k + 1) y0 y1 y2 y3 y4 y5))
 | 0 => ⟨fun _ _ _ _ _ _ _ _ _ r h => by simp [impl_fitInst.j0] at h, fun _ _ _ _ _ _ r h => by simp [impl_fitInst.j1] at h⟩
 | k + 1 => by
  obtain ⟨ih0, ih1⟩ := impl_fitInst.mono_l k
  refine ⟨?_, ?_⟩
  ·intro y0 y1 y2 y3 y4 y5 y6 y7 y8
   unfold impl_fitInst.j0
   repeat' first
   | (with_reducible exact ih0 _ _ _ _ _ _ _ _ _)
   | (with_reducible exact ih1 _ _ _ _ _ _)
   | (with_reducible exact impl_characters.mono _ _)
   | (with_reducible exact impl_pairs.mono _ _)
   | (with_reducible exact LeO.refl _)
   | (with_reducible exact LeO.none _)
   | (with_reducible refine LeO.ite ?_ ?_)
   | (with_reducible refine LeO.bind ?_ (fun _ => ?_))
   | exact ih0 _ _ _ _ _ _ _ _ _
   | exact ih1 _ _ _ _ _ _
   | exact impl_characters.mono _ _
   | exact impl_pairs.mono _ _
   | exact LeO.none _
   | refine LeO.ite ?_ ?_
   | refine LeO.bind ?_ (fun _ => ?_)
  ·intro y0 y1 y2 y3 y4 y5
   unfold impl_fitInst.j1
   repeat' first
   | (with_reducible exact ih0 _ _ _ _ _ _ _ _ _)
   | (with_reducible exact ih1 _ _ _ _ _ _)
   | (with_reducible exact impl_characters.mono _ _)
   | (with_reducible exact impl_pairs.mono _ _)
   | (with_reducible exact LeO.refl _)
   | (with_reducible exact LeO.none _)
   | (with_reducible refine LeO.ite ?_ ?_)
   | (with_reducible refine LeO.bind ?_ (fun _ => ?_))
   | exact ih0 _ _ _ _ _ _ _ _ _
   | exact ih1 _ _ _ _ _ _
   | exact impl_characters.mono _ _
   | exact impl_pairs.mono _ _
   | exact LeO.none _
   | refine LeO.ite ?_ ?_
   | refine LeO.bind ?_ (fun _ => ?_)
theorem impl_fitInst.mono : ∀ a0 a1 a2 a3 a4 a5 a6 k, LeO (impl_fitInst.f k a0 a1 a2 a3 a4 a5 a6) (impl_fitInst.f (k + 1) a0 a1 a2 a3 a4 a5 a6) := by
 intro a0 a1 a2 a3 a4 a5 a6 k
 obtain ⟨ih0, ih1⟩ := impl_fitInst.mono_l k
 unfold impl_fitInst.f
 repeat' first
   | (with_reducible exact ih0 _ _ _ _ _ _ _ _ _)
   | (with_reducible exact ih1 _ _ _ _ _ _)
   | (with_reducible exact impl_characters.mono _ _)
   | (with_reducible exact impl_pairs.mono _ _)
   | (with_reducible exact LeO.refl _)
   | (with_reducible exact LeO.none _)
   | (with_reducible refine LeO.ite ?_ ?_)
   | (with_reducible refine LeO.bind ?_ (fun _ => ?_))
   | exact ih0 _ _ _ _ _ _ _ _ _
   | exact ih1 _ _ _ _ _ _
   | exact impl_characters.mono _ _
   | exact impl_pairs.mono _ _
   | exact LeO.none _
   | refine LeO.ite ?_ ?_
   | refine LeO.bind ?_ (fun _ => ?_)
set_option maxHeartbeats 8000000 in
set_option maxRecDepth 100000 in
theorem impl_fitInst.calls (k : Nat) (a0_0 : Int) (a0_1 : Int) (a0_2 : Int) (A0_3 : Option Addr) (c0_3 : Nat) (l0_3 : List Int) (A1_0 : Option Addr) (c1_0 : Nat) (l1_0 : List (S52)) (a1_1 : Int) (a1_2 : Int) (r : Bool) (w : World) (hr0_3 : Kd.C (Kd.int .i32) w A0_3 l0_3.length l0_3) (hc0_3 : l0_3.length ≤ c0_3) (hr1_0 : Kd.C k52 w A1_0 l1_0.length l1_0) (hc1_0 : l1_0.length ≤ c1_0) (h : impl_fitInst.f k a0_0 a0_1 a0_2 l0_3 l1_0 a1_1 a1_2 = some r) :
  Calls Tryd.prog 35 #[.agg #[.int .i64 a0_0, .int .i64 a0_1, .int .i64 a0_2, .slice A0_3 l0_3.length c0_3], .agg #[.slice A1_0 l1_0.length c1_0, .int .i64 a1_1, .int .i64 a1_2]] w fun e w' => e = .returned (.bool r) ∧ Below w.heap.size w w' := by
 have hu52 := Tryd.underlying52
 have hu24 := Tryd.underlying24
 have HR0_3 := Aside0.mk hr0_3
 have HC0_3 := Aside0.mk hc0_3
 clear hr0_3 hc0_3
 have HR1_0 := Aside0.mk hr1_0
 have HC1_0 := Aside0.mk hc1_0
 clear hr1_0 hc1_0
 have HB := Aside0.mk (Below.refl w.heap.size w)
 have H : (if a0_0 = 4 then (impl_fitInst.j0 k (l1_0.length : Int) false a0_0 a0_1 a0_2 l0_3 l1_0 a1_1 a1_2) else (if a0_0 = 5 then (impl_fitInst.j0 k (l1_0.length : Int) false a0_0 a0_1 a0_2 l0_3 l1_0 a1_1 a1_2) else (if a0_1 < 0 then (impl_fitInst.j0 k (l1_0.length : Int) true a0_0 a0_1 a0_2 l0_3 l1_0 a1_1 a1_2) else (impl_fitInst.j0 k (l1_0.length : Int) (decide (a0_1 ≥ (l1_0.length : Int))) a0_0 a0_1 a0_2 l0_3 l1_0 a1_1 a1_2)))) = some r := h
 clear h
 have HC3 := Aside0.mk H
 clear H
 go_enter Tryd.func35, Tryd.ntmps35
 go_upto_region 2 with (first | ((with_reducible refine gate_dst (N := 2) rfl ?_); (try (refine gate_guard (by rfl) ?_; dsimp only)); refine box_event ?hg (N := 2) ?hd (cs := #[.int .i64 a0_0, .int .i64 a0_1, .int .i64 a0_2, .slice A0_3 l0_3.length c0_3]) (t := 52) ?hr ?_; (case hd => rfl); (case hg => rfl); (case hr => first | (go_simp; done) | (go_simp; rfl)); intro gb157 hg w4 hbox hb; have n0_ := Aside0.mk (below_step (by repeat (first | (with_reducible first | exact HB.out | apply below_alloc | apply pw_below_drewN | apply below_drew1) | exact HB.out)) hb); have n1_ := Aside0.mk (hbox); have n2_ := Aside0.mk ((by rw [hg]; exact (below_size (by repeat (first | (with_reducible first | exact HB.out | apply below_alloc | apply pw_below_drewN | apply below_drew1) | exact HB.out))) : w.heap.size ≤ gb157)); have n3_ := Aside0.mk ((by rw [hg]; exact (below_size (by repeat (first | (with_reducible first | exact HB.out | apply below_alloc | apply pw_below_drewN | apply below_drew1) | exact HB.out))) : w.heap.size ≤ gb157)); clear HB; have HB := n0_; have BK157 := n1_; have GW157 := n2_; have GE157 := n3_; clear n0_ n1_ n2_ n3_; clear hb hbox hg) | ((with_reducible refine gate_dst (N := 3) rfl ?_); (try (refine gate_guard (by rfl) ?_; dsimp only)); refine box_event ?hg (N := 3) ?hd (cs := #[.slice A1_0 l1_0.length c1_0, .int .i64 a1_1, .int .i64 a1_2]) (t := 24) ?hr ?_; (case hd => rfl); (case hg => rfl); (case hr => first | (go_simp; done) | (go_simp; rfl)); intro gb158 hg w5 hbox hb; have n0_ := Aside0.mk (blk_below (g := gb157) (o := .cells #[.int .i64 a0_0, .int .i64 a0_1, .int .i64 a0_2, .slice A0_3 l0_3.length c0_3] 52 (0, 0)) (by (with_reducible repeat (first | refine blk_drewN ?_ _ | refine blk_drew ?_ | refine blk_alloc ?_ _)); exact BK157.out) hb); have n1_ := Aside0.mk (below_step (by repeat (first | (with_reducible first | exact HB.out | apply below_alloc | apply pw_below_drewN | apply below_drew1 | refine below_set ?_ GE157.out) | exact HB.out)) hb); have n2_ := Aside0.mk (hbox); have n3_ := Aside0.mk ((by rw [hg]; exact (below_size (by repeat (first | (with_reducible first | exact HB.out | apply below_alloc | apply pw_below_drewN | apply below_drew1 | refine below_set ?_ GE157.out) | exact HB.out))) : w.heap.size ≤ gb158)); have n4_ := Aside0.mk ((by rw [hg]; exact (below_size (by repeat (first | (with_reducible first | exact HB.out | apply below_alloc | apply pw_below_drewN | apply below_drew1 | refine below_set ?_ GE157.out) | exact HB.out))) : w.heap.size ≤ gb158)); have n5_ := Aside0.mk ((by rw [hg]; exact Nat.ne_of_lt (blk_lt (g := gb157) (o := .cells #[.int .i64 a0_0, .int .i64 a0_1, .int .i64 a0_2, .slice A0_3 l0_3.length c0_3] 52 (0, 0)) (by (with_reducible repeat (first | refine blk_drewN ?_ _ | refine blk_drew ?_ | refine blk_alloc ?_ _)); exact BK157.out)) : gb157 ≠ gb158)); have n6_ := Aside0.mk ((by rw [hg]; exact Nat.ne_of_gt (blk_lt (g := gb157) (o := .cells #[.int .i64 a0_0, .int .i64 a0_1, .int .i64 a0_2, .slice A0_3 l0_3.length c0_3] 52 (0, 0)) (by (with_reducible repeat (first | refine blk_drewN ?_ _ | refine blk_drew ?_ | refine blk_alloc ?_ _)); exact BK157.out)) : gb158 ≠ gb157)); clear BK157; clear HB; have BK157 := n0_; have HB := n1_; have BK158 := n2_; have GW158 := n3_; have GE158 := n4_; have NB157_158 := n5_; have NB158_157 := n6_; clear n0_ n1_ n2_ n3_ n4_ n5_ n6_; clear hb hbox hg; have hnb6 := NB158_157.out; have hnc6 := NB157_158.out; have hcz7_0 : w5.cell? ⟨gb158, 0, none⟩ = some (.slice A1_0 l1_0.length c1_0) := (blk_cell BK158.out 0).trans rfl; have hcz7_1 : w5.cell? ⟨gb158, 1, none⟩ = some (.int .i64 a1_1) := (blk_cell BK158.out 1).trans rfl; have hcz7_2 : w5.cell? ⟨gb158, 2, none⟩ = some (.int .i64 a1_2) := (blk_cell BK158.out 2).trans rfl; have hfz7_0 := blk_frozen BK158.out 0; have hfz7_1 := blk_frozen BK158.out 1; have hfz7_2 := blk_frozen BK158.out 2))
 repeat (go_quiet (first | ((with_reducible refine gate_dst (N := 2) rfl ?_); (try (refine gate_guard (by rfl) ?_; dsimp only)); refine box_event ?hg (N := 2) ?hd (cs := #[.int .i64 a0_0, .int .i64 a0_1, .int .i64 a0_2, .slice A0_3 l0_3.length c0_3]) (t := 52) ?hr ?_; (case hd => rfl); (case hg => rfl); (case hr => first | (go_simp; done) | (go_simp; rfl)); intro gb157 hg w4 hbox hb; have n0_ := Aside0.mk (below_step (by repeat (first | (with_reducible first | exact HB.out | apply below_alloc | apply pw_below_drewN | apply below_drew1) | exact HB.out)) hb); have n1_ := Aside0.mk (hbox); have n2_ := Aside0.mk ((by rw [hg]; exact (below_size (by repeat (first | (with_reducible first | exact HB.out | apply below_alloc | apply pw_below_drewN | apply below_drew1) | exact HB.out))) : w.heap.size ≤ gb157)); have n3_ := Aside0.mk ((by rw [hg]; exact (below_size (by repeat (first | (with_reducible first | exact HB.out | apply below_alloc | apply pw_below_drewN | apply below_drew1) | exact HB.out))) : w.heap.size ≤ gb157)); clear HB; have HB := n0_; have BK157 := n1_; have GW157 := n2_; have GE157 := n3_; clear n0_ n1_ n2_ n3_; clear hb hbox hg) | ((with_reducible refine gate_dst (N := 3) rfl ?_); (try (refine gate_guard (by rfl) ?_; dsimp only)); refine box_event ?hg (N := 3) ?hd (cs := #[.slice A1_0 l1_0.length c1_0, .int .i64 a1_1, .int .i64 a1_2]) (t := 24) ?hr ?_; (case hd => rfl); (case hg => rfl); (case hr => first | (go_simp; done) | (go_simp; rfl)); intro gb158 hg w5 hbox hb; have n0_ := Aside0.mk (blk_below (g := gb157) (o := .cells #[.int .i64 a0_0, .int .i64 a0_1, .int .i64 a0_2, .slice A0_3 l0_3.length c0_3] 52 (0, 0)) (by (with_reducible repeat (first | refine blk_drewN ?_ _ | refine blk_drew ?_ | refine blk_alloc ?_ _)); exact BK157.out) hb); have n1_ := Aside0.mk (below_step (by repeat (first | (with_reducible first | exact HB.out | apply below_alloc | apply pw_below_drewN | apply below_drew1 | refine below_set ?_ GE157.out) | exact HB.out)) hb); have n2_ := Aside0.mk (hbox); have n3_ := Aside0.mk ((by rw [hg]; exact (below_size (by repeat (first | (with_reducible first | exact HB.out | apply below_alloc | apply pw_below_drewN | apply below_drew1 | refine below_set ?_ GE157.out) | exact HB.out))) : w.heap.size ≤ gb158)); have n4_ := Aside0.mk ((by rw [hg]; exact (below_size (by repeat (first | (with_reducible first | exact HB.out | apply below_alloc | apply pw_below_drewN | apply below_drew1 | refine below_set ?_ GE157.out) | exact HB.out))) : w.heap.size ≤ gb158)); have n5_ := Aside0.mk ((by rw [hg]; exact Nat.ne_of_lt (blk_lt (g := gb157) (o := .cells #[.int .i64 a0_0, .int .i64 a0_1, .int .i64 a0_2, .slice A0_3 l0_3.length c0_3] 52 (0, 0)) (by (with_reducible repeat (first | refine blk_drewN ?_ _ | refine blk_drew ?_ | refine blk_alloc ?_ _)); exact BK157.out)) : gb157 ≠ gb158)); have n6_ := Aside0.mk ((by rw [hg]; exact Nat.ne_of_gt (blk_lt (g := gb157) (o := .cells #[.int .i64 a0_0, .int .i64 a0_1, .int .i64 a0_2, .slice A0_3 l0_3.length c0_3] 52 (0, 0)) (by (with_reducible repeat (first | refine blk_drewN ?_ _ | refine blk_drew ?_ | refine blk_alloc ?_ _)); exact BK157.out)) : gb158 ≠ gb157)); clear BK157; clear HB; have BK157 := n0_; have HB := n1_; have BK158 := n2_; have GW158 := n3_; have GE158 := n4_; have NB157_158 := n5_; have NB158_157 := n6_; clear n0_ n1_ n2_ n3_ n4_ n5_ n6_; clear hb hbox hg; have hnb6 := NB158_157.out; have hnc6 := NB157_158.out; have hcz7_0 : w5.cell? ⟨gb158, 0, none⟩ = some (.slice A1_0 l1_0.length c1_0) := (blk_cell BK158.out 0).trans rfl; have hcz7_1 : w5.cell? ⟨gb158, 1, none⟩ = some (.int .i64 a1_1) := (blk_cell BK158.out 1).trans rfl; have hcz7_2 : w5.cell? ⟨gb158, 2, none⟩ = some (.int .i64 a1_2) := (blk_cell BK158.out 2).trans rfl; have hfz7_0 := blk_frozen BK158.out 0; have hfz7_1 := blk_frozen BK158.out 1; have hfz7_2 := blk_frozen BK158.out 2)); go_upto_region 2 with (first | ((with_reducible refine gate_dst (N := 2) rfl ?_); (try (refine gate_guard (by rfl) ?_; dsimp only)); refine box_event ?hg (N := 2) ?hd (cs := #[.int .i64 a0_0, .int .i64 a0_1, .int .i64 a0_2, .slice A0_3 l0_3.length c0_3]) (t := 52) ?hr ?_; (case hd => rfl); (case hg => rfl); (case hr => first | (go_simp; done) | (go_simp; rfl)); intro gb157 hg w4 hbox hb; have n0_ := Aside0.mk (below_step (by repeat (first | (with_reducible first | exact HB.out | apply below_alloc | apply pw_below_drewN | apply below_drew1) | exact HB.out)) hb); have n1_ := Aside0.mk (hbox); have n2_ := Aside0.mk ((by rw [hg]; exact (below_size (by repeat (first | (with_reducible first | exact HB.out | apply below_alloc | apply pw_below_drewN | apply below_drew1) | exact HB.out))) : w.heap.size ≤ gb157)); have n3_ := Aside0.mk ((by rw [hg]; exact (below_size (by repeat (first | (with_reducible first | exact HB.out | apply below_alloc | apply pw_below_drewN | apply below_drew1) | exact HB.out))) : w.heap.size ≤ gb157)); clear HB; have HB := n0_; have BK157 := n1_; have GW157 := n2_; have GE157 := n3_; clear n0_ n1_ n2_ n3_; clear hb hbox hg) | ((with_reducible refine gate_dst (N := 3) rfl ?_); (try (refine gate_guard (by rfl) ?_; dsimp only)); refine box_event ?hg (N := 3) ?hd (cs := #[.slice A1_0 l1_0.length c1_0, .int .i64 a1_1, .int .i64 a1_2]) (t := 24) ?hr ?_; (case hd => rfl); (case hg => rfl); (case hr => first | (go_simp; done) | (go_simp; rfl)); intro gb158 hg w5 hbox hb; have n0_ := Aside0.mk (blk_below (g := gb157) (o := .cells #[.int .i64 a0_0, .int .i64 a0_1, .int .i64 a0_2, .slice A0_3 l0_3.length c0_3] 52 (0, 0)) (by (with_reducible repeat (first | refine blk_drewN ?_ _ | refine blk_drew ?_ | refine blk_alloc ?_ _)); exact BK157.out) hb); have n1_ := Aside0.mk (below_step (by repeat (first | (with_reducible first | exact HB.out | apply below_alloc | apply pw_below_drewN | apply below_drew1 | refine below_set ?_ GE157.out) | exact HB.out)) hb); have n2_ := Aside0.mk (hbox); have n3_ := Aside0.mk ((by rw [hg]; exact (below_size (by repeat (first | (with_reducible first | exact HB.out | apply below_alloc | apply pw_below_drewN | apply below_drew1 | refine below_set ?_ GE157.out) | exact HB.out))) : w.heap.size ≤ gb158)); have n4_ := Aside0.mk ((by rw [hg]; exact (below_size (by repeat (first | (with_reducible first | exact HB.out | apply below_alloc | apply pw_below_drewN | apply below_drew1 | refine below_set ?_ GE157.out) | exact HB.out))) : w.heap.size ≤ gb158)); have n5_ := Aside0.mk ((by rw [hg]; exact Nat.ne_of_lt (blk_lt (g := gb157) (o := .cells #[.int .i64 a0_0, .int .i64 a0_1, .int .i64 a0_2, .slice A0_3 l0_3.length c0_3] 52 (0, 0)) (by (with_reducible repeat (first | refine blk_drewN ?_ _ | refine blk_drew ?_ | refine blk_alloc ?_ _)); exact BK157.out)) : gb157 ≠ gb158)); have n6_ := Aside0.mk ((by rw [hg]; exact Nat.ne_of_gt (blk_lt (g := gb157) (o := .cells #[.int .i64 a0_0, .int .i64 a0_1, .int .i64 a0_2, .slice A0_3 l0_3.length c0_3] 52 (0, 0)) (by (with_reducible repeat (first | refine blk_drewN ?_ _ | refine blk_drew ?_ | refine blk_alloc ?_ _)); exact BK157.out)) : gb158 ≠ gb157)); clear BK157; clear HB; have BK157 := n0_; have HB := n1_; have BK158 := n2_; have GW158 := n3_; have GE158 := n4_; have NB157_158 := n5_; have NB158_157 := n6_; clear n0_ n1_ n2_ n3_ n4_ n5_ n6_; clear hb hbox hg; have hnb6 := NB158_157.out; have hnc6 := NB157_158.out; have hcz7_0 : w5.cell? ⟨gb158, 0, none⟩ = some (.slice A1_0 l1_0.length c1_0) := (blk_cell BK158.out 0).trans rfl; have hcz7_1 : w5.cell? ⟨gb158, 1, none⟩ = some (.int .i64 a1_1) := (blk_cell BK158.out 1).trans rfl; have hcz7_2 : w5.cell? ⟨gb158, 2, none⟩ = some (.int .i64 a1_2) := (blk_cell BK158.out 2).trans rfl; have hfz7_0 := blk_frozen BK158.out 0; have hfz7_1 := blk_frozen BK158.out 1; have hfz7_2 := blk_frozen BK158.out 2)))
 (try simp only [Act.put, List.setIfInBounds_toArray, List.set_cons_zero, List.set_cons_succ])
 go_cut [27] (fun v27 wc => ∃ (kq : Nat) (x27_2 : Bool), v27 = .bool x27_2 ∧ Aside0 (impl_fitInst.j0 kq (l1_0.length : Int) x27_2 a0_0 a0_1 a0_2 l0_3 l1_0 a1_1 a1_2 = some r) ∧ Aside0 (kq ≤ k) ∧ Aside0 (wc.heap[gb157]? = some (.cells #[.int .i64 a0_0, .int .i64 a0_1, .int .i64 a0_2, (.slice A0_3 l0_3.length c0_3)] 52 (0, 0))) ∧ Aside0 (wc.heap[gb158]? = some (.cells #[(.slice A1_0 l1_0.length c1_0), .int .i64 a1_1, .int .i64 a1_2] 24 (0, 0))) ∧ Aside0 (Below w.heap.size w wc))
 case first =>
  have H := HC3.out
  clear HC3
  by_cases c8 : a0_0 = 4
  ·rw [if_pos c8] at H
   have c8b0 : (a0_0 == 4) = true := beq_iff_eq.mpr c8
   have c8b1 : (a0_0 != 4) = false := bne_eq_false_iff_eq.mpr c8
   clear c8
   (first | rw [c8b0] | (simp only [i64_w, i32_w]; rw [c8b0]) | skip)
   have H' := Aside0.mk H
   clear H
   have hnb9 := NB157_158.out
   have hnc9 := NB158_157.out
   have hcz10_0 : w5.cell? ⟨gb157, 0, none⟩ = some (.int .i64 a0_0) := (blk_cell BK157.out 0).trans rfl
   have hcz10_1 : w5.cell? ⟨gb157, 1, none⟩ = some (.int .i64 a0_1) := (blk_cell BK157.out 1).trans rfl
   have hcz10_2 : w5.cell? ⟨gb157, 2, none⟩ = some (.int .i64 a0_2) := (blk_cell BK157.out 2).trans rfl
   have hcz10_3 : w5.cell? ⟨gb157, 3, none⟩ = some (.slice A0_3 l0_3.length c0_3) := (blk_cell BK157.out 3).trans rfl
   have hfz10_0 := blk_frozen BK157.out 0
   have hfz10_1 := blk_frozen BK157.out 1
   have hfz10_2 := blk_frozen BK157.out 2
   have hfz10_3 := blk_frozen BK157.out 3
   go_wp2
   repeat (go_quiet (fail); try go_wp2)
   go_meet
   case rel => exact ⟨_, (false), (by first | rfl | (simp; done) | (simp [*]; done)), H', ⟨by first | omega | exact Nat.le_refl _⟩, ⟨by (with_reducible repeat (first | refine blk_drewN ?_ _ | refine blk_drew ?_ | refine blk_alloc ?_ _)); exact BK157.out⟩, ⟨by (with_reducible repeat (first | refine blk_drewN ?_ _ | refine blk_drew ?_ | refine blk_alloc ?_ _)); exact BK158.out⟩, ⟨by repeat (first | (with_reducible first | exact HB.out | apply below_alloc | apply pw_below_drewN | apply below_drew1 | refine below_set ?_ GE157.out | refine below_set ?_ GE158.out) | exact HB.out)⟩⟩
  ·rw [if_neg c8] at H
   have c8b0 : (a0_0 == 4) = false := beq_eq_false_iff_ne.mpr c8
   have c8b1 : (a0_0 != 4) = true := bne_iff_ne.mpr c8
   (first | rw [c8b0] | (simp only [i64_w, i32_w]; rw [c8b0]) | skip)
   by_cases c11 : a0_0 = 5
   ·rw [if_pos c11] at H
    have c11b0 : (a0_0 == 5) = true := beq_iff_eq.mpr c11
    have c11b1 : (a0_0 != 5) = false := bne_eq_false_iff_eq.mpr c11
    clear c11
    have H' := Aside0.mk H
    clear H
    have hnb12 := NB157_158.out
    have hnc12 := NB158_157.out
    have hcz13_0 : w5.cell? ⟨gb157, 0, none⟩ = some (.int .i64 a0_0) := (blk_cell BK157.out 0).trans rfl
    have hcz13_1 : w5.cell? ⟨gb157, 1, none⟩ = some (.int .i64 a0_1) := (blk_cell BK157.out 1).trans rfl
    have hcz13_2 : w5.cell? ⟨gb157, 2, none⟩ = some (.int .i64 a0_2) := (blk_cell BK157.out 2).trans rfl
    have hcz13_3 : w5.cell? ⟨gb157, 3, none⟩ = some (.slice A0_3 l0_3.length c0_3) := (blk_cell BK157.out 3).trans rfl
    have hfz13_0 := blk_frozen BK157.out 0
    have hfz13_1 := blk_frozen BK157.out 1
    have hfz13_2 := blk_frozen BK157.out 2
    have hfz13_3 := blk_frozen BK157.out 3
    go_wp2
    repeat (go_quiet (fail); try go_wp2)
    go_meet
    case rel => exact ⟨_, (false), (by first | rfl | (simp; done) | (simp [*]; done)), H', ⟨by first | omega | exact Nat.le_refl _⟩, ⟨by (with_reducible repeat (first | refine blk_drewN ?_ _ | refine blk_drew ?_ | refine blk_alloc ?_ _)); exact BK157.out⟩, ⟨by (with_reducible repeat (first | refine blk_drewN ?_ _ | refine blk_drew ?_ | refine blk_alloc ?_ _)); exact BK158.out⟩, ⟨by repeat (first | (with_reducible first | exact HB.out | apply below_alloc | apply pw_below_drewN | apply below_drew1 | refine below_set ?_ GE157.out | refine below_set ?_ GE158.out) | exact HB.out)⟩⟩
   ·rw [if_neg c11] at H
    have c11b0 : (a0_0 == 5) = false := beq_eq_false_iff_ne.mpr c11
    have c11b1 : (a0_0 != 5) = true := bne_iff_ne.mpr c11
    by_cases c14 : a0_1 < 0
    ·rw [if_pos c14] at H
     have c14b0 : decide (a0_1 < 0) = true := decide_eq_true c14
     clear c14
     have H' := Aside0.mk H
     clear H
     have hnb15 := NB157_158.out
     have hnc15 := NB158_157.out
     have hcz16_0 : w5.cell? ⟨gb157, 0, none⟩ = some (.int .i64 a0_0) := (blk_cell BK157.out 0).trans rfl
     have hcz16_1 : w5.cell? ⟨gb157, 1, none⟩ = some (.int .i64 a0_1) := (blk_cell BK157.out 1).trans rfl
     have hcz16_2 : w5.cell? ⟨gb157, 2, none⟩ = some (.int .i64 a0_2) := (blk_cell BK157.out 2).trans rfl
     have hcz16_3 : w5.cell? ⟨gb157, 3, none⟩ = some (.slice A0_3 l0_3.length c0_3) := (blk_cell BK157.out 3).trans rfl
     have hfz16_0 := blk_frozen BK157.out 0
     have hfz16_1 := blk_frozen BK157.out 1
     have hfz16_2 := blk_frozen BK157.out 2
     have hfz16_3 := blk_frozen BK157.out 3
     go_wp2
     repeat (go_quiet (fail); try go_wp2)
     go_meet
     case rel => exact ⟨_, (true), (by first | rfl | (simp; done) | (simp [*]; done)), H', ⟨by first | omega | exact Nat.le_refl _⟩, ⟨by (with_reducible repeat (first | refine blk_drewN ?_ _ | refine blk_drew ?_ | refine blk_alloc ?_ _)); exact BK157.out⟩, ⟨by (with_reducible repeat (first | refine blk_drewN ?_ _ | refine blk_drew ?_ | refine blk_alloc ?_ _)); exact BK158.out⟩, ⟨by repeat (first | (with_reducible first | exact HB.out | apply below_alloc | apply pw_below_drewN | apply below_drew1 | refine below_set ?_ GE157.out | refine below_set ?_ GE158.out) | exact HB.out)⟩⟩
    ·rw [if_neg c14] at H
     have c14b0 : decide (a0_1 < 0) = false := decide_eq_false c14
     clear c14
     have H' := Aside0.mk H
     clear H
     have hnb17 := NB157_158.out
     have hnc17 := NB158_157.out
     have hcz18_0 : w5.cell? ⟨gb157, 0, none⟩ = some (.int .i64 a0_0) := (blk_cell BK157.out 0).trans rfl
     have hcz18_1 : w5.cell? ⟨gb157, 1, none⟩ = some (.int .i64 a0_1) := (blk_cell BK157.out 1).trans rfl
     have hcz18_2 : w5.cell? ⟨gb157, 2, none⟩ = some (.int .i64 a0_2) := (blk_cell BK157.out 2).trans rfl
     have hcz18_3 : w5.cell? ⟨gb157, 3, none⟩ = some (.slice A0_3 l0_3.length c0_3) := (blk_cell BK157.out 3).trans rfl
     have hfz18_0 := blk_frozen BK157.out 0
     have hfz18_1 := blk_frozen BK157.out 1
     have hfz18_2 := blk_frozen BK157.out 2
     have hfz18_3 := blk_frozen BK157.out 3
     go_wp2
     repeat (go_quiet (fail); try go_wp2)
     go_meet
     case rel => exact ⟨_, (decide (a0_1 ≥ (l1_0.length : Int))), (by first | rfl | (simp; done) | (simp [*]; done)), H', ⟨by first | omega | exact Nat.le_refl _⟩, ⟨by (with_reducible repeat (first | refine blk_drewN ?_ _ | refine blk_drew ?_ | refine blk_alloc ?_ _)); exact BK157.out⟩, ⟨by (with_reducible repeat (first | refine blk_drewN ?_ _ | refine blk_drew ?_ | refine blk_alloc ?_ _)); exact BK158.out⟩, ⟨by repeat (first | (with_reducible first | exact HB.out | apply below_alloc | apply pw_below_drewN | apply below_drew1 | refine below_set ?_ GE157.out | refine below_set ?_ GE158.out) | exact HB.out)⟩⟩
 case rest =>
  clear HC3
  try clear c1
  try clear p2
  try clear c3
  try clear c6
  try clear c8
  try clear c8b0
  try clear c8b1
  try clear c9
  try clear c11
  try clear c11b0
  try clear c11b1
  try clear c12
  try clear c14
  try clear c14b0
  try clear c15
  try clear c17
  try clear hcz10_0
  try clear hcz10_1
  try clear hcz10_2
  try clear hcz10_3
  try clear hcz13_0
  try clear hcz13_1
  try clear hcz13_2
  try clear hcz13_3
  try clear hcz16_0
  try clear hcz16_1
  try clear hcz16_2
  try clear hcz16_3
  try clear hcz18_0
  try clear hcz18_1
  try clear hcz18_2
  try clear hcz18_3
  try clear hcz7_0
  try clear hcz7_1
  try clear hcz7_2
  try clear hfz10_0
  try clear hfz10_1
  try clear hfz10_2
  try clear hfz10_3
  try clear hfz13_0
  try clear hfz13_1
  try clear hfz13_2
  try clear hfz13_3
  try clear hfz16_0
  try clear hfz16_1
  try clear hfz16_2
  try clear hfz16_3
  try clear hfz18_0
  try clear hfz18_1
  try clear hfz18_2
  try clear hfz18_3
  try clear hfz7_0
  try clear hfz7_1
  try clear hfz7_2
  obtain ⟨kq, x27_2, rfl, HA, HJ2, BK157, BK158, HB⟩ := hcut
  cases kq with
  | zero => exact absurd HA.out (by simp [impl_fitInst.j0])
  | succ kj2 =>
   have H := HA.out
   clear HA
   simp only [impl_fitInst.j0] at H
   by_cases c19 : x27_2 = true
   ·subst c19
    have H1 : (some false) = some r := by rw [if_pos rfl] at H; exact H
    clear H
    have H := H1
    clear H1
    obtain rfl := Option.some.inj H
    go_wp2
    repeat (go_quiet (fail); try go_wp2)
    go_ret
    exact ⟨by first | rfl | (simp [errW_none, errW_some] <;> rfl) | (simp [*, errW_none, errW_some] <;> rfl), by repeat (first | (with_reducible first | exact HB.out | apply below_alloc | apply pw_below_drewN | apply below_drew1 | refine below_set ?_ GE157.out | refine below_set ?_ GE158.out) | exact HB.out)⟩
   ·replace c19 := Bool.eq_false_iff.mpr c19
    subst c19
    have H1 : (if a0_0 = 0 then (if a0_2 ≥ 0 then (some (decide (a0_2 < (l1_0.length : Int)))) else (some false)) else (if a0_0 = 2 then (if a0_2 ≥ 0 then (some (decide (a0_2 < a1_2))) else (some false)) else (if a0_0 = 3 then (if a0_2 > 0 then (some (decide (a0_2 < 64))) else (some false)) else (if a0_0 = 4 then (impl_fitInst.j1 kj2 a0_0 (a0_0 == 4) a0_0 a0_1 a0_2 l0_3) else (if a0_0 = 5 then (impl_fitInst.j1 kj2 a0_0 (a0_0 == 5) a0_0 a0_1 a0_2 l0_3) else (impl_fitInst.j1 kj2 a0_0 (a0_0 == 6) a0_0 a0_1 a0_2 l0_3)))))) = some r := by rw [if_neg (show ¬ (false = true) by decide)] at H; exact H
    clear H
    have H := H1
    clear H1
    by_cases c20 : a0_0 = 0
    ·rw [if_pos c20] at H
     have c20b0 : (a0_0 == 0) = true := beq_iff_eq.mpr c20
     have c20b1 : (a0_0 != 0) = false := bne_eq_false_iff_eq.mpr c20
     clear c20
     by_cases c21 : a0_2 ≥ 0
     ·rw [if_pos c21] at H
      have c21b0 : decide (0 ≤ a0_2) = true := decide_eq_true c21
      clear c21
      obtain rfl := Option.some.inj H
      have hnb22 := NB157_158.out
      have hnc22 := NB158_157.out
      have hcz23_0 : wc.cell? ⟨gb157, 0, none⟩ = some (.int .i64 a0_0) := (blk_cell BK157.out 0).trans rfl
      have hcz23_1 : wc.cell? ⟨gb157, 1, none⟩ = some (.int .i64 a0_1) := (blk_cell BK157.out 1).trans rfl
      have hcz23_2 : wc.cell? ⟨gb157, 2, none⟩ = some (.int .i64 a0_2) := (blk_cell BK157.out 2).trans rfl
      have hcz23_3 : wc.cell? ⟨gb157, 3, none⟩ = some (.slice A0_3 l0_3.length c0_3) := (blk_cell BK157.out 3).trans rfl
      have hfz23_0 := blk_frozen BK157.out 0
      have hfz23_1 := blk_frozen BK157.out 1
      have hfz23_2 := blk_frozen BK157.out 2
      have hfz23_3 := blk_frozen BK157.out 3
      go_wp2
      repeat (go_quiet (fail); try go_wp2)
      go_ret
      exact ⟨by first | rfl | (simp [errW_none, errW_some] <;> rfl) | (simp [*, errW_none, errW_some] <;> rfl), by repeat (first | (with_reducible first | exact HB.out | apply below_alloc | apply pw_below_drewN | apply below_drew1 | refine below_set ?_ GE157.out | refine below_set ?_ GE158.out) | exact HB.out)⟩
     ·rw [if_neg c21] at H
      have c21b0 : decide (0 ≤ a0_2) = false := decide_eq_false c21
      clear c21
      obtain rfl := Option.some.inj H
      have hnb24 := NB157_158.out
      have hnc24 := NB158_157.out
      have hcz25_0 : wc.cell? ⟨gb157, 0, none⟩ = some (.int .i64 a0_0) := (blk_cell BK157.out 0).trans rfl
      have hcz25_1 : wc.cell? ⟨gb157, 1, none⟩ = some (.int .i64 a0_1) := (blk_cell BK157.out 1).trans rfl
      have hcz25_2 : wc.cell? ⟨gb157, 2, none⟩ = some (.int .i64 a0_2) := (blk_cell BK157.out 2).trans rfl
      have hcz25_3 : wc.cell? ⟨gb157, 3, none⟩ = some (.slice A0_3 l0_3.length c0_3) := (blk_cell BK157.out 3).trans rfl
      have hfz25_0 := blk_frozen BK157.out 0
      have hfz25_1 := blk_frozen BK157.out 1
      have hfz25_2 := blk_frozen BK157.out 2
      have hfz25_3 := blk_frozen BK157.out 3
      go_wp2
      repeat (go_quiet (fail); try go_wp2)
      go_ret
      exact ⟨by first | rfl | (simp [errW_none, errW_some] <;> rfl) | (simp [*, errW_none, errW_some] <;> rfl), by repeat (first | (with_reducible first | exact HB.out | apply below_alloc | apply pw_below_drewN | apply below_drew1 | refine below_set ?_ GE157.out | refine below_set ?_ GE158.out) | exact HB.out)⟩
    ·rw [if_neg c20] at H
     have c20b0 : (a0_0 == 0) = false := beq_eq_false_iff_ne.mpr c20
     have c20b1 : (a0_0 != 0) = true := bne_iff_ne.mpr c20
     by_cases c26 : a0_0 = 2
     ·rw [if_pos c26] at H
      have c26b0 : (a0_0 == 2) = true := beq_iff_eq.mpr c26
      have c26b1 : (a0_0 != 2) = false := bne_eq_false_iff_eq.mpr c26
      clear c26
      by_cases c27 : a0_2 ≥ 0
      ·rw [if_pos c27] at H
       have c27b0 : decide (0 ≤ a0_2) = true := decide_eq_true c27
       clear c27
       obtain rfl := Option.some.inj H
       have hnb28 := NB157_158.out
       have hnc28 := NB158_157.out
       have hcz29_0 : wc.cell? ⟨gb157, 0, none⟩ = some (.int .i64 a0_0) := (blk_cell BK157.out 0).trans rfl
       have hcz29_1 : wc.cell? ⟨gb157, 1, none⟩ = some (.int .i64 a0_1) := (blk_cell BK157.out 1).trans rfl
       have hcz29_2 : wc.cell? ⟨gb157, 2, none⟩ = some (.int .i64 a0_2) := (blk_cell BK157.out 2).trans rfl
       have hcz29_3 : wc.cell? ⟨gb157, 3, none⟩ = some (.slice A0_3 l0_3.length c0_3) := (blk_cell BK157.out 3).trans rfl
       have hfz29_0 := blk_frozen BK157.out 0
       have hfz29_1 := blk_frozen BK157.out 1
       have hfz29_2 := blk_frozen BK157.out 2
       have hfz29_3 := blk_frozen BK157.out 3
       have hcz30_0 : wc.cell? ⟨gb158, 0, none⟩ = some (.slice A1_0 l1_0.length c1_0) := (blk_cell BK158.out 0).trans rfl
       have hcz30_1 : wc.cell? ⟨gb158, 1, none⟩ = some (.int .i64 a1_1) := (blk_cell BK158.out 1).trans rfl
       have hcz30_2 : wc.cell? ⟨gb158, 2, none⟩ = some (.int .i64 a1_2) := (blk_cell BK158.out 2).trans rfl
       have hfz30_0 := blk_frozen BK158.out 0
       have hfz30_1 := blk_frozen BK158.out 1
       have hfz30_2 := blk_frozen BK158.out 2
       go_wp2
       repeat (go_quiet (fail); try go_wp2)
       go_ret
       exact ⟨by first | rfl | (simp [errW_none, errW_some] <;> rfl) | (simp [*, errW_none, errW_some] <;> rfl), by repeat (first | (with_reducible first | exact HB.out | apply below_alloc | apply pw_below_drewN | apply below_drew1 | refine below_set ?_ GE157.out | refine below_set ?_ GE158.out) | exact HB.out)⟩
      ·rw [if_neg c27] at H
       have c27b0 : decide (0 ≤ a0_2) = false := decide_eq_false c27
       clear c27
       obtain rfl := Option.some.inj H
       have hnb31 := NB157_158.out
       have hnc31 := NB158_157.out
       have hcz32_0 : wc.cell? ⟨gb157, 0, none⟩ = some (.int .i64 a0_0) := (blk_cell BK157.out 0).trans rfl
       have hcz32_1 : wc.cell? ⟨gb157, 1, none⟩ = some (.int .i64 a0_1) := (blk_cell BK157.out 1).trans rfl
       have hcz32_2 : wc.cell? ⟨gb157, 2, none⟩ = some (.int .i64 a0_2) := (blk_cell BK157.out 2).trans rfl
       have hcz32_3 : wc.cell? ⟨gb157, 3, none⟩ = some (.slice A0_3 l0_3.length c0_3) := (blk_cell BK157.out 3).trans rfl
       have hfz32_0 := blk_frozen BK157.out 0
       have hfz32_1 := blk_frozen BK157.out 1
       have hfz32_2 := blk_frozen BK157.out 2
       have hfz32_3 := blk_frozen BK157.out 3
       go_wp2
       repeat (go_quiet (fail); try go_wp2)
       go_ret
       exact ⟨by first | rfl | (simp [errW_none, errW_some] <;> rfl) | (simp [*, errW_none, errW_some] <;> rfl), by repeat (first | (with_reducible first | exact HB.out | apply below_alloc | apply pw_below_drewN | apply below_drew1 | refine below_set ?_ GE157.out | refine below_set ?_ GE158.out) | exact HB.out)⟩
     ·rw [if_neg c26] at H
      have c26b0 : (a0_0 == 2) = false := beq_eq_false_iff_ne.mpr c26
      have c26b1 : (a0_0 != 2) = true := bne_iff_ne.mpr c26
      by_cases c33 : a0_0 = 3
      ·rw [if_pos c33] at H
       have c33b0 : (a0_0 == 3) = true := beq_iff_eq.mpr c33
       have c33b1 : (a0_0 != 3) = false := bne_eq_false_iff_eq.mpr c33
       clear c33
       by_cases c34 : a0_2 > 0
       ·rw [if_pos c34] at H
        have c34b0 : decide (0 < a0_2) = true := decide_eq_true c34
        clear c34
        obtain rfl := Option.some.inj H
        have hnb35 := NB157_158.out
        have hnc35 := NB158_157.out
        have hcz36_0 : wc.cell? ⟨gb157, 0, none⟩ = some (.int .i64 a0_0) := (blk_cell BK157.out 0).trans rfl
        have hcz36_1 : wc.cell? ⟨gb157, 1, none⟩ = some (.int .i64 a0_1) := (blk_cell BK157.out 1).trans rfl
        have hcz36_2 : wc.cell? ⟨gb157, 2, none⟩ = some (.int .i64 a0_2) := (blk_cell BK157.out 2).trans rfl
        have hcz36_3 : wc.cell? ⟨gb157, 3, none⟩ = some (.slice A0_3 l0_3.length c0_3) := (blk_cell BK157.out 3).trans rfl
        have hfz36_0 := blk_frozen BK157.out 0
        have hfz36_1 := blk_frozen BK157.out 1
        have hfz36_2 := blk_frozen BK157.out 2
        have hfz36_3 := blk_frozen BK157.out 3
        go_wp2
        repeat (go_quiet (fail); try go_wp2)
        go_ret
        exact ⟨by first | rfl | (simp [errW_none, errW_some] <;> rfl) | (simp [*, errW_none, errW_some] <;> rfl), by repeat (first | (with_reducible first | exact HB.out | apply below_alloc | apply pw_below_drewN | apply below_drew1 | refine below_set ?_ GE157.out | refine below_set ?_ GE158.out) | exact HB.out)⟩
       ·rw [if_neg c34] at H
        have c34b0 : decide (0 < a0_2) = false := decide_eq_false c34
        clear c34
        obtain rfl := Option.some.inj H
        have hnb37 := NB157_158.out
        have hnc37 := NB158_157.out
        have hcz38_0 : wc.cell? ⟨gb157, 0, none⟩ = some (.int .i64 a0_0) := (blk_cell BK157.out 0).trans rfl
        have hcz38_1 : wc.cell? ⟨gb157, 1, none⟩ = some (.int .i64 a0_1) := (blk_cell BK157.out 1).trans rfl
        have hcz38_2 : wc.cell? ⟨gb157, 2, none⟩ = some (.int .i64 a0_2) := (blk_cell BK157.out 2).trans rfl
        have hcz38_3 : wc.cell? ⟨gb157, 3, none⟩ = some (.slice A0_3 l0_3.length c0_3) := (blk_cell BK157.out 3).trans rfl
        have hfz38_0 := blk_frozen BK157.out 0
        have hfz38_1 := blk_frozen BK157.out 1
        have hfz38_2 := blk_frozen BK157.out 2
        have hfz38_3 := blk_frozen BK157.out 3
        go_wp2
        repeat (go_quiet (fail); try go_wp2)
        go_ret
        exact ⟨by first | rfl | (simp [errW_none, errW_some] <;> rfl) | (simp [*, errW_none, errW_some] <;> rfl), by repeat (first | (with_reducible first | exact HB.out | apply below_alloc | apply pw_below_drewN | apply below_drew1 | refine below_set ?_ GE157.out | refine below_set ?_ GE158.out) | exact HB.out)⟩
      ·rw [if_neg c33] at H
       have c33b0 : (a0_0 == 3) = false := beq_eq_false_iff_ne.mpr c33
       have c33b1 : (a0_0 != 3) = true := bne_iff_ne.mpr c33
       have HC39 := Aside0.mk H
       clear H
       have hnb40 := NB157_158.out
       have hnc40 := NB158_157.out
       have hcz41_0 : wc.cell? ⟨gb157, 0, none⟩ = some (.int .i64 a0_0) := (blk_cell BK157.out 0).trans rfl
       have hcz41_1 : wc.cell? ⟨gb157, 1, none⟩ = some (.int .i64 a0_1) := (blk_cell BK157.out 1).trans rfl
       have hcz41_2 : wc.cell? ⟨gb157, 2, none⟩ = some (.int .i64 a0_2) := (blk_cell BK157.out 2).trans rfl
       have hcz41_3 : wc.cell? ⟨gb157, 3, none⟩ = some (.slice A0_3 l0_3.length c0_3) := (blk_cell BK157.out 3).trans rfl
       have hfz41_0 := blk_frozen BK157.out 0
       have hfz41_1 := blk_frozen BK157.out 1
       have hfz41_2 := blk_frozen BK157.out 2
       have hfz41_3 := blk_frozen BK157.out 3
       go_upto_if 63 with (fail)
       repeat (go_quiet (fail); go_upto_if 63 with (fail))
       go_cut [63] (fun v63 wc => ∃ (kq : Nat) (x63_38 : Bool), v63 = .bool x63_38 ∧ Aside0 (impl_fitInst.j1 kq a0_0 x63_38 a0_0 a0_1 a0_2 l0_3 = some r) ∧ Aside0 (kq ≤ kj2) ∧ Aside0 (wc.heap[gb157]? = some (.cells #[.int .i64 a0_0, .int .i64 a0_1, .int .i64 a0_2, (.slice A0_3 l0_3.length c0_3)] 52 (0, 0))) ∧ Aside0 (wc.heap[gb158]? = some (.cells #[(.slice A1_0 l1_0.length c1_0), .int .i64 a1_1, .int .i64 a1_2] 24 (0, 0))) ∧ Aside0 (Below w.heap.size w wc))
       case first =>
        have H := HC39.out
        clear HC39
        by_cases c42 : a0_0 = 4
        ·rw [if_pos c42] at H
         have c42b0 : (a0_0 == 4) = true := beq_iff_eq.mpr c42
         have c42b1 : (a0_0 != 4) = false := bne_eq_false_iff_eq.mpr c42
         clear c42
         (first | rw [c42b0] | (simp only [i64_w, i32_w]; rw [c42b0]) | skip)
         have H' := Aside0.mk H
         clear H
         go_wp2
         repeat (go_quiet (fail); try go_wp2)
         go_meet
         case rel => exact ⟨_, ((a0_0 == 4)), (by first | rfl | (simp; done) | (simp [*]; done)), H', ⟨by have := HJ2.out; first | omega | exact Nat.le_refl _⟩, ⟨by (with_reducible repeat (first | refine blk_drewN ?_ _ | refine blk_drew ?_ | refine blk_alloc ?_ _)); exact BK157.out⟩, ⟨by (with_reducible repeat (first | refine blk_drewN ?_ _ | refine blk_drew ?_ | refine blk_alloc ?_ _)); exact BK158.out⟩, ⟨by repeat (first | (with_reducible first | exact HB.out | apply below_alloc | apply pw_below_drewN | apply below_drew1 | refine below_set ?_ GE157.out | refine below_set ?_ GE158.out) | exact HB.out)⟩⟩
        ·rw [if_neg c42] at H
         have c42b0 : (a0_0 == 4) = false := beq_eq_false_iff_ne.mpr c42
         have c42b1 : (a0_0 != 4) = true := bne_iff_ne.mpr c42
         (first | rw [c42b0] | (simp only [i64_w, i32_w]; rw [c42b0]) | skip)
         by_cases c43 : a0_0 = 5
         ·rw [if_pos c43] at H
          have c43b0 : (a0_0 == 5) = true := beq_iff_eq.mpr c43
          have c43b1 : (a0_0 != 5) = false := bne_eq_false_iff_eq.mpr c43
          clear c43
          have H' := Aside0.mk H
          clear H
          go_wp2
          repeat (go_quiet (fail); try go_wp2)
          go_meet
          case rel => exact ⟨_, ((a0_0 == 5)), (by first | rfl | (simp; done) | (simp [*]; done)), H', ⟨by have := HJ2.out; first | omega | exact Nat.le_refl _⟩, ⟨by (with_reducible repeat (first | refine blk_drewN ?_ _ | refine blk_drew ?_ | refine blk_alloc ?_ _)); exact BK157.out⟩, ⟨by (with_reducible repeat (first | refine blk_drewN ?_ _ | refine blk_drew ?_ | refine blk_alloc ?_ _)); exact BK158.out⟩, ⟨by repeat (first | (with_reducible first | exact HB.out | apply below_alloc | apply pw_below_drewN | apply below_drew1 | refine below_set ?_ GE157.out | refine below_set ?_ GE158.out) | exact HB.out)⟩⟩
         ·rw [if_neg c43] at H
          have c43b0 : (a0_0 == 5) = false := beq_eq_false_iff_ne.mpr c43
          have c43b1 : (a0_0 != 5) = true := bne_iff_ne.mpr c43
          have H' := Aside0.mk H
          clear H
          go_wp2
          repeat (go_quiet (fail); try go_wp2)
          go_meet
          case rel => exact ⟨_, ((a0_0 == 6)), (by first | rfl | (simp; done) | (simp [*]; done)), H', ⟨by have := HJ2.out; first | omega | exact Nat.le_refl _⟩, ⟨by (with_reducible repeat (first | refine blk_drewN ?_ _ | refine blk_drew ?_ | refine blk_alloc ?_ _)); exact BK157.out⟩, ⟨by (with_reducible repeat (first | refine blk_drewN ?_ _ | refine blk_drew ?_ | refine blk_alloc ?_ _)); exact BK158.out⟩, ⟨by repeat (first | (with_reducible first | exact HB.out | apply below_alloc | apply pw_below_drewN | apply below_drew1 | refine below_set ?_ GE157.out | refine below_set ?_ GE158.out) | exact HB.out)⟩⟩
       case rest =>
        clear HC39
        try clear c1
        try clear c2
        try clear p2
        try clear c3
        try clear c4
        try clear c6
        try clear c8
        try clear c8b0
        try clear c8b1
        try clear c9
        try clear c11
        try clear c11b0
        try clear c11b1
        try clear c12
        try clear c14
        try clear c14b0
        try clear c15
        try clear c17
        try clear c19
        try clear c20
        try clear c20b0
        try clear c20b1
        try clear c21
        try clear c21b0
        try clear c22
        try clear c24
        try clear c26
        try clear c26b0
        try clear c26b1
        try clear c27
        try clear c27b0
        try clear c28
        try clear c31
        try clear c33
        try clear c33b0
        try clear c33b1
        try clear c34
        try clear c34b0
        try clear c35
        try clear c37
        try clear c40
        try clear c42
        try clear c42b0
        try clear c42b1
        try clear c43
        try clear c43b0
        try clear c43b1
        try clear hcz10_0
        try clear hcz10_1
        try clear hcz10_2
        try clear hcz10_3
        try clear hcz13_0
        try clear hcz13_1
        try clear hcz13_2
        try clear hcz13_3
        try clear hcz16_0
        try clear hcz16_1
        try clear hcz16_2
        try clear hcz16_3
        try clear hcz18_0
        try clear hcz18_1
        try clear hcz18_2
        try clear hcz18_3
        try clear hcz23_0
        try clear hcz23_1
        try clear hcz23_2
        try clear hcz23_3
        try clear hcz25_0
        try clear hcz25_1
        try clear hcz25_2
        try clear hcz25_3
        try clear hcz29_0
        try clear hcz29_1
        try clear hcz29_2
        try clear hcz29_3
        try clear hcz30_0
        try clear hcz30_1
        try clear hcz30_2
        try clear hcz32_0
        try clear hcz32_1
        try clear hcz32_2
        try clear hcz32_3
        try clear hcz36_0
        try clear hcz36_1
        try clear hcz36_2
        try clear hcz36_3
        try clear hcz38_0
        try clear hcz38_1
        try clear hcz38_2
        try clear hcz38_3
        try clear hcz41_0
        try clear hcz41_1
        try clear hcz41_2
        try clear hcz41_3
        try clear hcz7_0
        try clear hcz7_1
        try clear hcz7_2
        try clear hfz10_0
        try clear hfz10_1
        try clear hfz10_2
        try clear hfz10_3
        try clear hfz13_0
        try clear hfz13_1
        try clear hfz13_2
        try clear hfz13_3
        try clear hfz16_0
        try clear hfz16_1
        try clear hfz16_2
        try clear hfz16_3
        try clear hfz18_0
        try clear hfz18_1
        try clear hfz18_2
        try clear hfz18_3
        try clear hfz23_0
        try clear hfz23_1
        try clear hfz23_2
        try clear hfz23_3
        try clear hfz25_0
        try clear hfz25_1
        try clear hfz25_2
        try clear hfz25_3
        try clear hfz29_0
        try clear hfz29_1
        try clear hfz29_2
        try clear hfz29_3
        try clear hfz30_0
        try clear hfz30_1
        try clear hfz30_2
        try clear hfz32_0
        try clear hfz32_1
        try clear hfz32_2
        try clear hfz32_3
        try clear hfz36_0
        try clear hfz36_1
        try clear hfz36_2
        try clear hfz36_3
        try clear hfz38_0
        try clear hfz38_1
        try clear hfz38_2
        try clear hfz38_3
        try clear hfz41_0
        try clear hfz41_1
        try clear hfz41_2
        try clear hfz41_3
        try clear hfz7_0
        try clear hfz7_1
        try clear hfz7_2
        try clear p2
        obtain ⟨kq, x63_38, rfl, HA, HJ38, BK157, BK158, HB⟩ := hcut
        cases kq with
        | zero => exact absurd HA.out (by simp [impl_fitInst.j1])
        | succ kj38 =>
         have H := HA.out
         clear HA
         simp only [impl_fitInst.j1] at H
         by_cases c44 : x63_38 = true
         ·subst c44
          have H1 : (some true) = some r := by rw [if_pos rfl] at H; exact H
          clear H
          have H := H1
          clear H1
          obtain rfl := Option.some.inj H
          go_wp2
          repeat (go_quiet (fail); try go_wp2)
          go_ret
          exact ⟨by first | rfl | (simp [errW_none, errW_some] <;> rfl) | (simp [*, errW_none, errW_some] <;> rfl), by repeat (first | (with_reducible first | exact HB.out | apply below_alloc | apply pw_below_drewN | apply below_drew1 | refine below_set ?_ GE157.out | refine below_set ?_ GE158.out) | exact HB.out)⟩
         ·replace c44 := Bool.eq_false_iff.mpr c44
          subst c44
          have H1 : (if a0_0 = 9 then (if (l0_3.length : Int) = 0 then (some true) else (if (l0_3.length : Int) = 2 then (if 0 < (l0_3.length : Int) then (if (rd l0_3 0) = 0 then (if 1 < (l0_3.length : Int) then (some ((rd l0_3 1) == 1114111)) else (none)) else (some false)) else (none)) else (some false))) else (if a0_0 = 10 then (if (l0_3.length : Int) = 0 then (some true) else (if (l0_3.length : Int) = 4 then (if 0 < (l0_3.length : Int) then (if (rd l0_3 0) = 0 then (if 1 < (l0_3.length : Int) then (if (rd l0_3 1) = 9 then (if 2 < (l0_3.length : Int) then (if (rd l0_3 2) = 11 then (if 3 < (l0_3.length : Int) then (some ((rd l0_3 3) == 1114111)) else (none)) else (some false)) else (none)) else (some false)) else (none)) else (some false)) else (none)) else (some false))) else (if a0_0 = 7 then (if a0_2 = 1 then (if (l0_3.length : Int) = 1 then ((impl_characters.f kj38 l0_3).bind fun t165 => (if t165 = true then (some true) else (if a0_2 = 0 then (some false) else (some false)))) else (if a0_2 = 0 then ((impl_pairs.f kj38 l0_3).bind fun t166 => (some t166)) else (some false))) else (if a0_2 = 0 then (if (l0_3.length : Int) = 1 then (some false) else ((impl_pairs.f kj38 l0_3).bind fun t167 => (some t167))) else (some false))) else (if a0_0 = 8 then (if (l0_3.length : Int) = 1 then ((impl_characters.f kj38 l0_3).bind fun t168 => (some t168)) else (if (l0_3.length : Int) = 2 then (if 0 < (l0_3.length : Int) then (if 1 < (l0_3.length : Int) then (if (rd l0_3 0) = (rd l0_3 1) then ((impl_characters.f kj38 l0_3).bind fun t171 => (some t171)) else (some false)) else (none)) else (none)) else (some false))) else (some false))))) = some r := by rw [if_neg (show ¬ (false = true) by decide)] at H; exact H
          clear H
          have H := H1
          clear H1
          by_cases c45 : a0_0 = 9
          ·rw [if_pos c45] at H
           have c45b0 : (a0_0 == 9) = true := beq_iff_eq.mpr c45
           have c45b1 : (a0_0 != 9) = false := bne_eq_false_iff_eq.mpr c45
           clear c45
           by_cases c46 : (l0_3.length : Int) = 0
           ·rw [if_pos c46] at H
            have c46b0 : ((l0_3.length : Int) == 0) = true := beq_iff_eq.mpr c46
            have c46b1 : ((l0_3.length : Int) != 0) = false := bne_eq_false_iff_eq.mpr c46
            clear c46
            obtain rfl := Option.some.inj H
            have hnb47 := NB157_158.out
            have hnc47 := NB158_157.out
            have hcz48_0 : wc.cell? ⟨gb157, 0, none⟩ = some (.int .i64 a0_0) := (blk_cell BK157.out 0).trans rfl
            have hcz48_1 : wc.cell? ⟨gb157, 1, none⟩ = some (.int .i64 a0_1) := (blk_cell BK157.out 1).trans rfl
            have hcz48_2 : wc.cell? ⟨gb157, 2, none⟩ = some (.int .i64 a0_2) := (blk_cell BK157.out 2).trans rfl
            have hcz48_3 : wc.cell? ⟨gb157, 3, none⟩ = some (.slice A0_3 l0_3.length c0_3) := (blk_cell BK157.out 3).trans rfl
            have hfz48_0 := blk_frozen BK157.out 0
            have hfz48_1 := blk_frozen BK157.out 1
            have hfz48_2 := blk_frozen BK157.out 2
            have hfz48_3 := blk_frozen BK157.out 3
            go_wp2
            repeat (go_quiet (fail); try go_wp2)
            go_ret
            exact ⟨by first | rfl | (simp [errW_none, errW_some] <;> rfl) | (simp [*, errW_none, errW_some] <;> rfl), by repeat (first | (with_reducible first | exact HB.out | apply below_alloc | apply pw_below_drewN | apply below_drew1 | refine below_set ?_ GE157.out | refine below_set ?_ GE158.out) | exact HB.out)⟩
           ·rw [if_neg c46] at H
            have c46b0 : ((l0_3.length : Int) == 0) = false := beq_eq_false_iff_ne.mpr c46
            have c46b1 : ((l0_3.length : Int) != 0) = true := bne_iff_ne.mpr c46
            have c46b2 : ¬ (l0_3 = []) := fun h_ => c46 (by rw [h_]; rfl)
            by_cases c49 : (l0_3.length : Int) = 2
            ·rw [if_pos c49] at H
             have c49b0 : ((l0_3.length : Int) == 2) = true := beq_iff_eq.mpr c49
             have c49b1 : ((l0_3.length : Int) != 2) = false := bne_eq_false_iff_eq.mpr c49
             clear c49
             by_cases c50 : 0 < (l0_3.length : Int)
             ·rw [if_pos c50] at H
              have c50b0 : decide (0 < (l0_3.length : Int)) = true := decide_eq_true c50
              have c50b1 : decide (0 < l0_3.length) = true := decide_eq_true (by omega)
              clear c50
              by_cases c51 : (rd l0_3 0) = 0
              ·rw [if_pos c51] at H
               have c51b0 : ((rd l0_3 0) == 0) = true := beq_iff_eq.mpr c51
               have c51b1 : ((rd l0_3 0) != 0) = false := bne_eq_false_iff_eq.mpr c51
               clear c51
               by_cases c52 : 1 < (l0_3.length : Int)
               ·rw [if_pos c52] at H
                have c52b0 : decide (1 < (l0_3.length : Int)) = true := decide_eq_true c52
                have c52b1 : decide (1 < l0_3.length) = true := decide_eq_true (by omega)
                clear c52
                obtain rfl := Option.some.inj H
                have hnb53 := NB157_158.out
                have hnc53 := NB158_157.out
                have hcz54_0 : wc.cell? ⟨gb157, 0, none⟩ = some (.int .i64 a0_0) := (blk_cell BK157.out 0).trans rfl
                have hcz54_1 : wc.cell? ⟨gb157, 1, none⟩ = some (.int .i64 a0_1) := (blk_cell BK157.out 1).trans rfl
                have hcz54_2 : wc.cell? ⟨gb157, 2, none⟩ = some (.int .i64 a0_2) := (blk_cell BK157.out 2).trans rfl
                have hcz54_3 : wc.cell? ⟨gb157, 3, none⟩ = some (.slice A0_3 l0_3.length c0_3) := (blk_cell BK157.out 3).trans rfl
                have hfz54_0 := blk_frozen BK157.out 0
                have hfz54_1 := blk_frozen BK157.out 1
                have hfz54_2 := blk_frozen BK157.out 2
                have hfz54_3 := blk_frozen BK157.out 3
                have p159 : 0 ≤ (0 : Int) := (by omega)
                have q159 : 0 < (l0_3.length : Int) := of_decide_eq_true (by first | (with_reducible assumption) | assumption)
                obtain ⟨ad159, e159, hx159_0⟩ := Kd.at_int HR0_3.out 0 p159 q159
                cases e159
                have qi159 : (0 < l0_3.length) = True := eq_true (by omega)
                (try rw [show ((0 : Int)).toNat = 0 from rfl] at hx159_0)
                (try rw [Addr.add_zero'] at hx159_0)
                replace hx159_0 := (HB.out.cell (World.block_lt_of_cell? w _ hx159_0)).trans hx159_0
                replace p159 := eq_true p159
                replace q159 := eq_true q159
                have p160 : 0 ≤ (1 : Int) := (by omega)
                have q160 : 1 < (l0_3.length : Int) := of_decide_eq_true (by first | (with_reducible assumption) | assumption)
                obtain ⟨ad160, e160, hx160_0⟩ := Kd.at_int HR0_3.out 1 p160 q160
                obtain rfl : ad159 = ad160 := (by injection e160)
                (try simp only [show (1 : Int).toNat = 1 from rfl, Nat.reduceMul, Nat.reduceEqDiff, Go.Addr.add, ↓reduceIte] at hx160_0)
                have qi160 : (1 < l0_3.length) = True := eq_true (by omega)
                (try rw [show ((1 : Int)).toNat = 1 from rfl] at hx160_0)
                replace hx160_0 := (HB.out.cell (World.block_lt_of_cell? w _ hx160_0)).trans hx160_0
                replace p160 := eq_true p160
                replace q160 := eq_true q160
                go_wp2
                repeat (go_quiet (fail); try go_wp2)
                go_ret
                exact ⟨by first | rfl | (simp [errW_none, errW_some] <;> rfl) | (simp [*, errW_none, errW_some] <;> rfl), by repeat (first | (with_reducible first | exact HB.out | apply below_alloc | apply pw_below_drewN | apply below_drew1 | refine below_set ?_ GE157.out | refine below_set ?_ GE158.out) | exact HB.out)⟩
               ·rw [if_neg c52] at H
                exact absurd H (by simp)
              ·rw [if_neg c51] at H
               have c51b0 : ((rd l0_3 0) == 0) = false := beq_eq_false_iff_ne.mpr c51
               have c51b1 : ((rd l0_3 0) != 0) = true := bne_iff_ne.mpr c51
               obtain rfl := Option.some.inj H
               have hnb55 := NB157_158.out
               have hnc55 := NB158_157.out
               have hcz56_0 : wc.cell? ⟨gb157, 0, none⟩ = some (.int .i64 a0_0) := (blk_cell BK157.out 0).trans rfl
               have hcz56_1 : wc.cell? ⟨gb157, 1, none⟩ = some (.int .i64 a0_1) := (blk_cell BK157.out 1).trans rfl
               have hcz56_2 : wc.cell? ⟨gb157, 2, none⟩ = some (.int .i64 a0_2) := (blk_cell BK157.out 2).trans rfl
               have hcz56_3 : wc.cell? ⟨gb157, 3, none⟩ = some (.slice A0_3 l0_3.length c0_3) := (blk_cell BK157.out 3).trans rfl
               have hfz56_0 := blk_frozen BK157.out 0
               have hfz56_1 := blk_frozen BK157.out 1
               have hfz56_2 := blk_frozen BK157.out 2
               have hfz56_3 := blk_frozen BK157.out 3
               have p159 : 0 ≤ (0 : Int) := (by omega)
               have q159 : 0 < (l0_3.length : Int) := of_decide_eq_true (by first | (with_reducible assumption) | assumption)
               obtain ⟨ad159, e159, hx159_0⟩ := Kd.at_int HR0_3.out 0 p159 q159
               cases e159
               have qi159 : (0 < l0_3.length) = True := eq_true (by omega)
               (try rw [show ((0 : Int)).toNat = 0 from rfl] at hx159_0)
               (try rw [Addr.add_zero'] at hx159_0)
               replace hx159_0 := (HB.out.cell (World.block_lt_of_cell? w _ hx159_0)).trans hx159_0
               replace p159 := eq_true p159
               replace q159 := eq_true q159
               go_wp2
               repeat (go_quiet (fail); try go_wp2)
               go_ret
               exact ⟨by first | rfl | (simp [errW_none, errW_some] <;> rfl) | (simp [*, errW_none, errW_some] <;> rfl), by repeat (first | (with_reducible first | exact HB.out | apply below_alloc | apply pw_below_drewN | apply below_drew1 | refine below_set ?_ GE157.out | refine below_set ?_ GE158.out) | exact HB.out)⟩
             ·rw [if_neg c50] at H
              exact absurd H (by simp)
            ·rw [if_neg c49] at H
             have c49b0 : ((l0_3.length : Int) == 2) = false := beq_eq_false_iff_ne.mpr c49
             have c49b1 : ((l0_3.length : Int) != 2) = true := bne_iff_ne.mpr c49
             obtain rfl := Option.some.inj H
             have hnb57 := NB157_158.out
             have hnc57 := NB158_157.out
             have hcz58_0 : wc.cell? ⟨gb157, 0, none⟩ = some (.int .i64 a0_0) := (blk_cell BK157.out 0).trans rfl
             have hcz58_1 : wc.cell? ⟨gb157, 1, none⟩ = some (.int .i64 a0_1) := (blk_cell BK157.out 1).trans rfl
             have hcz58_2 : wc.cell? ⟨gb157, 2, none⟩ = some (.int .i64 a0_2) := (blk_cell BK157.out 2).trans rfl
             have hcz58_3 : wc.cell? ⟨gb157, 3, none⟩ = some (.slice A0_3 l0_3.length c0_3) := (blk_cell BK157.out 3).trans rfl
             have hfz58_0 := blk_frozen BK157.out 0
             have hfz58_1 := blk_frozen BK157.out 1
             have hfz58_2 := blk_frozen BK157.out 2
             have hfz58_3 := blk_frozen BK157.out 3
             go_wp2
             repeat (go_quiet (fail); try go_wp2)
             go_ret
             exact ⟨by first | rfl | (simp [errW_none, errW_some] <;> rfl) | (simp [*, errW_none, errW_some] <;> rfl), by repeat (first | (with_reducible first | exact HB.out | apply below_alloc | apply pw_below_drewN | apply below_drew1 | refine below_set ?_ GE157.out | refine below_set ?_ GE158.out) | exact HB.out)⟩
          ·rw [if_neg c45] at H
           have c45b0 : (a0_0 == 9) = false := beq_eq_false_iff_ne.mpr c45
           have c45b1 : (a0_0 != 9) = true := bne_iff_ne.mpr c45
           by_cases c59 : a0_0 = 10
           ·rw [if_pos c59] at H
            have c59b0 : (a0_0 == 10) = true := beq_iff_eq.mpr c59
            have c59b1 : (a0_0 != 10) = false := bne_eq_false_iff_eq.mpr c59
            clear c59
            by_cases c60 : (l0_3.length : Int) = 0
            ·rw [if_pos c60] at H
             have c60b0 : ((l0_3.length : Int) == 0) = true := beq_iff_eq.mpr c60
             have c60b1 : ((l0_3.length : Int) != 0) = false := bne_eq_false_iff_eq.mpr c60
             clear c60
             obtain rfl := Option.some.inj H
             have hnb61 := NB157_158.out
             have hnc61 := NB158_157.out
             have hcz62_0 : wc.cell? ⟨gb157, 0, none⟩ = some (.int .i64 a0_0) := (blk_cell BK157.out 0).trans rfl
             have hcz62_1 : wc.cell? ⟨gb157, 1, none⟩ = some (.int .i64 a0_1) := (blk_cell BK157.out 1).trans rfl
             have hcz62_2 : wc.cell? ⟨gb157, 2, none⟩ = some (.int .i64 a0_2) := (blk_cell BK157.out 2).trans rfl
             have hcz62_3 : wc.cell? ⟨gb157, 3, none⟩ = some (.slice A0_3 l0_3.length c0_3) := (blk_cell BK157.out 3).trans rfl
             have hfz62_0 := blk_frozen BK157.out 0
             have hfz62_1 := blk_frozen BK157.out 1
             have hfz62_2 := blk_frozen BK157.out 2
             have hfz62_3 := blk_frozen BK157.out 3
             go_wp2
             repeat (go_quiet (fail); try go_wp2)
             go_ret
             exact ⟨by first | rfl | (simp [errW_none, errW_some] <;> rfl) | (simp [*, errW_none, errW_some] <;> rfl), by repeat (first | (with_reducible first | exact HB.out | apply below_alloc | apply pw_below_drewN | apply below_drew1 | refine below_set ?_ GE157.out | refine below_set ?_ GE158.out) | exact HB.out)⟩
            ·rw [if_neg c60] at H
             have c60b0 : ((l0_3.length : Int) == 0) = false := beq_eq_false_iff_ne.mpr c60
             have c60b1 : ((l0_3.length : Int) != 0) = true := bne_iff_ne.mpr c60
             have c60b2 : ¬ (l0_3 = []) := fun h_ => c60 (by rw [h_]; rfl)
             by_cases c63 : (l0_3.length : Int) = 4
             ·rw [if_pos c63] at H
              have c63b0 : ((l0_3.length : Int) == 4) = true := beq_iff_eq.mpr c63
              have c63b1 : ((l0_3.length : Int) != 4) = false := bne_eq_false_iff_eq.mpr c63
              clear c63
              by_cases c64 : 0 < (l0_3.length : Int)
              ·rw [if_pos c64] at H
               have c64b0 : decide (0 < (l0_3.length : Int)) = true := decide_eq_true c64
               have c64b1 : decide (0 < l0_3.length) = true := decide_eq_true (by omega)
               clear c64
               by_cases c65 : (rd l0_3 0) = 0
               ·rw [if_pos c65] at H
                have c65b0 : ((rd l0_3 0) == 0) = true := beq_iff_eq.mpr c65
                have c65b1 : ((rd l0_3 0) != 0) = false := bne_eq_false_iff_eq.mpr c65
                clear c65
                by_cases c66 : 1 < (l0_3.length : Int)
                ·rw [if_pos c66] at H
                 have c66b0 : decide (1 < (l0_3.length : Int)) = true := decide_eq_true c66
                 have c66b1 : decide (1 < l0_3.length) = true := decide_eq_true (by omega)
                 clear c66
                 by_cases c67 : (rd l0_3 1) = 9
                 ·rw [if_pos c67] at H
                  have c67b0 : ((rd l0_3 1) == 9) = true := beq_iff_eq.mpr c67
                  have c67b1 : ((rd l0_3 1) != 9) = false := bne_eq_false_iff_eq.mpr c67
                  clear c67
                  by_cases c68 : 2 < (l0_3.length : Int)
                  ·rw [if_pos c68] at H
                   have c68b0 : decide (2 < (l0_3.length : Int)) = true := decide_eq_true c68
                   have c68b1 : decide (2 < l0_3.length) = true := decide_eq_true (by omega)
                   clear c68
                   by_cases c69 : (rd l0_3 2) = 11
                   ·rw [if_pos c69] at H
                    have c69b0 : ((rd l0_3 2) == 11) = true := beq_iff_eq.mpr c69
                    have c69b1 : ((rd l0_3 2) != 11) = false := bne_eq_false_iff_eq.mpr c69
                    clear c69
                    by_cases c70 : 3 < (l0_3.length : Int)
                    ·rw [if_pos c70] at H
                     have c70b0 : decide (3 < (l0_3.length : Int)) = true := decide_eq_true c70
                     have c70b1 : decide (3 < l0_3.length) = true := decide_eq_true (by omega)
                     clear c70
                     obtain rfl := Option.some.inj H
                     have hnb71 := NB157_158.out
                     have hnc71 := NB158_157.out
                     have hcz72_0 : wc.cell? ⟨gb157, 0, none⟩ = some (.int .i64 a0_0) := (blk_cell BK157.out 0).trans rfl
                     have hcz72_1 : wc.cell? ⟨gb157, 1, none⟩ = some (.int .i64 a0_1) := (blk_cell BK157.out 1).trans rfl
                     have hcz72_2 : wc.cell? ⟨gb157, 2, none⟩ = some (.int .i64 a0_2) := (blk_cell BK157.out 2).trans rfl
                     have hcz72_3 : wc.cell? ⟨gb157, 3, none⟩ = some (.slice A0_3 l0_3.length c0_3) := (blk_cell BK157.out 3).trans rfl
                     have hfz72_0 := blk_frozen BK157.out 0
                     have hfz72_1 := blk_frozen BK157.out 1
                     have hfz72_2 := blk_frozen BK157.out 2
                     have hfz72_3 := blk_frozen BK157.out 3
                     have p161 : 0 ≤ (0 : Int) := (by omega)
                     have q161 : 0 < (l0_3.length : Int) := of_decide_eq_true (by first | (with_reducible assumption) | assumption)
                     obtain ⟨ad161, e161, hx161_0⟩ := Kd.at_int HR0_3.out 0 p161 q161
                     cases e161
                     have qi161 : (0 < l0_3.length) = True := eq_true (by omega)
                     (try rw [show ((0 : Int)).toNat = 0 from rfl] at hx161_0)
                     (try rw [Addr.add_zero'] at hx161_0)
                     replace hx161_0 := (HB.out.cell (World.block_lt_of_cell? w _ hx161_0)).trans hx161_0
                     replace p161 := eq_true p161
                     replace q161 := eq_true q161
                     have p162 : 0 ≤ (1 : Int) := (by omega)
                     have q162 : 1 < (l0_3.length : Int) := of_decide_eq_true (by first | (with_reducible assumption) | assumption)
                     obtain ⟨ad162, e162, hx162_0⟩ := Kd.at_int HR0_3.out 1 p162 q162
                     obtain rfl : ad161 = ad162 := (by injection e162)
                     (try simp only [show (1 : Int).toNat = 1 from rfl, Nat.reduceMul, Nat.reduceEqDiff, Go.Addr.add, ↓reduceIte] at hx162_0)
                     have qi162 : (1 < l0_3.length) = True := eq_true (by omega)
                     (try rw [show ((1 : Int)).toNat = 1 from rfl] at hx162_0)
                     replace hx162_0 := (HB.out.cell (World.block_lt_of_cell? w _ hx162_0)).trans hx162_0
                     replace p162 := eq_true p162
                     replace q162 := eq_true q162
                     have p163 : 0 ≤ (2 : Int) := (by omega)
                     have q163 : 2 < (l0_3.length : Int) := of_decide_eq_true (by first | (with_reducible assumption) | assumption)
                     obtain ⟨ad163, e163, hx163_0⟩ := Kd.at_int HR0_3.out 2 p163 q163
                     obtain rfl : ad161 = ad163 := (by injection e163)
                     (try simp only [show (2 : Int).toNat = 2 from rfl, Nat.reduceMul, Nat.reduceEqDiff, Go.Addr.add, ↓reduceIte] at hx163_0)
                     have qi163 : (2 < l0_3.length) = True := eq_true (by omega)
                     (try rw [show ((2 : Int)).toNat = 2 from rfl] at hx163_0)
                     replace hx163_0 := (HB.out.cell (World.block_lt_of_cell? w _ hx163_0)).trans hx163_0
                     replace p163 := eq_true p163
                     replace q163 := eq_true q163
                     have p164 : 0 ≤ (3 : Int) := (by omega)
                     have q164 : 3 < (l0_3.length : Int) := of_decide_eq_true (by first | (with_reducible assumption) | assumption)
                     obtain ⟨ad164, e164, hx164_0⟩ := Kd.at_int HR0_3.out 3 p164 q164
                     obtain rfl : ad161 = ad164 := (by injection e164)
                     (try simp only [show (3 : Int).toNat = 3 from rfl, Nat.reduceMul, Nat.reduceEqDiff, Go.Addr.add, ↓reduceIte] at hx164_0)
                     have qi164 : (3 < l0_3.length) = True := eq_true (by omega)
                     (try rw [show ((3 : Int)).toNat = 3 from rfl] at hx164_0)
                     replace hx164_0 := (HB.out.cell (World.block_lt_of_cell? w _ hx164_0)).trans hx164_0
                     replace p164 := eq_true p164
                     replace q164 := eq_true q164
                     go_wp2
                     repeat (go_quiet (fail); try go_wp2)
                     go_ret
                     exact ⟨by first | rfl | (simp [errW_none, errW_some] <;> rfl) | (simp [*, errW_none, errW_some] <;> rfl), by repeat (first | (with_reducible first | exact HB.out | apply below_alloc | apply pw_below_drewN | apply below_drew1 | refine below_set ?_ GE157.out | refine below_set ?_ GE158.out) | exact HB.out)⟩
                    ·rw [if_neg c70] at H
                     exact absurd H (by simp)
                   ·rw [if_neg c69] at H
                    have c69b0 : ((rd l0_3 2) == 11) = false := beq_eq_false_iff_ne.mpr c69
                    have c69b1 : ((rd l0_3 2) != 11) = true := bne_iff_ne.mpr c69
                    obtain rfl := Option.some.inj H
                    have hnb73 := NB157_158.out
                    have hnc73 := NB158_157.out
                    have hcz74_0 : wc.cell? ⟨gb157, 0, none⟩ = some (.int .i64 a0_0) := (blk_cell BK157.out 0).trans rfl
                    have hcz74_1 : wc.cell? ⟨gb157, 1, none⟩ = some (.int .i64 a0_1) := (blk_cell BK157.out 1).trans rfl
                    have hcz74_2 : wc.cell? ⟨gb157, 2, none⟩ = some (.int .i64 a0_2) := (blk_cell BK157.out 2).trans rfl
                    have hcz74_3 : wc.cell? ⟨gb157, 3, none⟩ = some (.slice A0_3 l0_3.length c0_3) := (blk_cell BK157.out 3).trans rfl
                    have hfz74_0 := blk_frozen BK157.out 0
                    have hfz74_1 := blk_frozen BK157.out 1
                    have hfz74_2 := blk_frozen BK157.out 2
                    have hfz74_3 := blk_frozen BK157.out 3
                    have p161 : 0 ≤ (0 : Int) := (by omega)
                    have q161 : 0 < (l0_3.length : Int) := of_decide_eq_true (by first | (with_reducible assumption) | assumption)
                    obtain ⟨ad161, e161, hx161_0⟩ := Kd.at_int HR0_3.out 0 p161 q161
                    cases e161
                    have qi161 : (0 < l0_3.length) = True := eq_true (by omega)
                    (try rw [show ((0 : Int)).toNat = 0 from rfl] at hx161_0)
                    (try rw [Addr.add_zero'] at hx161_0)
                    replace hx161_0 := (HB.out.cell (World.block_lt_of_cell? w _ hx161_0)).trans hx161_0
                    replace p161 := eq_true p161
                    replace q161 := eq_true q161
                    have p162 : 0 ≤ (1 : Int) := (by omega)
                    have q162 : 1 < (l0_3.length : Int) := of_decide_eq_true (by first | (with_reducible assumption) | assumption)
                    obtain ⟨ad162, e162, hx162_0⟩ := Kd.at_int HR0_3.out 1 p162 q162
                    obtain rfl : ad161 = ad162 := (by injection e162)
                    (try simp only [show (1 : Int).toNat = 1 from rfl, Nat.reduceMul, Nat.reduceEqDiff, Go.Addr.add, ↓reduceIte] at hx162_0)
                    have qi162 : (1 < l0_3.length) = True := eq_true (by omega)
                    (try rw [show ((1 : Int)).toNat = 1 from rfl] at hx162_0)
                    replace hx162_0 := (HB.out.cell (World.block_lt_of_cell? w _ hx162_0)).trans hx162_0
                    replace p162 := eq_true p162
                    replace q162 := eq_true q162
                    have p163 : 0 ≤ (2 : Int) := (by omega)
                    have q163 : 2 < (l0_3.length : Int) := of_decide_eq_true (by first | (with_reducible assumption) | assumption)
                    obtain ⟨ad163, e163, hx163_0⟩ := Kd.at_int HR0_3.out 2 p163 q163
                    obtain rfl : ad161 = ad163 := (by injection e163)
                    (try simp only [show (2 : Int).toNat = 2 from rfl, Nat.reduceMul, Nat.reduceEqDiff, Go.Addr.add, ↓reduceIte] at hx163_0)
                    have qi163 : (2 < l0_3.length) = True := eq_true (by omega)
                    (try rw [show ((2 : Int)).toNat = 2 from rfl] at hx163_0)
                    replace hx163_0 := (HB.out.cell (World.block_lt_of_cell? w _ hx163_0)).trans hx163_0
                    replace p163 := eq_true p163
                    replace q163 := eq_true q163
                    go_wp2
                    repeat (go_quiet (fail); try go_wp2)
                    go_ret
                    exact ⟨by first | rfl | (simp [errW_none, errW_some] <;> rfl) | (simp [*, errW_none, errW_some] <;> rfl), by repeat (first | (with_reducible first | exact HB.out | apply below_alloc | apply pw_below_drewN | apply below_drew1 | refine below_set ?_ GE157.out | refine below_set ?_ GE158.out) | exact HB.out)⟩
                  ·rw [if_neg c68] at H
                   exact absurd H (by simp)
                 ·rw [if_neg c67] at H
                  have c67b0 : ((rd l0_3 1) == 9) = false := beq_eq_false_iff_ne.mpr c67
                  have c67b1 : ((rd l0_3 1) != 9) = true := bne_iff_ne.mpr c67
                  obtain rfl := Option.some.inj H
                  have hnb75 := NB157_158.out
                  have hnc75 := NB158_157.out
                  have hcz76_0 : wc.cell? ⟨gb157, 0, none⟩ = some (.int .i64 a0_0) := (blk_cell BK157.out 0).trans rfl
                  have hcz76_1 : wc.cell? ⟨gb157, 1, none⟩ = some (.int .i64 a0_1) := (blk_cell BK157.out 1).trans rfl
                  have hcz76_2 : wc.cell? ⟨gb157, 2, none⟩ = some (.int .i64 a0_2) := (blk_cell BK157.out 2).trans rfl
                  have hcz76_3 : wc.cell? ⟨gb157, 3, none⟩ = some (.slice A0_3 l0_3.length c0_3) := (blk_cell BK157.out 3).trans rfl
                  have hfz76_0 := blk_frozen BK157.out 0
                  have hfz76_1 := blk_frozen BK157.out 1
                  have hfz76_2 := blk_frozen BK157.out 2
                  have hfz76_3 := blk_frozen BK157.out 3
                  have p161 : 0 ≤ (0 : Int) := (by omega)
                  have q161 : 0 < (l0_3.length : Int) := of_decide_eq_true (by first | (with_reducible assumption) | assumption)
                  obtain ⟨ad161, e161, hx161_0⟩ := Kd.at_int HR0_3.out 0 p161 q161
                  cases e161
                  have qi161 : (0 < l0_3.length) = True := eq_true (by omega)
                  (try rw [show ((0 : Int)).toNat = 0 from rfl] at hx161_0)
                  (try rw [Addr.add_zero'] at hx161_0)
                  replace hx161_0 := (HB.out.cell (World.block_lt_of_cell? w _ hx161_0)).trans hx161_0
                  replace p161 := eq_true p161
                  replace q161 := eq_true q161
                  have p162 : 0 ≤ (1 : Int) := (by omega)
                  have q162 : 1 < (l0_3.length : Int) := of_decide_eq_true (by first | (with_reducible assumption) | assumption)
                  obtain ⟨ad162, e162, hx162_0⟩ := Kd.at_int HR0_3.out 1 p162 q162
                  obtain rfl : ad161 = ad162 := (by injection e162)
                  (try simp only [show (1 : Int).toNat = 1 from rfl, Nat.reduceMul, Nat.reduceEqDiff, Go.Addr.add, ↓reduceIte] at hx162_0)
                  have qi162 : (1 < l0_3.length) = True := eq_true (by omega)
                  (try rw [show ((1 : Int)).toNat = 1 from rfl] at hx162_0)
                  replace hx162_0 := (HB.out.cell (World.block_lt_of_cell? w _ hx162_0)).trans hx162_0
                  replace p162 := eq_true p162
                  replace q162 := eq_true q162
                  go_wp2
                  repeat (go_quiet (fail); try go_wp2)
                  go_ret
                  exact ⟨by first | rfl | (simp [errW_none, errW_some] <;> rfl) | (simp [*, errW_none, errW_some] <;> rfl), by repeat (first | (with_reducible first | exact HB.out | apply below_alloc | apply pw_below_drewN | apply below_drew1 | refine below_set ?_ GE157.out | refine below_set ?_ GE158.out) | exact HB.out)⟩
                ·rw [if_neg c66] at H
                 exact absurd H (by simp)
               ·rw [if_neg c65] at H
                have c65b0 : ((rd l0_3 0) == 0) = false := beq_eq_false_iff_ne.mpr c65
                have c65b1 : ((rd l0_3 0) != 0) = true := bne_iff_ne.mpr c65
                obtain rfl := Option.some.inj H
                have hnb77 := NB157_158.out
                have hnc77 := NB158_157.out
                have hcz78_0 : wc.cell? ⟨gb157, 0, none⟩ = some (.int .i64 a0_0) := (blk_cell BK157.out 0).trans rfl
                have hcz78_1 : wc.cell? ⟨gb157, 1, none⟩ = some (.int .i64 a0_1) := (blk_cell BK157.out 1).trans rfl
                have hcz78_2 : wc.cell? ⟨gb157, 2, none⟩ = some (.int .i64 a0_2) := (blk_cell BK157.out 2).trans rfl
                have hcz78_3 : wc.cell? ⟨gb157, 3, none⟩ = some (.slice A0_3 l0_3.length c0_3) := (blk_cell BK157.out 3).trans rfl
                have hfz78_0 := blk_frozen BK157.out 0
                have hfz78_1 := blk_frozen BK157.out 1
                have hfz78_2 := blk_frozen BK157.out 2
                have hfz78_3 := blk_frozen BK157.out 3
                have p161 : 0 ≤ (0 : Int) := (by omega)
                have q161 : 0 < (l0_3.length : Int) := of_decide_eq_true (by first | (with_reducible assumption) | assumption)
                obtain ⟨ad161, e161, hx161_0⟩ := Kd.at_int HR0_3.out 0 p161 q161
                cases e161
                have qi161 : (0 < l0_3.length) = True := eq_true (by omega)
                (try rw [show ((0 : Int)).toNat = 0 from rfl] at hx161_0)
                (try rw [Addr.add_zero'] at hx161_0)
                replace hx161_0 := (HB.out.cell (World.block_lt_of_cell? w _ hx161_0)).trans hx161_0
                replace p161 := eq_true p161
                replace q161 := eq_true q161
                go_wp2
                repeat (go_quiet (fail); try go_wp2)
                go_ret
                exact ⟨by first | rfl | (simp [errW_none, errW_some] <;> rfl) | (simp [*, errW_none, errW_some] <;> rfl), by repeat (first | (with_reducible first | exact HB.out | apply below_alloc | apply pw_below_drewN | apply below_drew1 | refine below_set ?_ GE157.out | refine below_set ?_ GE158.out) | exact HB.out)⟩
              ·rw [if_neg c64] at H
               exact absurd H (by simp)
             ·rw [if_neg c63] at H
              have c63b0 : ((l0_3.length : Int) == 4) = false := beq_eq_false_iff_ne.mpr c63
              have c63b1 : ((l0_3.length : Int) != 4) = true := bne_iff_ne.mpr c63
              obtain rfl := Option.some.inj H
              have hnb79 := NB157_158.out
              have hnc79 := NB158_157.out
              have hcz80_0 : wc.cell? ⟨gb157, 0, none⟩ = some (.int .i64 a0_0) := (blk_cell BK157.out 0).trans rfl
              have hcz80_1 : wc.cell? ⟨gb157, 1, none⟩ = some (.int .i64 a0_1) := (blk_cell BK157.out 1).trans rfl
              have hcz80_2 : wc.cell? ⟨gb157, 2, none⟩ = some (.int .i64 a0_2) := (blk_cell BK157.out 2).trans rfl
              have hcz80_3 : wc.cell? ⟨gb157, 3, none⟩ = some (.slice A0_3 l0_3.length c0_3) := (blk_cell BK157.out 3).trans rfl
              have hfz80_0 := blk_frozen BK157.out 0
              have hfz80_1 := blk_frozen BK157.out 1
              have hfz80_2 := blk_frozen BK157.out 2
              have hfz80_3 := blk_frozen BK157.out 3
              go_wp2
              repeat (go_quiet (fail); try go_wp2)
              go_ret
              exact ⟨by first | rfl | (simp [errW_none, errW_some] <;> rfl) | (simp [*, errW_none, errW_some] <;> rfl), by repeat (first | (with_reducible first | exact HB.out | apply below_alloc | apply pw_below_drewN | apply below_drew1 | refine below_set ?_ GE157.out | refine below_set ?_ GE158.out) | exact HB.out)⟩
           ·rw [if_neg c59] at H
            have c59b0 : (a0_0 == 10) = false := beq_eq_false_iff_ne.mpr c59
            have c59b1 : (a0_0 != 10) = true := bne_iff_ne.mpr c59
            by_cases c81 : a0_0 = 7
            ·rw [if_pos c81] at H
             have c81b0 : (a0_0 == 7) = true := beq_iff_eq.mpr c81
             have c81b1 : (a0_0 != 7) = false := bne_eq_false_iff_eq.mpr c81
             clear c81
             by_cases c82 : a0_2 = 1
             ·rw [if_pos c82] at H
              have c82b0 : (a0_2 == 1) = true := beq_iff_eq.mpr c82
              have c82b1 : (a0_2 != 1) = false := bne_eq_false_iff_eq.mpr c82
              clear c82
              by_cases c83 : (l0_3.length : Int) = 1
              ·rw [if_pos c83] at H
               have c83b0 : ((l0_3.length : Int) == 1) = true := beq_iff_eq.mpr c83
               have c83b1 : ((l0_3.length : Int) != 1) = false := bne_eq_false_iff_eq.mpr c83
               clear c83
               replace H := Option.bind_eq_some_iff.mp H
               obtain ⟨t165, A840, H⟩ := H
               replace H : (if t165 = true then (some true) else (if a0_2 = 0 then (some false) else (some false))) = some r := H
               have A84 := Aside0.mk A840
               clear A840
               by_cases c85 : t165 = true
               ·subst c85
                have H1 : (some true) = some r := by rw [if_pos rfl] at H; exact H
                clear H
                have H := H1
                clear H1
                obtain rfl := Option.some.inj H
                have hnb86 := NB157_158.out
                have hnc86 := NB158_157.out
                have hcz87_0 : wc.cell? ⟨gb157, 0, none⟩ = some (.int .i64 a0_0) := (blk_cell BK157.out 0).trans rfl
                have hcz87_1 : wc.cell? ⟨gb157, 1, none⟩ = some (.int .i64 a0_1) := (blk_cell BK157.out 1).trans rfl
                have hcz87_2 : wc.cell? ⟨gb157, 2, none⟩ = some (.int .i64 a0_2) := (blk_cell BK157.out 2).trans rfl
                have hcz87_3 : wc.cell? ⟨gb157, 3, none⟩ = some (.slice A0_3 l0_3.length c0_3) := (blk_cell BK157.out 3).trans rfl
                have hfz87_0 := blk_frozen BK157.out 0
                have hfz87_1 := blk_frozen BK157.out 1
                have hfz87_2 := blk_frozen BK157.out 2
                have hfz87_3 := blk_frozen BK157.out 3
                go_wp2_with (first | (go_at_call 53; (with_reducible refine (impl_characters.calls kj38 _ _ l0_3 true _ ?side1 ?side2 A84.out).mono ?_); (case side1 => repeat (first | exact (Kd.C_below HR0_3.out HB.out) | (with_reducible refine Kd.C_alloc ?_ _) | (with_reducible refine Kd.C_drewN ?_ _) | (with_reducible refine Kd.C_drew ?_))); (case side2 => exact HC0_3.out); rintro e w' ⟨rfl, ⟨nd, rfl⟩⟩; (try first | exact ⟨rfl, _, World.drewN_drewN _ _ _⟩ | exact ⟨rfl, _, Eq.trans (World.drewN_drewN _ _ _) (congrArg (World.drewN _) (Nat.add_assoc _ _ _))⟩)))
                repeat (go_quiet (first | (go_at_call 53; (with_reducible refine (impl_characters.calls kj38 _ _ l0_3 true _ ?side1 ?side2 A84.out).mono ?_); (case side1 => repeat (first | exact (Kd.C_below HR0_3.out HB.out) | (with_reducible refine Kd.C_alloc ?_ _) | (with_reducible refine Kd.C_drewN ?_ _) | (with_reducible refine Kd.C_drew ?_))); (case side2 => exact HC0_3.out); rintro e w' ⟨rfl, ⟨nd, rfl⟩⟩; (try first | exact ⟨rfl, _, World.drewN_drewN _ _ _⟩ | exact ⟨rfl, _, Eq.trans (World.drewN_drewN _ _ _) (congrArg (World.drewN _) (Nat.add_assoc _ _ _))⟩))); try go_wp2_with (first | (go_at_call 53; (with_reducible refine (impl_characters.calls kj38 _ _ l0_3 true _ ?side1 ?side2 A84.out).mono ?_); (case side1 => repeat (first | exact (Kd.C_below HR0_3.out HB.out) | (with_reducible refine Kd.C_alloc ?_ _) | (with_reducible refine Kd.C_drewN ?_ _) | (with_reducible refine Kd.C_drew ?_))); (case side2 => exact HC0_3.out); rintro e w' ⟨rfl, ⟨nd, rfl⟩⟩; (try first | exact ⟨rfl, _, World.drewN_drewN _ _ _⟩ | exact ⟨rfl, _, Eq.trans (World.drewN_drewN _ _ _) (congrArg (World.drewN _) (Nat.add_assoc _ _ _))⟩))))
                go_ret
                exact ⟨by first | rfl | (simp [errW_none, errW_some] <;> rfl) | (simp [*, errW_none, errW_some] <;> rfl), by repeat (first | (with_reducible first | exact HB.out | apply below_alloc | apply pw_below_drewN | apply below_drew1 | refine below_set ?_ GE157.out | refine below_set ?_ GE158.out) | exact HB.out)⟩
               ·replace c85 := Bool.eq_false_iff.mpr c85
                subst c85
                have H1 : (if a0_2 = 0 then (some false) else (some false)) = some r := by rw [if_neg (show ¬ (false = true) by decide)] at H; exact H
                clear H
                have H := H1
                clear H1
                by_cases c88 : a0_2 = 0
                ·rw [if_pos c88] at H
                 have c88b0 : (a0_2 == 0) = true := beq_iff_eq.mpr c88
                 have c88b1 : (a0_2 != 0) = false := bne_eq_false_iff_eq.mpr c88
                 clear c88
                 obtain rfl := Option.some.inj H
                 have hnb89 := NB157_158.out
                 have hnc89 := NB158_157.out
                 have hcz90_0 : wc.cell? ⟨gb157, 0, none⟩ = some (.int .i64 a0_0) := (blk_cell BK157.out 0).trans rfl
                 have hcz90_1 : wc.cell? ⟨gb157, 1, none⟩ = some (.int .i64 a0_1) := (blk_cell BK157.out 1).trans rfl
                 have hcz90_2 : wc.cell? ⟨gb157, 2, none⟩ = some (.int .i64 a0_2) := (blk_cell BK157.out 2).trans rfl
                 have hcz90_3 : wc.cell? ⟨gb157, 3, none⟩ = some (.slice A0_3 l0_3.length c0_3) := (blk_cell BK157.out 3).trans rfl
                 have hfz90_0 := blk_frozen BK157.out 0
                 have hfz90_1 := blk_frozen BK157.out 1
                 have hfz90_2 := blk_frozen BK157.out 2
                 have hfz90_3 := blk_frozen BK157.out 3
                 go_wp2_with (first | (go_at_call 53; (with_reducible refine (impl_characters.calls kj38 _ _ l0_3 false _ ?side1 ?side2 A84.out).mono ?_); (case side1 => repeat (first | exact (Kd.C_below HR0_3.out HB.out) | (with_reducible refine Kd.C_alloc ?_ _) | (with_reducible refine Kd.C_drewN ?_ _) | (with_reducible refine Kd.C_drew ?_))); (case side2 => exact HC0_3.out); rintro e w' ⟨rfl, ⟨nd, rfl⟩⟩; (try first | exact ⟨rfl, _, World.drewN_drewN _ _ _⟩ | exact ⟨rfl, _, Eq.trans (World.drewN_drewN _ _ _) (congrArg (World.drewN _) (Nat.add_assoc _ _ _))⟩)))
                 repeat (go_quiet (first | (go_at_call 53; (with_reducible refine (impl_characters.calls kj38 _ _ l0_3 false _ ?side1 ?side2 A84.out).mono ?_); (case side1 => repeat (first | exact (Kd.C_below HR0_3.out HB.out) | (with_reducible refine Kd.C_alloc ?_ _) | (with_reducible refine Kd.C_drewN ?_ _) | (with_reducible refine Kd.C_drew ?_))); (case side2 => exact HC0_3.out); rintro e w' ⟨rfl, ⟨nd, rfl⟩⟩; (try first | exact ⟨rfl, _, World.drewN_drewN _ _ _⟩ | exact ⟨rfl, _, Eq.trans (World.drewN_drewN _ _ _) (congrArg (World.drewN _) (Nat.add_assoc _ _ _))⟩))); try go_wp2_with (first | (go_at_call 53; (with_reducible refine (impl_characters.calls kj38 _ _ l0_3 false _ ?side1 ?side2 A84.out).mono ?_); (case side1 => repeat (first | exact (Kd.C_below HR0_3.out HB.out) | (with_reducible refine Kd.C_alloc ?_ _) | (with_reducible refine Kd.C_drewN ?_ _) | (with_reducible refine Kd.C_drew ?_))); (case side2 => exact HC0_3.out); rintro e w' ⟨rfl, ⟨nd, rfl⟩⟩; (try first | exact ⟨rfl, _, World.drewN_drewN _ _ _⟩ | exact ⟨rfl, _, Eq.trans (World.drewN_drewN _ _ _) (congrArg (World.drewN _) (Nat.add_assoc _ _ _))⟩))))
                 go_ret
                 exact ⟨by first | rfl | (simp [errW_none, errW_some] <;> rfl) | (simp [*, errW_none, errW_some] <;> rfl), by repeat (first | (with_reducible first | exact HB.out | apply below_alloc | apply pw_below_drewN | apply below_drew1 | refine below_set ?_ GE157.out | refine below_set ?_ GE158.out) | exact HB.out)⟩
                ·rw [if_neg c88] at H
                 have c88b0 : (a0_2 == 0) = false := beq_eq_false_iff_ne.mpr c88
                 have c88b1 : (a0_2 != 0) = true := bne_iff_ne.mpr c88
                 obtain rfl := Option.some.inj H
                 have hnb91 := NB157_158.out
                 have hnc91 := NB158_157.out
                 have hcz92_0 : wc.cell? ⟨gb157, 0, none⟩ = some (.int .i64 a0_0) := (blk_cell BK157.out 0).trans rfl
                 have hcz92_1 : wc.cell? ⟨gb157, 1, none⟩ = some (.int .i64 a0_1) := (blk_cell BK157.out 1).trans rfl
                 have hcz92_2 : wc.cell? ⟨gb157, 2, none⟩ = some (.int .i64 a0_2) := (blk_cell BK157.out 2).trans rfl
                 have hcz92_3 : wc.cell? ⟨gb157, 3, none⟩ = some (.slice A0_3 l0_3.length c0_3) := (blk_cell BK157.out 3).trans rfl
                 have hfz92_0 := blk_frozen BK157.out 0
                 have hfz92_1 := blk_frozen BK157.out 1
                 have hfz92_2 := blk_frozen BK157.out 2
                 have hfz92_3 := blk_frozen BK157.out 3
                 go_wp2_with (first | (go_at_call 53; (with_reducible refine (impl_characters.calls kj38 _ _ l0_3 false _ ?side1 ?side2 A84.out).mono ?_); (case side1 => repeat (first | exact (Kd.C_below HR0_3.out HB.out) | (with_reducible refine Kd.C_alloc ?_ _) | (with_reducible refine Kd.C_drewN ?_ _) | (with_reducible refine Kd.C_drew ?_))); (case side2 => exact HC0_3.out); rintro e w' ⟨rfl, ⟨nd, rfl⟩⟩; (try first | exact ⟨rfl, _, World.drewN_drewN _ _ _⟩ | exact ⟨rfl, _, Eq.trans (World.drewN_drewN _ _ _) (congrArg (World.drewN _) (Nat.add_assoc _ _ _))⟩)))
                 repeat (go_quiet (first | (go_at_call 53; (with_reducible refine (impl_characters.calls kj38 _ _ l0_3 false _ ?side1 ?side2 A84.out).mono ?_); (case side1 => repeat (first | exact (Kd.C_below HR0_3.out HB.out) | (with_reducible refine Kd.C_alloc ?_ _) | (with_reducible refine Kd.C_drewN ?_ _) | (with_reducible refine Kd.C_drew ?_))); (case side2 => exact HC0_3.out); rintro e w' ⟨rfl, ⟨nd, rfl⟩⟩; (try first | exact ⟨rfl, _, World.drewN_drewN _ _ _⟩ | exact ⟨rfl, _, Eq.trans (World.drewN_drewN _ _ _) (congrArg (World.drewN _) (Nat.add_assoc _ _ _))⟩))); try go_wp2_with (first | (go_at_call 53; (with_reducible refine (impl_characters.calls kj38 _ _ l0_3 false _ ?side1 ?side2 A84.out).mono ?_); (case side1 => repeat (first | exact (Kd.C_below HR0_3.out HB.out) | (with_reducible refine Kd.C_alloc ?_ _) | (with_reducible refine Kd.C_drewN ?_ _) | (with_reducible refine Kd.C_drew ?_))); (case side2 => exact HC0_3.out); rintro e w' ⟨rfl, ⟨nd, rfl⟩⟩; (try first | exact ⟨rfl, _, World.drewN_drewN _ _ _⟩ | exact ⟨rfl, _, Eq.trans (World.drewN_drewN _ _ _) (congrArg (World.drewN _) (Nat.add_assoc _ _ _))⟩))))
                 go_ret
                 exact ⟨by first | rfl | (simp [errW_none, errW_some] <;> rfl) | (simp [*, errW_none, errW_some] <;> rfl), by repeat (first | (with_reducible first | exact HB.out | apply below_alloc | apply pw_below_drewN | apply below_drew1 | refine below_set ?_ GE157.out | refine below_set ?_ GE158.out) | exact HB.out)⟩
              ·rw [if_neg c83] at H
               have c83b0 : ((l0_3.length : Int) == 1) = false := beq_eq_false_iff_ne.mpr c83
               have c83b1 : ((l0_3.length : Int) != 1) = true := bne_iff_ne.mpr c83
               by_cases c93 : a0_2 = 0
               ·rw [if_pos c93] at H
                have c93b0 : (a0_2 == 0) = true := beq_iff_eq.mpr c93
                have c93b1 : (a0_2 != 0) = false := bne_eq_false_iff_eq.mpr c93
                clear c93
                replace H := Option.bind_eq_some_iff.mp H
                obtain ⟨t166, A940, H⟩ := H
                replace H : (some t166) = some r := H
                have A94 := Aside0.mk A940
                clear A940
                obtain rfl := Option.some.inj H
                have hnb95 := NB157_158.out
                have hnc95 := NB158_157.out
                have hcz96_0 : wc.cell? ⟨gb157, 0, none⟩ = some (.int .i64 a0_0) := (blk_cell BK157.out 0).trans rfl
                have hcz96_1 : wc.cell? ⟨gb157, 1, none⟩ = some (.int .i64 a0_1) := (blk_cell BK157.out 1).trans rfl
                have hcz96_2 : wc.cell? ⟨gb157, 2, none⟩ = some (.int .i64 a0_2) := (blk_cell BK157.out 2).trans rfl
                have hcz96_3 : wc.cell? ⟨gb157, 3, none⟩ = some (.slice A0_3 l0_3.length c0_3) := (blk_cell BK157.out 3).trans rfl
                have hfz96_0 := blk_frozen BK157.out 0
                have hfz96_1 := blk_frozen BK157.out 1
                have hfz96_2 := blk_frozen BK157.out 2
                have hfz96_3 := blk_frozen BK157.out 3
                go_wp2_with (first | (go_at_call 54; (with_reducible refine (impl_pairs.calls kj38 _ _ l0_3 t166 _ ?side1 ?side2 A94.out).mono ?_); (case side1 => repeat (first | exact (Kd.C_below HR0_3.out HB.out) | (with_reducible refine Kd.C_alloc ?_ _) | (with_reducible refine Kd.C_drewN ?_ _) | (with_reducible refine Kd.C_drew ?_))); (case side2 => exact HC0_3.out); rintro e w' ⟨rfl, ⟨nd, rfl⟩⟩; (try first | exact ⟨rfl, _, World.drewN_drewN _ _ _⟩ | exact ⟨rfl, _, Eq.trans (World.drewN_drewN _ _ _) (congrArg (World.drewN _) (Nat.add_assoc _ _ _))⟩)))
                repeat (go_quiet (first | (go_at_call 54; (with_reducible refine (impl_pairs.calls kj38 _ _ l0_3 t166 _ ?side1 ?side2 A94.out).mono ?_); (case side1 => repeat (first | exact (Kd.C_below HR0_3.out HB.out) | (with_reducible refine Kd.C_alloc ?_ _) | (with_reducible refine Kd.C_drewN ?_ _) | (with_reducible refine Kd.C_drew ?_))); (case side2 => exact HC0_3.out); rintro e w' ⟨rfl, ⟨nd, rfl⟩⟩; (try first | exact ⟨rfl, _, World.drewN_drewN _ _ _⟩ | exact ⟨rfl, _, Eq.trans (World.drewN_drewN _ _ _) (congrArg (World.drewN _) (Nat.add_assoc _ _ _))⟩))); try go_wp2_with (first | (go_at_call 54; (with_reducible refine (impl_pairs.calls kj38 _ _ l0_3 t166 _ ?side1 ?side2 A94.out).mono ?_); (case side1 => repeat (first | exact (Kd.C_below HR0_3.out HB.out) | (with_reducible refine Kd.C_alloc ?_ _) | (with_reducible refine Kd.C_drewN ?_ _) | (with_reducible refine Kd.C_drew ?_))); (case side2 => exact HC0_3.out); rintro e w' ⟨rfl, ⟨nd, rfl⟩⟩; (try first | exact ⟨rfl, _, World.drewN_drewN _ _ _⟩ | exact ⟨rfl, _, Eq.trans (World.drewN_drewN _ _ _) (congrArg (World.drewN _) (Nat.add_assoc _ _ _))⟩))))
                go_ret
                exact ⟨by first | rfl | (simp [errW_none, errW_some] <;> rfl) | (simp [*, errW_none, errW_some] <;> rfl), by repeat (first | (with_reducible first | exact HB.out | apply below_alloc | apply pw_below_drewN | apply below_drew1 | refine below_set ?_ GE157.out | refine below_set ?_ GE158.out) | exact HB.out)⟩
               ·rw [if_neg c93] at H
                have c93b0 : (a0_2 == 0) = false := beq_eq_false_iff_ne.mpr c93
                have c93b1 : (a0_2 != 0) = true := bne_iff_ne.mpr c93
                obtain rfl := Option.some.inj H
                have hnb97 := NB157_158.out
                have hnc97 := NB158_157.out
                have hcz98_0 : wc.cell? ⟨gb157, 0, none⟩ = some (.int .i64 a0_0) := (blk_cell BK157.out 0).trans rfl
                have hcz98_1 : wc.cell? ⟨gb157, 1, none⟩ = some (.int .i64 a0_1) := (blk_cell BK157.out 1).trans rfl
                have hcz98_2 : wc.cell? ⟨gb157, 2, none⟩ = some (.int .i64 a0_2) := (blk_cell BK157.out 2).trans rfl
                have hcz98_3 : wc.cell? ⟨gb157, 3, none⟩ = some (.slice A0_3 l0_3.length c0_3) := (blk_cell BK157.out 3).trans rfl
                have hfz98_0 := blk_frozen BK157.out 0
                have hfz98_1 := blk_frozen BK157.out 1
                have hfz98_2 := blk_frozen BK157.out 2
                have hfz98_3 := blk_frozen BK157.out 3
                go_wp2
                repeat (go_quiet (fail); try go_wp2)
                go_ret
                exact ⟨by first | rfl | (simp [errW_none, errW_some] <;> rfl) | (simp [*, errW_none, errW_some] <;> rfl), by repeat (first | (with_reducible first | exact HB.out | apply below_alloc | apply pw_below_drewN | apply below_drew1 | refine below_set ?_ GE157.out | refine below_set ?_ GE158.out) | exact HB.out)⟩
             ·rw [if_neg c82] at H
              have c82b0 : (a0_2 == 1) = false := beq_eq_false_iff_ne.mpr c82
              have c82b1 : (a0_2 != 1) = true := bne_iff_ne.mpr c82
              by_cases c99 : a0_2 = 0
              ·rw [if_pos c99] at H
               have c99b0 : (a0_2 == 0) = true := beq_iff_eq.mpr c99
               have c99b1 : (a0_2 != 0) = false := bne_eq_false_iff_eq.mpr c99
               clear c99
               by_cases c100 : (l0_3.length : Int) = 1
               ·rw [if_pos c100] at H
                have c100b0 : ((l0_3.length : Int) == 1) = true := beq_iff_eq.mpr c100
                have c100b1 : ((l0_3.length : Int) != 1) = false := bne_eq_false_iff_eq.mpr c100
                clear c100
                obtain rfl := Option.some.inj H
                have hnb101 := NB157_158.out
                have hnc101 := NB158_157.out
                have hcz102_0 : wc.cell? ⟨gb157, 0, none⟩ = some (.int .i64 a0_0) := (blk_cell BK157.out 0).trans rfl
                have hcz102_1 : wc.cell? ⟨gb157, 1, none⟩ = some (.int .i64 a0_1) := (blk_cell BK157.out 1).trans rfl
                have hcz102_2 : wc.cell? ⟨gb157, 2, none⟩ = some (.int .i64 a0_2) := (blk_cell BK157.out 2).trans rfl
                have hcz102_3 : wc.cell? ⟨gb157, 3, none⟩ = some (.slice A0_3 l0_3.length c0_3) := (blk_cell BK157.out 3).trans rfl
                have hfz102_0 := blk_frozen BK157.out 0
                have hfz102_1 := blk_frozen BK157.out 1
                have hfz102_2 := blk_frozen BK157.out 2
                have hfz102_3 := blk_frozen BK157.out 3
                go_wp2
                repeat (go_quiet (fail); try go_wp2)
                go_ret
                exact ⟨by first | rfl | (simp [errW_none, errW_some] <;> rfl) | (simp [*, errW_none, errW_some] <;> rfl), by repeat (first | (with_reducible first | exact HB.out | apply below_alloc | apply pw_below_drewN | apply below_drew1 | refine below_set ?_ GE157.out | refine below_set ?_ GE158.out) | exact HB.out)⟩
               ·rw [if_neg c100] at H
                have c100b0 : ((l0_3.length : Int) == 1) = false := beq_eq_false_iff_ne.mpr c100
                have c100b1 : ((l0_3.length : Int) != 1) = true := bne_iff_ne.mpr c100
                replace H := Option.bind_eq_some_iff.mp H
                obtain ⟨t167, A1030, H⟩ := H
                replace H : (some t167) = some r := H
                have A103 := Aside0.mk A1030
                clear A1030
                obtain rfl := Option.some.inj H
                have hnb104 := NB157_158.out
                have hnc104 := NB158_157.out
                have hcz105_0 : wc.cell? ⟨gb157, 0, none⟩ = some (.int .i64 a0_0) := (blk_cell BK157.out 0).trans rfl
                have hcz105_1 : wc.cell? ⟨gb157, 1, none⟩ = some (.int .i64 a0_1) := (blk_cell BK157.out 1).trans rfl
                have hcz105_2 : wc.cell? ⟨gb157, 2, none⟩ = some (.int .i64 a0_2) := (blk_cell BK157.out 2).trans rfl
                have hcz105_3 : wc.cell? ⟨gb157, 3, none⟩ = some (.slice A0_3 l0_3.length c0_3) := (blk_cell BK157.out 3).trans rfl
                have hfz105_0 := blk_frozen BK157.out 0
                have hfz105_1 := blk_frozen BK157.out 1
                have hfz105_2 := blk_frozen BK157.out 2
                have hfz105_3 := blk_frozen BK157.out 3
                go_wp2_with (first | (go_at_call 54; (with_reducible refine (impl_pairs.calls kj38 _ _ l0_3 t167 _ ?side1 ?side2 A103.out).mono ?_); (case side1 => repeat (first | exact (Kd.C_below HR0_3.out HB.out) | (with_reducible refine Kd.C_alloc ?_ _) | (with_reducible refine Kd.C_drewN ?_ _) | (with_reducible refine Kd.C_drew ?_))); (case side2 => exact HC0_3.out); rintro e w' ⟨rfl, ⟨nd, rfl⟩⟩; (try first | exact ⟨rfl, _, World.drewN_drewN _ _ _⟩ | exact ⟨rfl, _, Eq.trans (World.drewN_drewN _ _ _) (congrArg (World.drewN _) (Nat.add_assoc _ _ _))⟩)))
                repeat (go_quiet (first | (go_at_call 54; (with_reducible refine (impl_pairs.calls kj38 _ _ l0_3 t167 _ ?side1 ?side2 A103.out).mono ?_); (case side1 => repeat (first | exact (Kd.C_below HR0_3.out HB.out) | (with_reducible refine Kd.C_alloc ?_ _) | (with_reducible refine Kd.C_drewN ?_ _) | (with_reducible refine Kd.C_drew ?_))); (case side2 => exact HC0_3.out); rintro e w' ⟨rfl, ⟨nd, rfl⟩⟩; (try first | exact ⟨rfl, _, World.drewN_drewN _ _ _⟩ | exact ⟨rfl, _, Eq.trans (World.drewN_drewN _ _ _) (congrArg (World.drewN _) (Nat.add_assoc _ _ _))⟩))); try go_wp2_with (first | (go_at_call 54; (with_reducible refine (impl_pairs.calls kj38 _ _ l0_3 t167 _ ?side1 ?side2 A103.out).mono ?_); (case side1 => repeat (first | exact (Kd.C_below HR0_3.out HB.out) | (with_reducible refine Kd.C_alloc ?_ _) | (with_reducible refine Kd.C_drewN ?_ _) | (with_reducible refine Kd.C_drew ?_))); (case side2 => exact HC0_3.out); rintro e w' ⟨rfl, ⟨nd, rfl⟩⟩; (try first | exact ⟨rfl, _, World.drewN_drewN _ _ _⟩ | exact ⟨rfl, _, Eq.trans (World.drewN_drewN _ _ _) (congrArg (World.drewN _) (Nat.add_assoc _ _ _))⟩))))
                go_ret
                exact ⟨by first | rfl | (simp [errW_none, errW_some] <;> rfl) | (simp [*, errW_none, errW_some] <;> rfl), by repeat (first | (with_reducible first | exact HB.out | apply below_alloc | apply pw_below_drewN | apply below_drew1 | refine below_set ?_ GE157.out | refine below_set ?_ GE158.out) | exact HB.out)⟩
              ·rw [if_neg c99] at H
               have c99b0 : (a0_2 == 0) = false := beq_eq_false_iff_ne.mpr c99
               have c99b1 : (a0_2 != 0) = true := bne_iff_ne.mpr c99
               obtain rfl := Option.some.inj H
               have hnb106 := NB157_158.out
               have hnc106 := NB158_157.out
               have hcz107_0 : wc.cell? ⟨gb157, 0, none⟩ = some (.int .i64 a0_0) := (blk_cell BK157.out 0).trans rfl
               have hcz107_1 : wc.cell? ⟨gb157, 1, none⟩ = some (.int .i64 a0_1) := (blk_cell BK157.out 1).trans rfl
               have hcz107_2 : wc.cell? ⟨gb157, 2, none⟩ = some (.int .i64 a0_2) := (blk_cell BK157.out 2).trans rfl
               have hcz107_3 : wc.cell? ⟨gb157, 3, none⟩ = some (.slice A0_3 l0_3.length c0_3) := (blk_cell BK157.out 3).trans rfl
               have hfz107_0 := blk_frozen BK157.out 0
               have hfz107_1 := blk_frozen BK157.out 1
               have hfz107_2 := blk_frozen BK157.out 2
               have hfz107_3 := blk_frozen BK157.out 3
               go_wp2
               repeat (go_quiet (fail); try go_wp2)
               go_ret
               exact ⟨by first | rfl | (simp [errW_none, errW_some] <;> rfl) | (simp [*, errW_none, errW_some] <;> rfl), by repeat (first | (with_reducible first | exact HB.out | apply below_alloc | apply pw_below_drewN | apply below_drew1 | refine below_set ?_ GE157.out | refine below_set ?_ GE158.out) | exact HB.out)⟩
            ·rw [if_neg c81] at H
             have c81b0 : (a0_0 == 7) = false := beq_eq_false_iff_ne.mpr c81
             have c81b1 : (a0_0 != 7) = true := bne_iff_ne.mpr c81
             by_cases c108 : a0_0 = 8
             ·rw [if_pos c108] at H
              have c108b0 : (a0_0 == 8) = true := beq_iff_eq.mpr c108
              have c108b1 : (a0_0 != 8) = false := bne_eq_false_iff_eq.mpr c108
              clear c108
              by_cases c109 : (l0_3.length : Int) = 1
              ·rw [if_pos c109] at H
               have c109b0 : ((l0_3.length : Int) == 1) = true := beq_iff_eq.mpr c109
               have c109b1 : ((l0_3.length : Int) != 1) = false := bne_eq_false_iff_eq.mpr c109
               clear c109
               replace H := Option.bind_eq_some_iff.mp H
               obtain ⟨t168, A1100, H⟩ := H
               replace H : (some t168) = some r := H
               have A110 := Aside0.mk A1100
               clear A1100
               obtain rfl := Option.some.inj H
               have hnb111 := NB157_158.out
               have hnc111 := NB158_157.out
               have hcz112_0 : wc.cell? ⟨gb157, 0, none⟩ = some (.int .i64 a0_0) := (blk_cell BK157.out 0).trans rfl
               have hcz112_1 : wc.cell? ⟨gb157, 1, none⟩ = some (.int .i64 a0_1) := (blk_cell BK157.out 1).trans rfl
               have hcz112_2 : wc.cell? ⟨gb157, 2, none⟩ = some (.int .i64 a0_2) := (blk_cell BK157.out 2).trans rfl
               have hcz112_3 : wc.cell? ⟨gb157, 3, none⟩ = some (.slice A0_3 l0_3.length c0_3) := (blk_cell BK157.out 3).trans rfl
               have hfz112_0 := blk_frozen BK157.out 0
               have hfz112_1 := blk_frozen BK157.out 1
               have hfz112_2 := blk_frozen BK157.out 2
               have hfz112_3 := blk_frozen BK157.out 3
               go_wp2_with (first | (go_at_call 53; (with_reducible refine (impl_characters.calls kj38 _ _ l0_3 t168 _ ?side1 ?side2 A110.out).mono ?_); (case side1 => repeat (first | exact (Kd.C_below HR0_3.out HB.out) | (with_reducible refine Kd.C_alloc ?_ _) | (with_reducible refine Kd.C_drewN ?_ _) | (with_reducible refine Kd.C_drew ?_))); (case side2 => exact HC0_3.out); rintro e w' ⟨rfl, ⟨nd, rfl⟩⟩; (try first | exact ⟨rfl, _, World.drewN_drewN _ _ _⟩ | exact ⟨rfl, _, Eq.trans (World.drewN_drewN _ _ _) (congrArg (World.drewN _) (Nat.add_assoc _ _ _))⟩)))
               repeat (go_quiet (first | (go_at_call 53; (with_reducible refine (impl_characters.calls kj38 _ _ l0_3 t168 _ ?side1 ?side2 A110.out).mono ?_); (case side1 => repeat (first | exact (Kd.C_below HR0_3.out HB.out) | (with_reducible refine Kd.C_alloc ?_ _) | (with_reducible refine Kd.C_drewN ?_ _) | (with_reducible refine Kd.C_drew ?_))); (case side2 => exact HC0_3.out); rintro e w' ⟨rfl, ⟨nd, rfl⟩⟩; (try first | exact ⟨rfl, _, World.drewN_drewN _ _ _⟩ | exact ⟨rfl, _, Eq.trans (World.drewN_drewN _ _ _) (congrArg (World.drewN _) (Nat.add_assoc _ _ _))⟩))); try go_wp2_with (first | (go_at_call 53; (with_reducible refine (impl_characters.calls kj38 _ _ l0_3 t168 _ ?side1 ?side2 A110.out).mono ?_); (case side1 => repeat (first | exact (Kd.C_below HR0_3.out HB.out) | (with_reducible refine Kd.C_alloc ?_ _) | (with_reducible refine Kd.C_drewN ?_ _) | (with_reducible refine Kd.C_drew ?_))); (case side2 => exact HC0_3.out); rintro e w' ⟨rfl, ⟨nd, rfl⟩⟩; (try first | exact ⟨rfl, _, World.drewN_drewN _ _ _⟩ | exact ⟨rfl, _, Eq.trans (World.drewN_drewN _ _ _) (congrArg (World.drewN _) (Nat.add_assoc _ _ _))⟩))))
               go_ret
               exact ⟨by first | rfl | (simp [errW_none, errW_some] <;> rfl) | (simp [*, errW_none, errW_some] <;> rfl), by repeat (first | (with_reducible first | exact HB.out | apply below_alloc | apply pw_below_drewN | apply below_drew1 | refine below_set ?_ GE157.out | refine below_set ?_ GE158.out) | exact HB.out)⟩
              ·rw [if_neg c109] at H
               have c109b0 : ((l0_3.length : Int) == 1) = false := beq_eq_false_iff_ne.mpr c109
               have c109b1 : ((l0_3.length : Int) != 1) = true := bne_iff_ne.mpr c109
               by_cases c113 : (l0_3.length : Int) = 2
               ·rw [if_pos c113] at H
                have c113b0 : ((l0_3.length : Int) == 2) = true := beq_iff_eq.mpr c113
                have c113b1 : ((l0_3.length : Int) != 2) = false := bne_eq_false_iff_eq.mpr c113
                clear c113
                by_cases c114 : 0 < (l0_3.length : Int)
                ·rw [if_pos c114] at H
                 have c114b0 : decide (0 < (l0_3.length : Int)) = true := decide_eq_true c114
                 have c114b1 : decide (0 < l0_3.length) = true := decide_eq_true (by omega)
                 clear c114
                 by_cases c115 : 1 < (l0_3.length : Int)
                 ·rw [if_pos c115] at H
                  have c115b0 : decide (1 < (l0_3.length : Int)) = true := decide_eq_true c115
                  have c115b1 : decide (1 < l0_3.length) = true := decide_eq_true (by omega)
                  clear c115
                  by_cases c116 : (rd l0_3 0) = (rd l0_3 1)
                  ·rw [if_pos c116] at H
                   have c116b0 : ((rd l0_3 0) == (rd l0_3 1)) = true := beq_iff_eq.mpr c116
                   have c116b1 : ((rd l0_3 0) != (rd l0_3 1)) = false := bne_eq_false_iff_eq.mpr c116
                   clear c116
                   replace H := Option.bind_eq_some_iff.mp H
                   obtain ⟨t171, A1170, H⟩ := H
                   replace H : (some t171) = some r := H
                   have A117 := Aside0.mk A1170
                   clear A1170
                   obtain rfl := Option.some.inj H
                   have hnb118 := NB157_158.out
                   have hnc118 := NB158_157.out
                   have hcz119_0 : wc.cell? ⟨gb157, 0, none⟩ = some (.int .i64 a0_0) := (blk_cell BK157.out 0).trans rfl
                   have hcz119_1 : wc.cell? ⟨gb157, 1, none⟩ = some (.int .i64 a0_1) := (blk_cell BK157.out 1).trans rfl
                   have hcz119_2 : wc.cell? ⟨gb157, 2, none⟩ = some (.int .i64 a0_2) := (blk_cell BK157.out 2).trans rfl
                   have hcz119_3 : wc.cell? ⟨gb157, 3, none⟩ = some (.slice A0_3 l0_3.length c0_3) := (blk_cell BK157.out 3).trans rfl
                   have hfz119_0 := blk_frozen BK157.out 0
                   have hfz119_1 := blk_frozen BK157.out 1
                   have hfz119_2 := blk_frozen BK157.out 2
                   have hfz119_3 := blk_frozen BK157.out 3
                   have p169 : 0 ≤ (0 : Int) := (by omega)
                   have q169 : 0 < (l0_3.length : Int) := of_decide_eq_true (by first | (with_reducible assumption) | assumption)
                   obtain ⟨ad169, e169, hx169_0⟩ := Kd.at_int HR0_3.out 0 p169 q169
                   cases e169
                   have qi169 : (0 < l0_3.length) = True := eq_true (by omega)
                   (try rw [show ((0 : Int)).toNat = 0 from rfl] at hx169_0)
                   (try rw [Addr.add_zero'] at hx169_0)
                   replace hx169_0 := (HB.out.cell (World.block_lt_of_cell? w _ hx169_0)).trans hx169_0
                   replace p169 := eq_true p169
                   replace q169 := eq_true q169
                   have p170 : 0 ≤ (1 : Int) := (by omega)
                   have q170 : 1 < (l0_3.length : Int) := of_decide_eq_true (by first | (with_reducible assumption) | assumption)
                   obtain ⟨ad170, e170, hx170_0⟩ := Kd.at_int HR0_3.out 1 p170 q170
                   obtain rfl : ad169 = ad170 := (by injection e170)
                   (try simp only [show (1 : Int).toNat = 1 from rfl, Nat.reduceMul, Nat.reduceEqDiff, Go.Addr.add, ↓reduceIte] at hx170_0)
                   have qi170 : (1 < l0_3.length) = True := eq_true (by omega)
                   (try rw [show ((1 : Int)).toNat = 1 from rfl] at hx170_0)
                   replace hx170_0 := (HB.out.cell (World.block_lt_of_cell? w _ hx170_0)).trans hx170_0
                   replace p170 := eq_true p170
                   replace q170 := eq_true q170
                   go_wp2_with (first | (go_at_call 53; (with_reducible refine (impl_characters.calls kj38 _ _ l0_3 t171 _ ?side1 ?side2 A117.out).mono ?_); (case side1 => repeat (first | exact (Kd.C_below HR0_3.out HB.out) | (with_reducible refine Kd.C_alloc ?_ _) | (with_reducible refine Kd.C_drewN ?_ _) | (with_reducible refine Kd.C_drew ?_))); (case side2 => exact HC0_3.out); rintro e w' ⟨rfl, ⟨nd, rfl⟩⟩; (try first | exact ⟨rfl, _, World.drewN_drewN _ _ _⟩ | exact ⟨rfl, _, Eq.trans (World.drewN_drewN _ _ _) (congrArg (World.drewN _) (Nat.add_assoc _ _ _))⟩)))
                   repeat (go_quiet (first | (go_at_call 53; (with_reducible refine (impl_characters.calls kj38 _ _ l0_3 t171 _ ?side1 ?side2 A117.out).mono ?_); (case side1 => repeat (first | exact (Kd.C_below HR0_3.out HB.out) | (with_reducible refine Kd.C_alloc ?_ _) | (with_reducible refine Kd.C_drewN ?_ _) | (with_reducible refine Kd.C_drew ?_))); (case side2 => exact HC0_3.out); rintro e w' ⟨rfl, ⟨nd, rfl⟩⟩; (try first | exact ⟨rfl, _, World.drewN_drewN _ _ _⟩ | exact ⟨rfl, _, Eq.trans (World.drewN_drewN _ _ _) (congrArg (World.drewN _) (Nat.add_assoc _ _ _))⟩))); try go_wp2_with (first | (go_at_call 53; (with_reducible refine (impl_characters.calls kj38 _ _ l0_3 t171 _ ?side1 ?side2 A117.out).mono ?_); (case side1 => repeat (first | exact (Kd.C_below HR0_3.out HB.out) | (with_reducible refine Kd.C_alloc ?_ _) | (with_reducible refine Kd.C_drewN ?_ _) | (with_reducible refine Kd.C_drew ?_))); (case side2 => exact HC0_3.out); rintro e w' ⟨rfl, ⟨nd, rfl⟩⟩; (try first | exact ⟨rfl, _, World.drewN_drewN _ _ _⟩ | exact ⟨rfl, _, Eq.trans (World.drewN_drewN _ _ _) (congrArg (World.drewN _) (Nat.add_assoc _ _ _))⟩))))
                   go_ret
                   exact ⟨by first | rfl | (simp [errW_none, errW_some] <;> rfl) | (simp [*, errW_none, errW_some] <;> rfl), by repeat (first | (with_reducible first | exact HB.out | apply below_alloc | apply pw_below_drewN | apply below_drew1 | refine below_set ?_ GE157.out | refine below_set ?_ GE158.out) | exact HB.out)⟩
                  ·rw [if_neg c116] at H
                   have c116b0 : ((rd l0_3 0) == (rd l0_3 1)) = false := beq_eq_false_iff_ne.mpr c116
                   have c116b1 : ((rd l0_3 0) != (rd l0_3 1)) = true := bne_iff_ne.mpr c116
                   obtain rfl := Option.some.inj H
                   have hnb120 := NB157_158.out
                   have hnc120 := NB158_157.out
                   have hcz121_0 : wc.cell? ⟨gb157, 0, none⟩ = some (.int .i64 a0_0) := (blk_cell BK157.out 0).trans rfl
                   have hcz121_1 : wc.cell? ⟨gb157, 1, none⟩ = some (.int .i64 a0_1) := (blk_cell BK157.out 1).trans rfl
                   have hcz121_2 : wc.cell? ⟨gb157, 2, none⟩ = some (.int .i64 a0_2) := (blk_cell BK157.out 2).trans rfl
                   have hcz121_3 : wc.cell? ⟨gb157, 3, none⟩ = some (.slice A0_3 l0_3.length c0_3) := (blk_cell BK157.out 3).trans rfl
                   have hfz121_0 := blk_frozen BK157.out 0
                   have hfz121_1 := blk_frozen BK157.out 1
                   have hfz121_2 := blk_frozen BK157.out 2
                   have hfz121_3 := blk_frozen BK157.out 3
                   have p169 : 0 ≤ (0 : Int) := (by omega)
                   have q169 : 0 < (l0_3.length : Int) := of_decide_eq_true (by first | (with_reducible assumption) | assumption)
                   obtain ⟨ad169, e169, hx169_0⟩ := Kd.at_int HR0_3.out 0 p169 q169
                   cases e169
                   have qi169 : (0 < l0_3.length) = True := eq_true (by omega)
                   (try rw [show ((0 : Int)).toNat = 0 from rfl] at hx169_0)
                   (try rw [Addr.add_zero'] at hx169_0)
                   replace hx169_0 := (HB.out.cell (World.block_lt_of_cell? w _ hx169_0)).trans hx169_0
                   replace p169 := eq_true p169
                   replace q169 := eq_true q169
                   have p170 : 0 ≤ (1 : Int) := (by omega)
                   have q170 : 1 < (l0_3.length : Int) := of_decide_eq_true (by first | (with_reducible assumption) | assumption)
                   obtain ⟨ad170, e170, hx170_0⟩ := Kd.at_int HR0_3.out 1 p170 q170
                   obtain rfl : ad169 = ad170 := (by injection e170)
                   (try simp only [show (1 : Int).toNat = 1 from rfl, Nat.reduceMul, Nat.reduceEqDiff, Go.Addr.add, ↓reduceIte] at hx170_0)
                   have qi170 : (1 < l0_3.length) = True := eq_true (by omega)
                   (try rw [show ((1 : Int)).toNat = 1 from rfl] at hx170_0)
                   replace hx170_0 := (HB.out.cell (World.block_lt_of_cell? w _ hx170_0)).trans hx170_0
                   replace p170 := eq_true p170
                   replace q170 := eq_true q170
                   go_wp2
                   repeat (go_quiet (fail); try go_wp2)
                   go_ret
                   exact ⟨by first | rfl | (simp [errW_none, errW_some] <;> rfl) | (simp [*, errW_none, errW_some] <;> rfl), by repeat (first | (with_reducible first | exact HB.out | apply below_alloc | apply pw_below_drewN | apply below_drew1 | refine below_set ?_ GE157.out | refine below_set ?_ GE158.out) | exact HB.out)⟩
                 ·rw [if_neg c115] at H
                  exact absurd H (by simp)
                ·rw [if_neg c114] at H
                 exact absurd H (by simp)
               ·rw [if_neg c113] at H
                have c113b0 : ((l0_3.length : Int) == 2) = false := beq_eq_false_iff_ne.mpr c113
                have c113b1 : ((l0_3.length : Int) != 2) = true := bne_iff_ne.mpr c113
                obtain rfl := Option.some.inj H
                have hnb122 := NB157_158.out
                have hnc122 := NB158_157.out
                have hcz123_0 : wc.cell? ⟨gb157, 0, none⟩ = some (.int .i64 a0_0) := (blk_cell BK157.out 0).trans rfl
                have hcz123_1 : wc.cell? ⟨gb157, 1, none⟩ = some (.int .i64 a0_1) := (blk_cell BK157.out 1).trans rfl
                have hcz123_2 : wc.cell? ⟨gb157, 2, none⟩ = some (.int .i64 a0_2) := (blk_cell BK157.out 2).trans rfl
                have hcz123_3 : wc.cell? ⟨gb157, 3, none⟩ = some (.slice A0_3 l0_3.length c0_3) := (blk_cell BK157.out 3).trans rfl
                have hfz123_0 := blk_frozen BK157.out 0
                have hfz123_1 := blk_frozen BK157.out 1
                have hfz123_2 := blk_frozen BK157.out 2
                have hfz123_3 := blk_frozen BK157.out 3
                go_wp2
                repeat (go_quiet (fail); try go_wp2)
                go_ret
                exact ⟨by first | rfl | (simp [errW_none, errW_some] <;> rfl) | (simp [*, errW_none, errW_some] <;> rfl), by repeat (first | (with_reducible first | exact HB.out | apply below_alloc | apply pw_below_drewN | apply below_drew1 | refine below_set ?_ GE157.out | refine below_set ?_ GE158.out) | exact HB.out)⟩
             ·rw [if_neg c108] at H
              have c108b0 : (a0_0 == 8) = false := beq_eq_false_iff_ne.mpr c108
              have c108b1 : (a0_0 != 8) = true := bne_iff_ne.mpr c108
              obtain rfl := Option.some.inj H
              go_wp2
              repeat (go_quiet (fail); try go_wp2)
              go_ret
              exact ⟨by first | rfl | (simp [errW_none, errW_some] <;> rfl) | (simp [*, errW_none, errW_some] <;> rfl), by repeat (first | (with_reducible first | exact HB.out | apply below_alloc | apply pw_below_drewN | apply below_drew1 | refine below_set ?_ GE157.out | refine below_set ?_ GE158.out) | exact HB.out)⟩
end Go.Proofs.YtmccgfjhmbioeaaDoor.PFnPgThreads
