import Derived.Test.YtmccgfjhmbioeaaDoorPFnPgThreadsy0
namespace Go.Proofs.YtmccgfjhmbioeaaDoor.PFnPgThreads
open Go.RowKit Go.Proofs.YtmccgfjhmbioeaaDoorW.PrintWords Go.Proofs.YtmccgfjhmbioeaaDoorW.PrintLast Go.Proofs.YtmccgfjhmbioeaaDoorW.PrintMore
attribute [local go_sem] max2_int min2_int max_two min_two max_three min_three max_four min_four
set_option linter.unusedVariables false
set_option linter.unusedSimpArgs false
mutual
def impl_loops.l0 : Nat → List Int → Int → Int → List (S52) → Int → Int → Option (Bool)
 | 0, _, _, _, _, _, _ => none
 | k + 1, x3, x13, x14, x175000, x175001, x175002 => if x14 < x13 then (impl_loops.l1 k x3 x14 x14 x13 x14 x175000 x175001 x175002) else (some false)
def impl_loops.l1 : Nat → List Int → Int → Int → Int → Int → List (S52) → Int → Int → Option (Bool)
 | 0, _, _, _, _, _, _, _, _ => none
 | k + 1, x3, x4, x5, x13, x14, x175000, x175001, x175002 => if 0 ≤ x5 then (if x5 < (x3.length : Int) then (if (rd x3 x5) = 0 then ((some (x3.set (x5 : Int).toNat (wrap64 (x4 + 1)) : List Int)).bind fun y179 => (if x5 < (x175000.length : Int) then (if ((rd_T52 x175000 x5).f0) = 0 then (impl_loops.j2 k y179 x4 x5 x13 x14 true x175000 x175001 x175002) else (if ((rd_T52 x175000 x5).f0) = 4 then (impl_loops.j2 k y179 x4 x5 x13 x14 true x175000 x175001 x175002) else (impl_loops.j2 k y179 x4 x5 x13 x14 (((rd_T52 x175000 x5).f0) == 5) x175000 x175001 x175002))) else (none))) else (impl_loops.l0 k x3 x13 (wrap64 (x14 + 1)) x175000 x175001 x175002)) else (none)) else (none)
def impl_loops.j2 : Nat → List Int → Int → Int → Int → Int → Bool → List (S52) → Int → Int → Option (Bool)
 | 0, _, _, _, _, _, _, _, _, _ => none
 | k + 1, x3, x4, x5, x13, x14, x43, x175000, x175001, x175002 => if x43 = true then (impl_loops.l0 k x3 x13 (wrap64 (x14 + 1)) x175000 x175001 x175002) else (if 0 ≤ x5 then (if x5 < (x175000.length : Int) then (if 0 ≤ ((rd_T52 x175000 x5).f1) then (if ((rd_T52 x175000 x5).f1) < (x3.length : Int) then (if (rd x3 ((rd_T52 x175000 x5).f1)) = (wrap64 (x4 + 1)) then (some true) else (impl_loops.l1 k x3 x4 ((rd_T52 x175000 x5).f1) x13 x14 x175000 x175001 x175002)) else (none)) else (none)) else (none)) else (none))
end
def impl_loops.f (k : Nat) (l0_0 : List (S52)) (a0_1 : Int) (a0_2 : Int) : Option (Bool) := if 0 ≤ (l0_0.length : Int) then (if ((l0_0.length : Int) : Int).toNat ≤ 35184372088832 then (impl_loops.l0 k (List.replicate ((l0_0.length : Int) : Int).toNat 0) (l0_0.length : Int) 0 l0_0 a0_1 a0_2) else (none)) else (none)
theorem impl_loops.mono_l : ∀ k, (∀ y0 y1 y2 y3 y4 y5, LeO (impl_loops.l0 k y0 y1 y2 y3 y4 y5) (impl_loops.l0 (k + 1) y0 y1 y2 y3 y4 y5)) ∧ (∀ y0 y1 y2 y3 y4 y5 y6 y7, LeO (impl_loops.l1 k y0 y1 y2 y3 y4 y5 y6 y7) (impl_loops.l1 (k + 1) y0 y1 y2 y3 y4 y5 y6 y7)) ∧ (∀ y0 y1 y2 y3 y4 y5 y6 y7 y8, LeO (impl_loops.j2 k y0 y1 y2 y3 y4 y5 y6 y7 y8) (impl_loops.j2 (k + 1) y0 y1 y2 y3 y4 y5 y6 y7 y8))
 | 0 => ⟨fun _ _ _ _ _ _ r h => by simp [impl_loops.l0] at h, fun _ _ _ _ _ _ _ _ r h => by simp [impl_loops.l1] at h, fun _ _ _ _ _ _ _ _ _ r h => by simp [impl_loops.j2] at h⟩
 | k + 1 => by
  obtain ⟨ih0, ih1, ih2⟩ := impl_loops.mono_l k
  refine ⟨?_, ?_, ?_⟩
  ·intro y0 y1 y2 y3 y4 y5
   unfold impl_loops.l0
   repeat' first
   | (with_reducible exact ih0 _ _ _ _ _ _)
   | (with_reducible exact ih1 _ _ _ _ _ _ _ _)
   | (with_reducible exact ih2 _ _ _ _ _ _ _ _ _)
   | (with_reducible exact LeO.refl _)
   | (with_reducible exact LeO.none _)
   | (with_reducible refine LeO.ite ?_ ?_)
   | (with_reducible refine LeO.bind ?_ (fun _ => ?_))
   | exact ih0 _ _ _ _ _ _
   | exact ih1 _ _ _ _ _ _ _ _
   | exact ih2 _ _ _ _ _ _ _ _ _
   | exact LeO.none _
   | refine LeO.ite ?_ ?_
   | refine LeO.bind ?_ (fun _ => ?_)
  ·intro y0 y1 y2 y3 y4 y5 y6 y7
   unfold impl_loops.l1
   repeat' first
   | (with_reducible exact ih0 _ _ _ _ _ _)
   | (with_reducible exact ih1 _ _ _ _ _ _ _ _)
   | (with_reducible exact ih2 _ _ _ _ _ _ _ _ _)
   | (with_reducible exact LeO.refl _)
   | (with_reducible exact LeO.none _)
   | (with_reducible refine LeO.ite ?_ ?_)
   | (with_reducible refine LeO.bind ?_ (fun _ => ?_))
   | exact ih0 _ _ _ _ _ _
   | exact ih1 _ _ _ _ _ _ _ _
   | exact ih2 _ _ _ _ _ _ _ _ _
   | exact LeO.none _
   | refine LeO.ite ?_ ?_
   | refine LeO.bind ?_ (fun _ => ?_)
  ·intro y0 y1 y2 y3 y4 y5 y6 y7 y8
   unfold impl_loops.j2
   repeat' first
   | (with_reducible exact ih0 _ _ _ _ _ _)
   | (with_reducible exact ih1 _ _ _ _ _ _ _ _)
   | (with_reducible exact ih2 _ _ _ _ _ _ _ _ _)
   | (with_reducible exact LeO.refl _)
   | (with_reducible exact LeO.none _)
   | (with_reducible refine LeO.ite ?_ ?_)
   | (with_reducible refine LeO.bind ?_ (fun _ => ?_))
   | exact ih0 _ _ _ _ _ _
   | exact ih1 _ _ _ _ _ _ _ _
   | exact ih2 _ _ _ _ _ _ _ _ _
   | exact LeO.none _
   | refine LeO.ite ?_ ?_
   | refine LeO.bind ?_ (fun _ => ?_)
theorem impl_loops.mono : ∀ a0 a1 a2 k, LeO (impl_loops.f k a0 a1 a2) (impl_loops.f (k + 1) a0 a1 a2) := by
 intro a0 a1 a2 k
 obtain ⟨ih0, ih1, ih2⟩ := impl_loops.mono_l k
 unfold impl_loops.f
 repeat' first
   | (with_reducible exact ih0 _ _ _ _ _ _)
   | (with_reducible exact ih1 _ _ _ _ _ _ _ _)
   | (with_reducible exact ih2 _ _ _ _ _ _ _ _ _)
   | (with_reducible exact LeO.refl _)
   | (with_reducible exact LeO.none _)
   | (with_reducible refine LeO.ite ?_ ?_)
   | (with_reducible refine LeO.bind ?_ (fun _ => ?_))
   | exact ih0 _ _ _ _ _ _
   | exact ih1 _ _ _ _ _ _ _ _
   | exact ih2 _ _ _ _ _ _ _ _ _
   | exact LeO.none _
   | refine LeO.ite ?_ ?_
   | refine LeO.bind ?_ (fun _ => ?_)
set_option maxHeartbeats 8000000 in
set_option maxRecDepth 100000 in
theorem impl_loops.calls (k : Nat) (A0_0 : Option Addr) (c0_0 : Nat) (l0_0 : List (S52)) (a0_1 : Int) (a0_2 : Int) (r : Bool) (w : World) (hr0_0 : Kd.C k52 w A0_0 l0_0.length l0_0) (hc0_0 : l0_0.length ≤ c0_0) (h : impl_loops.f k l0_0 a0_1 a0_2 = some r) :
  Calls Tryd.prog 37 #[.agg #[.slice A0_0 l0_0.length c0_0, .int .i64 a0_1, .int .i64 a0_2]] w fun e w' => e = .returned (.bool r) ∧ Below w.heap.size w w' := by
 have hu24 := Tryd.underlying24
 have HR0_0 := Aside0.mk hr0_0
 have HC0_0 := Aside0.mk hc0_0
 clear hr0_0 hc0_0
 have HB := Aside0.mk (Below.refl w.heap.size w)
 have H : (if 0 ≤ (l0_0.length : Int) then (if ((l0_0.length : Int) : Int).toNat ≤ 35184372088832 then (impl_loops.l0 k (List.replicate ((l0_0.length : Int) : Int).toNat 0) (l0_0.length : Int) 0 l0_0 a0_1 a0_2) else (none)) else (none)) = some r := h
 clear h
 by_cases c2 : 0 ≤ (l0_0.length : Int)
 ·rw [if_pos c2] at H
  have c2b0 := eq_true c2
  have c2b1 : decide (0 ≤ (l0_0.length : Int)) = true := decide_eq_true c2
  clear c2
  by_cases c3 : ((l0_0.length : Int) : Int).toNat ≤ 35184372088832
  ·rw [if_pos c3] at H
   have c3b0 := eq_true c3
   have c3b1 : decide (((l0_0.length : Int) : Int).toNat ≤ 35184372088832) = true := decide_eq_true c3
   clear c3
   obtain ⟨y175, hy175⟩ : ∃ y_ : List Int, y_ = (List.replicate ((l0_0.length : Int) : Int).toNat 0) := ⟨_, rfl⟩
   replace H : (impl_loops.l0 k y175 (l0_0.length : Int) 0 l0_0 a0_1 a0_2) = some r := by first | (rw [hy175]; with_reducible exact H) | (have H2_ := (Option.bind_some _ _).symm.trans H; rw [hy175]; with_reducible exact H2_) | (have H2_ := (Option.bind_some _ _).symm.trans H; with_reducible exact H2_) | with_reducible exact H | (rw [hy175]; exact H) | exact H
   have Ny175 := Aside0.mk hy175
   clear hy175
   have H' := Aside0.mk H
   clear H
   go_enter Tryd.func37, Tryd.ntmps37
   go_wp2_with (first | ((with_reducible refine gate_dst (N := 1) rfl ?_); refine box_event ?hg (N := 1) ?hd (cs := #[.slice A0_0 l0_0.length c0_0, .int .i64 a0_1, .int .i64 a0_2]) (t := 24) ?hr ?_; (case hd => rfl); (case hg => rfl); (case hr => first | (go_simp; done) | (go_simp; rfl)); intro gb174 hg w4 hbox hb; have n0_ := Aside0.mk (below_step (by repeat (first | (with_reducible first | exact HB.out | apply below_alloc | apply pw_below_drewN | apply below_drew1) | exact HB.out)) hb); have n1_ := Aside0.mk (hbox); have n2_ := Aside0.mk ((by rw [hg]; exact (below_size (by repeat (first | (with_reducible first | exact HB.out | apply below_alloc | apply pw_below_drewN | apply below_drew1) | exact HB.out))) : w.heap.size ≤ gb174)); have n3_ := Aside0.mk ((by rw [hg]; exact (below_size (by repeat (first | (with_reducible first | exact HB.out | apply below_alloc | apply pw_below_drewN | apply below_drew1) | exact HB.out))) : w.heap.size ≤ gb174)); clear HB; have HB := n0_; have BK174 := n1_; have GW174 := n2_; have GE174 := n3_; clear n0_ n1_ n2_ n3_; clear hb hbox hg; have hcz5_0 : w4.cell? ⟨gb174, 0, none⟩ = some (.slice A0_0 l0_0.length c0_0) := (blk_cell BK174.out 0).trans rfl; have hcz5_1 : w4.cell? ⟨gb174, 1, none⟩ = some (.int .i64 a0_1) := (blk_cell BK174.out 1).trans rfl; have hcz5_2 : w4.cell? ⟨gb174, 2, none⟩ = some (.int .i64 a0_2) := (blk_cell BK174.out 2).trans rfl; have hfz5_0 := blk_frozen BK174.out 0; have hfz5_1 := blk_frozen BK174.out 1; have hfz5_2 := blk_frozen BK174.out 2) | ((with_reducible refine gate_dst (N := 10) rfl ?_); refine Kd.R_make (Kd.int .i64) _ 3 rfl (N := 10) rfl 27 _ _ rfl (l0_0.length : Int) rfl rfl Tryd.underlying27 (.int .i64 0) 8 info3 rfl (by decide) (by omega) 0 (ok := fun _ => True) (okp := fun _ => True) rfl (fun _ hk => hk) trivial (of_decide_eq_true (by first | (with_reducible assumption) | assumption)) (Nat.le_trans (Nat.mul_le_mul_right _ (of_decide_eq_true (by first | (with_reducible assumption) | assumption) : (l0_0.length : Int).toNat ≤ 35184372088832)) (by omega)) (Below.refl _ _) (Nat.le_refl _) ?_; intro v176 w6 ho7 hb hg_ hnew_; clear hg_ hnew_; (first | rw [← Ny175.out] at ho7 | (simp only [Int.reduceToNat] at ho7; rw [← Ny175.out] at ho7)); have n0_ := Aside0.mk (Kd.R_lower ho7 (below_size (by repeat (first | (with_reducible first | exact HB.out | apply below_alloc | apply pw_below_drewN | apply below_drew1 | refine below_set ?_ GE174.out) | exact HB.out)))); have n1_ := Aside0.mk (blk_below (g := gb174) (o := .cells #[.slice A0_0 l0_0.length c0_0, .int .i64 a0_1, .int .i64 a0_2] 24 (0, 0)) (by (with_reducible repeat (first | refine blk_drewN ?_ _ | refine blk_drew ?_ | refine blk_alloc ?_ _)); exact BK174.out) hb); have n2_ := Aside0.mk (below_step (by repeat (first | (with_reducible first | exact HB.out | apply below_alloc | apply pw_below_drewN | apply below_drew1 | refine below_set ?_ GE174.out) | exact HB.out)) hb); clear BK174; clear HB; have HO177 := n0_; have BK174 := n1_; have HB := n2_; clear n0_ n1_ n2_; clear hb ho7; have hcz8_0 : w6.cell? ⟨gb174, 0, none⟩ = some (.slice A0_0 l0_0.length c0_0) := (blk_cell BK174.out 0).trans rfl; have hcz8_1 : w6.cell? ⟨gb174, 1, none⟩ = some (.int .i64 a0_1) := (blk_cell BK174.out 1).trans rfl; have hcz8_2 : w6.cell? ⟨gb174, 2, none⟩ = some (.int .i64 a0_2) := (blk_cell BK174.out 2).trans rfl; have hfz8_0 := blk_frozen BK174.out 0; have hfz8_1 := blk_frozen BK174.out 1; have hfz8_2 := blk_frozen BK174.out 2))
   go_loopg [14] k (fun kq v14 w' => ∃ (x3_1 : List Int) (x14_1 : Int), v14 = .int .i64 x14_1 ∧ Aside0 (impl_loops.l0 kq x3_1 (l0_0.length : Int) x14_1 l0_0 a0_1 a0_2 = some r) ∧ Aside0 (kq ≤ k) ∧ Aside0 (Kd.R (Kd.int .i64) 3 w' w.heap.size (fun _ => True) v176 x3_1) ∧ Aside0 (w'.heap[gb174]? = some (.cells #[(.slice A0_0 l0_0.length c0_0), .int .i64 a0_1, .int .i64 a0_2] 24 (0, 0))) ∧ Aside0 (Below w.heap.size w w'))
   case atStart => exact ⟨(y175), (0), (by first | rfl | (simp; done) | (simp [*]; done)), H', ⟨Nat.le_refl _⟩, ⟨by (with_reducible repeat (first | apply Kd.R_alloc | apply Kd.R_drewN | apply Kd.R_drew)); exact HO177.out⟩, ⟨by (with_reducible repeat (first | refine blk_drewN ?_ _ | refine blk_drew ?_ | refine blk_alloc ?_ _)); exact BK174.out⟩, ⟨by repeat (first | (with_reducible first | exact HB.out | apply below_alloc | apply pw_below_drewN | apply below_drew1 | refine below_set ?_ GE174.out) | exact HB.out)⟩⟩
   case round =>
    clear H'
    try clear c2
    try clear c2b0
    try clear c2b1
    try clear p2
    try clear c3
    try clear c3b0
    try clear c3b1
    try clear hcz5_0
    try clear hcz5_1
    try clear hcz5_2
    try clear hcz8_0
    try clear hcz8_1
    try clear hcz8_2
    try clear hfz5_0
    try clear hfz5_1
    try clear hfz5_2
    try clear hfz8_0
    try clear hfz8_1
    try clear hfz8_2
    obtain ⟨x3_1, x14_1, rfl, HA, HK1, HO_3, BK174, HB⟩ := hrel
    cases gk with
    | zero => exact absurd HA.out (by simp [impl_loops.l0])
    | succ k1 =>
     have H := HA.out
     clear HA
     simp only [impl_loops.l0] at H
     by_cases c9 : x14_1 < (l0_0.length : Int)
     ·rw [if_pos c9] at H
      have c9b0 : decide (x14_1 < (l0_0.length : Int)) = true := decide_eq_true c9
      clear c9
      have H' := Aside0.mk H
      clear H
      go_wp2
      go_loopg [5] k1 (fun kq v5 w' => ∃ (x3_2 : List Int) (x5_2 : Int), v5 = .int .i64 x5_2 ∧ Aside0 (impl_loops.l1 kq x3_2 x14_1 x5_2 (l0_0.length : Int) x14_1 l0_0 a0_1 a0_2 = some r) ∧ Aside0 (kq ≤ k1) ∧ Aside0 (Kd.R (Kd.int .i64) 3 w' w.heap.size (fun _ => True) v176 x3_2) ∧ Aside0 (w'.heap[gb174]? = some (.cells #[(.slice A0_0 l0_0.length c0_0), .int .i64 a0_1, .int .i64 a0_2] 24 (0, 0))) ∧ Aside0 (Below w.heap.size w w'))
      case atStart => exact ⟨(x3_1), (x14_1), (by first | rfl | (simp; done) | (simp [*]; done)), H', ⟨Nat.le_refl _⟩, ⟨by (with_reducible repeat (first | apply Kd.R_alloc | apply Kd.R_drewN | apply Kd.R_drew)); exact HO_3.out⟩, ⟨by (with_reducible repeat (first | refine blk_drewN ?_ _ | refine blk_drew ?_ | refine blk_alloc ?_ _)); exact BK174.out⟩, ⟨by repeat (first | (with_reducible first | exact HB.out | apply below_alloc | apply pw_below_drewN | apply below_drew1 | refine below_set ?_ GE174.out) | exact HB.out)⟩⟩
      case round =>
       clear H'
       try clear c2
       try clear c2b0
       try clear c2b1
       try clear p2
       try clear c3
       try clear c3b0
       try clear c3b1
       try clear c9
       try clear c9b0
       try clear hcz5_0
       try clear hcz5_1
       try clear hcz5_2
       try clear hcz8_0
       try clear hcz8_1
       try clear hcz8_2
       try clear hfz5_0
       try clear hfz5_1
       try clear hfz5_2
       try clear hfz8_0
       try clear hfz8_1
       try clear hfz8_2
       try clear p2
       obtain ⟨x3_2, x5_2, rfl, HA, HK2, HO_3, BK174, HB⟩ := hrel
       cases gk with
       | zero => exact absurd HA.out (by simp [impl_loops.l1])
       | succ k2 =>
        have H := HA.out
        clear HA
        simp only [impl_loops.l1] at H
        by_cases c10 : 0 ≤ x5_2
        ·rw [if_pos c10] at H
         have c10b0 : decide (0 ≤ x5_2) = true := decide_eq_true c10
         clear c10
         by_cases c11 : x5_2 < (x3_2.length : Int)
         ·rw [if_pos c11] at H
          have c11b0 : decide (x5_2 < (x3_2.length : Int)) = true := decide_eq_true c11
          clear c11
          by_cases c12 : (rd x3_2 x5_2) = 0
          ·rw [if_pos c12] at H
           have c12b0 : ((rd x3_2 x5_2) == 0) = true := beq_iff_eq.mpr c12
           have c12b1 : ((rd x3_2 x5_2) != 0) = false := bne_eq_false_iff_eq.mpr c12
           clear c12
           obtain ⟨y179, hy179⟩ : ∃ y_ : List Int, y_ = (x3_2.set (x5_2 : Int).toNat (wrap64 (x14_1 + 1))) := ⟨_, rfl⟩
           replace H : (if x5_2 < (l0_0.length : Int) then (if ((rd_T52 l0_0 x5_2).f0) = 0 then (impl_loops.j2 k2 y179 x14_1 x5_2 (l0_0.length : Int) x14_1 true l0_0 a0_1 a0_2) else (if ((rd_T52 l0_0 x5_2).f0) = 4 then (impl_loops.j2 k2 y179 x14_1 x5_2 (l0_0.length : Int) x14_1 true l0_0 a0_1 a0_2) else (impl_loops.j2 k2 y179 x14_1 x5_2 (l0_0.length : Int) x14_1 (((rd_T52 l0_0 x5_2).f0) == 5) l0_0 a0_1 a0_2))) else (none)) = some r := by first | (rw [hy179]; with_reducible exact H) | (have H2_ := (Option.bind_some _ _).symm.trans H; rw [hy179]; with_reducible exact H2_) | (have H2_ := (Option.bind_some _ _).symm.trans H; with_reducible exact H2_) | with_reducible exact H | (rw [hy179]; exact H) | exact H
           have Ny179 := Aside0.mk hy179
           clear hy179
           by_cases c14 : x5_2 < (l0_0.length : Int)
           ·rw [if_pos c14] at H
            have c14b0 : decide (x5_2 < (l0_0.length : Int)) = true := decide_eq_true c14
            clear c14
            have HC15 := Aside0.mk H
            clear H
            obtain ⟨Ao16, co16, eo16⟩ := Kd.R_slice HO_3.out
            subst eo16
            have p178 : 0 ≤ (x5_2 : Int) := of_decide_eq_true (by first | (with_reducible assumption) | assumption)
            have q178 : x5_2 < (x3_2.length : Int) := of_decide_eq_true (by first | (with_reducible assumption) | assumption)
            obtain ⟨ad178, e178, hx178_0⟩ := Kd.at_int (Kd.R_reads' HO_3.out).2.2 x5_2 p178 q178
            cases e178
            replace p178 := eq_true p178
            replace q178 := eq_true q178
            have p13 : 0 ≤ (x5_2 : Int) := of_decide_eq_true (by first | (with_reducible assumption) | assumption)
            have q13 : (x5_2 : Int) < ((x3_2.length : Int) : Int) := of_decide_eq_true (by first | (with_reducible assumption) | assumption)
            obtain ⟨go13, co13, eo13, gb13, gl13, cl13, HG13⟩ := Kd.R_form HO_3.out (by omega)
            (first | cases eo13 | (injection eo13 with ea_ en_ ec_; (first | subst ea_ | (injection ea_ with ea_; subst ea_)); subst ec_; clear en_))
            have GB13 := Aside0.mk gb13
            have GG13 := Aside0.mk HG13
            clear gb13 gl13 HG13
            (first | simp only [add_plain] at hx178_0 | skip)
            obtain ⟨hx13_0, hf13_0⟩ := Kd.R_celln 0 HO_3.out (x5_2 : Int) p13 q13
            replace p13 := eq_true p13
            replace q13 := eq_true q13
            have HP17 := Kd.R_putg HO_3.out (x5_2 : Int) (wrap64 (x14_1 + 1))
            go_upto_region 9 with (first | ((with_reducible refine gate_store (t := 3) (p := 27) rfl ?_); refine store_event (t := 3) (p := 27) (v := ?vo_w18) (w1 := (wr.setCell ⟨go13, (x5_2 : Int).toNat, none⟩ (.int .i64 (wrap64 (x14_1 + 1))))) ?hg ?ho ?hn ?hr ?_; (case ho => rfl); (case hg => rfl); (case hn => rfl); (case hr => first | (go_simp; done) | (go_simp; rfl)); intro w18 hw; have hg : wr.grownBy w18 (some go13) := (by rw [hw]; exact HP17.2); have hp_ : Kd.R (Kd.int .i64) 3 w18 w.heap.size (fun _ => True) (.slice (some ⟨go13, 0, none⟩) x3_2.length co16) y179 := (by rw [hw, Ny179.out]; exact HP17.1); clear HP17; have n0_ := Aside0.mk (hp_); have n1_ := Aside0.mk (blk_grown (g := gb174) (o := .cells #[.slice A0_0 l0_0.length c0_0, .int .i64 a0_1, .int .i64 a0_2] 24 (0, 0)) (by (with_reducible repeat (first | refine blk_drewN ?_ _ | refine blk_drew ?_ | refine blk_alloc ?_ _)); exact BK174.out) hg (Kd.R_ne HO_3.out BK174.out (by decide))); have n2_ := Aside0.mk ((by rw [hw]; exact below_set (HB.out) GB13.out : Below w.heap.size w w18)); clear HO_3; clear BK174; clear HB; have HO_3 := n0_; have BK174 := n1_; have HB := n2_; clear n0_ n1_ n2_; clear hg hw hp_; have hcz19_0 : w18.cell? ⟨gb174, 0, none⟩ = some (.slice A0_0 l0_0.length c0_0) := (blk_cell BK174.out 0).trans rfl; have hcz19_1 : w18.cell? ⟨gb174, 1, none⟩ = some (.int .i64 a0_1) := (blk_cell BK174.out 1).trans rfl; have hcz19_2 : w18.cell? ⟨gb174, 2, none⟩ = some (.int .i64 a0_2) := (blk_cell BK174.out 2).trans rfl; have hfz19_0 := blk_frozen BK174.out 0; have hfz19_1 := blk_frozen BK174.out 1; have hfz19_2 := blk_frozen BK174.out 2; have p180 : 0 ≤ (x5_2 : Int) := of_decide_eq_true (by first | (with_reducible assumption) | assumption); have q180 : x5_2 < (l0_0.length : Int) := of_decide_eq_true (by first | (with_reducible assumption) | assumption); obtain ⟨ad180, A180_3, c180_3, e180, hx180_0, hx180_1, hx180_2, hx180_3, hl180_3, hi180_3⟩ := at_T52 HR0_0.out x5_2 p180 q180; cases e180; replace hx180_0 := (HB.out.cell (World.block_lt_of_cell? w _ hx180_0)).trans hx180_0; replace hx180_1 := (HB.out.cell (World.block_lt_of_cell? w _ hx180_1)).trans hx180_1; replace hx180_2 := (HB.out.cell (World.block_lt_of_cell? w _ hx180_2)).trans hx180_2; replace hx180_3 := (HB.out.cell (World.block_lt_of_cell? w _ hx180_3)).trans hx180_3; have HR180_3 := Aside0.mk hi180_3; have HC180_3 := Aside0.mk hl180_3; clear hi180_3 hl180_3; replace p180 := eq_true p180; replace q180 := eq_true q180))
            (try simp only [Act.put, List.setIfInBounds_toArray, List.set_cons_zero, List.set_cons_succ])
            go_cut [43] (fun v43 wc => ∃ (kq : Nat) (x43_14 : Bool), v43 = .bool x43_14 ∧ Aside0 (impl_loops.j2 kq y179 x14_1 x5_2 (l0_0.length : Int) x14_1 x43_14 l0_0 a0_1 a0_2 = some r) ∧ Aside0 (kq ≤ k2) ∧ Aside0 (Kd.R (Kd.int .i64) 3 wc w.heap.size (fun _ => True) (.slice (some ⟨go13, 0, none⟩) x3_2.length co16) y179) ∧ Aside0 (wc.heap[gb174]? = some (.cells #[(.slice (some ad180) l0_0.length c0_0), .int .i64 a0_1, .int .i64 a0_2] 24 (0, 0))) ∧ Aside0 (Below w.heap.size w wc))
            case first =>
             have H := HC15.out
             clear HC15
             by_cases c20 : ((rd_T52 l0_0 x5_2).f0) = 0
             ·rw [if_pos c20] at H
              have c20b0 : (((rd_T52 l0_0 x5_2).f0) == 0) = true := beq_iff_eq.mpr c20
              have c20b1 : (((rd_T52 l0_0 x5_2).f0) != 0) = false := bne_eq_false_iff_eq.mpr c20
              clear c20
              (first | rw [c20b0] | (simp only [i64_w, i32_w]; rw [c20b0]) | skip)
              have H' := Aside0.mk H
              clear H
              go_wp2
              go_meet
              case rel => exact ⟨_, (true), (by first | rfl | (simp; done) | (simp [*]; done)), H', ⟨by have := HK1.out; have := HK2.out; first | omega | exact Nat.le_refl _⟩, ⟨by (with_reducible repeat (first | apply Kd.R_alloc | apply Kd.R_drewN | apply Kd.R_drew)); exact HO_3.out⟩, ⟨by (with_reducible repeat (first | refine blk_drewN ?_ _ | refine blk_drew ?_ | refine blk_alloc ?_ _)); exact BK174.out⟩, ⟨by repeat (first | (with_reducible first | exact HB.out | apply below_alloc | apply pw_below_drewN | apply below_drew1 | refine below_set ?_ GE174.out) | exact HB.out)⟩⟩
             ·rw [if_neg c20] at H
              have c20b0 : (((rd_T52 l0_0 x5_2).f0) == 0) = false := beq_eq_false_iff_ne.mpr c20
              have c20b1 : (((rd_T52 l0_0 x5_2).f0) != 0) = true := bne_iff_ne.mpr c20
              (first | rw [c20b0] | (simp only [i64_w, i32_w]; rw [c20b0]) | skip)
              by_cases c21 : ((rd_T52 l0_0 x5_2).f0) = 4
              ·rw [if_pos c21] at H
               have c21b0 : (((rd_T52 l0_0 x5_2).f0) == 4) = true := beq_iff_eq.mpr c21
               have c21b1 : (((rd_T52 l0_0 x5_2).f0) != 4) = false := bne_eq_false_iff_eq.mpr c21
               clear c21
               have H' := Aside0.mk H
               clear H
               go_wp2
               go_meet
               case rel => exact ⟨_, (true), (by first | rfl | (simp; done) | (simp [*]; done)), H', ⟨by have := HK1.out; have := HK2.out; first | omega | exact Nat.le_refl _⟩, ⟨by (with_reducible repeat (first | apply Kd.R_alloc | apply Kd.R_drewN | apply Kd.R_drew)); exact HO_3.out⟩, ⟨by (with_reducible repeat (first | refine blk_drewN ?_ _ | refine blk_drew ?_ | refine blk_alloc ?_ _)); exact BK174.out⟩, ⟨by repeat (first | (with_reducible first | exact HB.out | apply below_alloc | apply pw_below_drewN | apply below_drew1 | refine below_set ?_ GE174.out) | exact HB.out)⟩⟩
              ·rw [if_neg c21] at H
               have c21b0 : (((rd_T52 l0_0 x5_2).f0) == 4) = false := beq_eq_false_iff_ne.mpr c21
               have c21b1 : (((rd_T52 l0_0 x5_2).f0) != 4) = true := bne_iff_ne.mpr c21
               have H' := Aside0.mk H
               clear H
               go_wp2
               go_meet
               case rel => exact ⟨_, ((((rd_T52 l0_0 x5_2).f0) == 5)), (by first | rfl | (simp; done) | (simp [*]; done)), H', ⟨by have := HK1.out; have := HK2.out; first | omega | exact Nat.le_refl _⟩, ⟨by (with_reducible repeat (first | apply Kd.R_alloc | apply Kd.R_drewN | apply Kd.R_drew)); exact HO_3.out⟩, ⟨by (with_reducible repeat (first | refine blk_drewN ?_ _ | refine blk_drew ?_ | refine blk_alloc ?_ _)); exact BK174.out⟩, ⟨by repeat (first | (with_reducible first | exact HB.out | apply below_alloc | apply pw_below_drewN | apply below_drew1 | refine below_set ?_ GE174.out) | exact HB.out)⟩⟩
            case rest =>
             clear HC15
             try clear c1
             try clear p1
             try clear q1
             try clear hx1
             try clear hf1
             try clear c2
             try clear c2b0
             try clear c2b1
             try clear p2
             try clear c3
             try clear c3b0
             try clear c3b1
             try clear p6
             try clear c9
             try clear c9b0
             try clear c10
             try clear c10b0
             try clear c11
             try clear c11b0
             try clear c12
             try clear c12b0
             try clear c12b1
             try clear p13
             try clear q13
             try clear hx13
             try clear hf13
             try clear c14
             try clear c14b0
             try clear p17
             try clear q17
             try clear hx17
             try clear c18
             try clear p18
             try clear q18
             try clear hx18
             try clear c20
             try clear c20b0
             try clear c20b1
             try clear c21
             try clear c21b0
             try clear c21b1
             try clear hcz19_0
             try clear hcz19_1
             try clear hcz19_2
             try clear hcz5_0
             try clear hcz5_1
             try clear hcz5_2
             try clear hcz8_0
             try clear hcz8_1
             try clear hcz8_2
             try clear hfz19_0
             try clear hfz19_1
             try clear hfz19_2
             try clear hfz5_0
             try clear hfz5_1
             try clear hfz5_2
             try clear hfz8_0
             try clear hfz8_1
             try clear hfz8_2
             try clear hx13_0
             try clear hx178_0
             try clear hx180_0
             try clear hx180_1
             try clear hx180_2
             try clear hx180_3
             try clear p13
             try clear p178
             try clear p180
             try clear p2
             try clear q13
             try clear q178
             try clear q180
             obtain ⟨kq, x43_14, rfl, HA, HJ14, HO_3, BK174, HB⟩ := hcut
             have hl3_14 := (Kd.R_reads' HO_3.out).1
             rw [hl3_14] at HO_3
             (try simp only [hl3_14])
             (try simp only [hl3_14] at BK174)
             cases kq with
             | zero => exact absurd HA.out (by simp [impl_loops.j2])
             | succ kj14 =>
              have H := HA.out
              clear HA
              simp only [impl_loops.j2] at H
              by_cases c22 : x43_14 = true
              ·subst c22
               have H1 : (impl_loops.l0 kj14 y179 (l0_0.length : Int) (wrap64 (x14_1 + 1)) l0_0 a0_1 a0_2) = some r := by rw [if_pos rfl] at H; exact H
               clear H
               have H := H1
               clear H1
               have H' := Aside0.mk H
               clear H
               go_wp2
               (try simp only [← hl3_14])
               go_roundg kj14
               case measure => have := HK1.out; have := HK2.out; have := HJ14.out; omega
               case rel => exact ⟨(y179), (wrap64 (x14_1 + 1)), (by first | rfl | (simp; done) | (simp [*]; done)), H', ⟨by have := HK1.out; have := HK2.out; have := HJ14.out; omega⟩, ⟨by (try simp only [hl3_14]); (with_reducible repeat (first | apply Kd.R_alloc | apply Kd.R_drewN | apply Kd.R_drew)); exact HO_3.out⟩, ⟨by (try simp only [hl3_14]); (with_reducible repeat (first | refine blk_drewN ?_ _ | refine blk_drew ?_ | refine blk_alloc ?_ _)); exact BK174.out⟩, ⟨by repeat (first | (with_reducible first | exact HB.out | apply below_alloc | apply pw_below_drewN | apply below_drew1 | refine below_set ?_ GE174.out) | exact HB.out)⟩⟩
              ·replace c22 := Bool.eq_false_iff.mpr c22
               subst c22
               have H1 : (if 0 ≤ x5_2 then (if x5_2 < (l0_0.length : Int) then (if 0 ≤ ((rd_T52 l0_0 x5_2).f1) then (if ((rd_T52 l0_0 x5_2).f1) < (y179.length : Int) then (if (rd y179 ((rd_T52 l0_0 x5_2).f1)) = (wrap64 (x14_1 + 1)) then (some true) else (impl_loops.l1 kj14 y179 x14_1 ((rd_T52 l0_0 x5_2).f1) (l0_0.length : Int) x14_1 l0_0 a0_1 a0_2)) else (none)) else (none)) else (none)) else (none)) = some r := by rw [if_neg (show ¬ (false = true) by decide)] at H; exact H
               clear H
               have H := H1
               clear H1
               by_cases c23 : 0 ≤ x5_2
               ·rw [if_pos c23] at H
                have c23b0 : decide (0 ≤ x5_2) = true := decide_eq_true c23
                clear c23
                by_cases c24 : x5_2 < (l0_0.length : Int)
                ·rw [if_pos c24] at H
                 have c24b0 : decide (x5_2 < (l0_0.length : Int)) = true := decide_eq_true c24
                 clear c24
                 by_cases c25 : 0 ≤ ((rd_T52 l0_0 x5_2).f1)
                 ·rw [if_pos c25] at H
                  have c25b0 : decide (0 ≤ ((rd_T52 l0_0 x5_2).f1)) = true := decide_eq_true c25
                  clear c25
                  by_cases c26 : ((rd_T52 l0_0 x5_2).f1) < (y179.length : Int)
                  ·rw [if_pos c26] at H
                   have c26b0 : decide (((rd_T52 l0_0 x5_2).f1) < (y179.length : Int)) = true := decide_eq_true c26
                   clear c26
                   by_cases c27 : (rd y179 ((rd_T52 l0_0 x5_2).f1)) = (wrap64 (x14_1 + 1))
                   ·rw [if_pos c27] at H
                    have c27b0 : ((rd y179 ((rd_T52 l0_0 x5_2).f1)) == (wrap64 (x14_1 + 1))) = true := beq_iff_eq.mpr c27
                    have c27b1 : ((rd y179 ((rd_T52 l0_0 x5_2).f1)) != (wrap64 (x14_1 + 1))) = false := bne_eq_false_iff_eq.mpr c27
                    clear c27
                    obtain rfl := Option.some.inj H
                    have hcz28_0 : wc.cell? ⟨gb174, 0, none⟩ = some (.slice (some ad180) l0_0.length c0_0) := (blk_cell BK174.out 0).trans rfl
                    have hcz28_1 : wc.cell? ⟨gb174, 1, none⟩ = some (.int .i64 a0_1) := (blk_cell BK174.out 1).trans rfl
                    have hcz28_2 : wc.cell? ⟨gb174, 2, none⟩ = some (.int .i64 a0_2) := (blk_cell BK174.out 2).trans rfl
                    have hfz28_0 := blk_frozen BK174.out 0
                    have hfz28_1 := blk_frozen BK174.out 1
                    have hfz28_2 := blk_frozen BK174.out 2
                    have p181 : 0 ≤ (x5_2 : Int) := of_decide_eq_true (by first | (with_reducible assumption) | assumption)
                    have q181 : x5_2 < (l0_0.length : Int) := of_decide_eq_true (by first | (with_reducible assumption) | assumption)
                    obtain ⟨ad181, A181_3, c181_3, e181, hx181_0, hx181_1, hx181_2, hx181_3, hl181_3, hi181_3⟩ := at_T52 HR0_0.out x5_2 p181 q181
                    obtain rfl : ad180 = ad181 := (by injection e181)
                    replace hx181_0 := (HB.out.cell (World.block_lt_of_cell? w _ hx181_0)).trans hx181_0
                    replace hx181_1 := (HB.out.cell (World.block_lt_of_cell? w _ hx181_1)).trans hx181_1
                    replace hx181_2 := (HB.out.cell (World.block_lt_of_cell? w _ hx181_2)).trans hx181_2
                    replace hx181_3 := (HB.out.cell (World.block_lt_of_cell? w _ hx181_3)).trans hx181_3
                    have HR181_3 := Aside0.mk hi181_3
                    have HC181_3 := Aside0.mk hl181_3
                    clear hi181_3 hl181_3
                    replace p181 := eq_true p181
                    replace q181 := eq_true q181
                    have p182 : 0 ≤ (((rd_T52 l0_0 x5_2).f1) : Int) := of_decide_eq_true (by first | (with_reducible assumption) | assumption)
                    have q182 : ((rd_T52 l0_0 x5_2).f1) < (y179.length : Int) := of_decide_eq_true (by first | (with_reducible assumption) | assumption)
                    obtain ⟨ad182, e182, hx182_0⟩ := Kd.at_int (Kd.R_reads' HO_3.out).2.2 ((rd_T52 l0_0 x5_2).f1) p182 q182
                    obtain rfl : (⟨go13, 0, none⟩ : Addr) = ad182 := (by injection e182)
                    (first | simp only [add_plain] at hx182_0 | simp only [add_at] at hx182_0 | simp only [Addr.add, Nat.zero_add] at hx182_0 | skip)
                    replace p182 := eq_true p182
                    replace q182 := eq_true q182
                    go_wp2
                    go_ret
                    exact ⟨by first | rfl | (simp [errW_none, errW_some] <;> rfl) | (simp [*, errW_none, errW_some] <;> rfl), by repeat (first | (with_reducible first | exact HB.out | apply below_alloc | apply pw_below_drewN | apply below_drew1 | refine below_set ?_ GE174.out) | exact HB.out)⟩
                   ·rw [if_neg c27] at H
                    have c27b0 : ((rd y179 ((rd_T52 l0_0 x5_2).f1)) == (wrap64 (x14_1 + 1))) = false := beq_eq_false_iff_ne.mpr c27
                    have c27b1 : ((rd y179 ((rd_T52 l0_0 x5_2).f1)) != (wrap64 (x14_1 + 1))) = true := bne_iff_ne.mpr c27
                    have H' := Aside0.mk H
                    clear H
                    have hcz29_0 : wc.cell? ⟨gb174, 0, none⟩ = some (.slice (some ad180) l0_0.length c0_0) := (blk_cell BK174.out 0).trans rfl
                    have hcz29_1 : wc.cell? ⟨gb174, 1, none⟩ = some (.int .i64 a0_1) := (blk_cell BK174.out 1).trans rfl
                    have hcz29_2 : wc.cell? ⟨gb174, 2, none⟩ = some (.int .i64 a0_2) := (blk_cell BK174.out 2).trans rfl
                    have hfz29_0 := blk_frozen BK174.out 0
                    have hfz29_1 := blk_frozen BK174.out 1
                    have hfz29_2 := blk_frozen BK174.out 2
                    have p181 : 0 ≤ (x5_2 : Int) := of_decide_eq_true (by first | (with_reducible assumption) | assumption)
                    have q181 : x5_2 < (l0_0.length : Int) := of_decide_eq_true (by first | (with_reducible assumption) | assumption)
                    obtain ⟨ad181, A181_3, c181_3, e181, hx181_0, hx181_1, hx181_2, hx181_3, hl181_3, hi181_3⟩ := at_T52 HR0_0.out x5_2 p181 q181
                    obtain rfl : ad180 = ad181 := (by injection e181)
                    replace hx181_0 := (HB.out.cell (World.block_lt_of_cell? w _ hx181_0)).trans hx181_0
                    replace hx181_1 := (HB.out.cell (World.block_lt_of_cell? w _ hx181_1)).trans hx181_1
                    replace hx181_2 := (HB.out.cell (World.block_lt_of_cell? w _ hx181_2)).trans hx181_2
                    replace hx181_3 := (HB.out.cell (World.block_lt_of_cell? w _ hx181_3)).trans hx181_3
                    have HR181_3 := Aside0.mk hi181_3
                    have HC181_3 := Aside0.mk hl181_3
                    clear hi181_3 hl181_3
                    replace p181 := eq_true p181
                    replace q181 := eq_true q181
                    have p182 : 0 ≤ (((rd_T52 l0_0 x5_2).f1) : Int) := of_decide_eq_true (by first | (with_reducible assumption) | assumption)
                    have q182 : ((rd_T52 l0_0 x5_2).f1) < (y179.length : Int) := of_decide_eq_true (by first | (with_reducible assumption) | assumption)
                    obtain ⟨ad182, e182, hx182_0⟩ := Kd.at_int (Kd.R_reads' HO_3.out).2.2 ((rd_T52 l0_0 x5_2).f1) p182 q182
                    obtain rfl : (⟨go13, 0, none⟩ : Addr) = ad182 := (by injection e182)
                    (first | simp only [add_plain] at hx182_0 | simp only [add_at] at hx182_0 | simp only [Addr.add, Nat.zero_add] at hx182_0 | skip)
                    replace p182 := eq_true p182
                    replace q182 := eq_true q182
                    go_wp2
                    (try simp only [← hl3_14])
                    go_roundg kj14
                    case measure => have := HK1.out; have := HK2.out; have := HJ14.out; omega
                    case rel => exact ⟨(y179), ((rd_T52 l0_0 x5_2).f1), (by first | rfl | (simp; done) | (simp [*]; done)), H', ⟨by have := HK1.out; have := HK2.out; have := HJ14.out; omega⟩, ⟨by (try simp only [hl3_14]); (with_reducible repeat (first | apply Kd.R_alloc | apply Kd.R_drewN | apply Kd.R_drew)); exact HO_3.out⟩, ⟨by (try simp only [hl3_14]); (with_reducible repeat (first | refine blk_drewN ?_ _ | refine blk_drew ?_ | refine blk_alloc ?_ _)); exact BK174.out⟩, ⟨by repeat (first | (with_reducible first | exact HB.out | apply below_alloc | apply pw_below_drewN | apply below_drew1 | refine below_set ?_ GE174.out) | exact HB.out)⟩⟩
                  ·rw [if_neg c26] at H
                   exact absurd H (by simp)
                 ·rw [if_neg c25] at H
                  exact absurd H (by simp)
                ·rw [if_neg c24] at H
                 exact absurd H (by simp)
               ·rw [if_neg c23] at H
                exact absurd H (by simp)
           ·rw [if_neg c14] at H
            exact absurd H (by simp)
          ·rw [if_neg c12] at H
           have c12b0 : ((rd x3_2 x5_2) == 0) = false := beq_eq_false_iff_ne.mpr c12
           have c12b1 : ((rd x3_2 x5_2) != 0) = true := bne_iff_ne.mpr c12
           have H' := Aside0.mk H
           clear H
           obtain ⟨Ao30, co30, eo30⟩ := Kd.R_slice HO_3.out
           subst eo30
           have p178 : 0 ≤ (x5_2 : Int) := of_decide_eq_true (by first | (with_reducible assumption) | assumption)
           have q178 : x5_2 < (x3_2.length : Int) := of_decide_eq_true (by first | (with_reducible assumption) | assumption)
           obtain ⟨ad178, e178, hx178_0⟩ := Kd.at_int (Kd.R_reads' HO_3.out).2.2 x5_2 p178 q178
           cases e178
           replace p178 := eq_true p178
           replace q178 := eq_true q178
           go_wp2
           go_roundg k2
           case measure => have := HK1.out; have := HK2.out; omega
           case rel => exact ⟨(x3_2), (wrap64 (x14_1 + 1)), (by first | rfl | (simp; done) | (simp [*]; done)), H', ⟨by have := HK1.out; have := HK2.out; omega⟩, ⟨by (with_reducible repeat (first | apply Kd.R_alloc | apply Kd.R_drewN | apply Kd.R_drew)); exact HO_3.out⟩, ⟨by (with_reducible repeat (first | refine blk_drewN ?_ _ | refine blk_drew ?_ | refine blk_alloc ?_ _)); exact BK174.out⟩, ⟨by repeat (first | (with_reducible first | exact HB.out | apply below_alloc | apply pw_below_drewN | apply below_drew1 | refine below_set ?_ GE174.out) | exact HB.out)⟩⟩
         ·rw [if_neg c11] at H
          exact absurd H (by simp)
        ·rw [if_neg c10] at H
         exact absurd H (by simp)
     ·rw [if_neg c9] at H
      have c9b0 : decide (x14_1 < (l0_0.length : Int)) = false := decide_eq_false c9
      clear c9
      obtain rfl := Option.some.inj H
      go_wp2
      go_ret
      exact ⟨by first | rfl | (simp [errW_none, errW_some] <;> rfl) | (simp [*, errW_none, errW_some] <;> rfl), by repeat (first | (with_reducible first | exact HB.out | apply below_alloc | apply pw_below_drewN | apply below_drew1 | refine below_set ?_ GE174.out) | exact HB.out)⟩
  ·rw [if_neg c3] at H
   exact absurd H (by simp)
 ·rw [if_neg c2] at H
  exact absurd H (by simp)
def IsS93 (w0 W : World) (g : Nat) (f0 : List (S98)) (f1 : Int) (f2 : Int) : Prop := ∃ A0 c0, W.heap[g]? = some (.cells #[.slice A0 f0.length c0, .int .i64 f1, .int .i64 f2] 93 (0, 0)) ∧ w0.heap.size ≤ g ∧ Kd.C k98 w0 A0 f0.length f0
theorem IsS93.grown {w0 W : World} {g : Nat} {f0 : List (S98)} {f1 : Int} {f2 : Int} {W1 : World} {row : Option Nat} (h : IsS93 w0 W g f0 f1 f2) (hw : W.grownBy W1 row) (hne : some g ≠ row) : IsS93 w0 W1 g f0 f1 f2 := by
 obtain ⟨A0, c0, hb, hg, hr0⟩ := h
 exact ⟨A0, c0, blk_grown hb hw hne, hg, hr0⟩
theorem IsS93.fresh {w0 W : World} {g : Nat} {f0 : List (S98)} {f1 : Int} {f2 : Int} (h : IsS93 w0 W g f0 f1 f2) : ∀ k, W.heap.size ≤ k → k ≠ g := by
 obtain ⟨A0, c0, hb, hg, hr0⟩ := h
 exact Kd.freshB hb
theorem IsS93.kept {w0 W : World} {g : Nat} {f0 : List (S98)} {f1 : Int} {f2 : Int} {W1 : World} {S : Nat → Prop} (h : IsS93 w0 W g f0 f1 f2) (hk : Kept W W1 S) (hne : ¬ S g) : IsS93 w0 W1 g f0 f1 f2 := by
 obtain ⟨A0, c0, hb, hg, hr0⟩ := h
 exact ⟨A0, c0, blk_kept hb hk hne, hg, hr0⟩
theorem IsS93.below {w0 W : World} {g : Nat} {f0 : List (S98)} {f1 : Int} {f2 : Int} {W1 : World} (h : IsS93 w0 W g f0 f1 f2) (hw : Below W.heap.size W W1) : IsS93 w0 W1 g f0 f1 f2 := h.grown (grown_of_below hw none) (by simp)
theorem IsS93.alloc {w0 W : World} {g : Nat} {f0 : List (S98)} {f1 : Int} {f2 : Int} (h : IsS93 w0 W g f0 f1 f2) (o : Obj) : IsS93 w0 (W.alloc o) g f0 f1 f2 := h.below (below_alloc (Below.refl _ _) o)
theorem IsS93.drewN {w0 W : World} {g : Nat} {f0 : List (S98)} {f1 : Int} {f2 : Int} (h : IsS93 w0 W g f0 f1 f2) (m : Nat) : IsS93 w0 (W.drewN m) g f0 f1 f2 := h
theorem IsS93.drew {w0 W : World} {g : Nat} {f0 : List (S98)} {f1 : Int} {f2 : Int} (h : IsS93 w0 W g f0 f1 f2) : IsS93 w0 W.drew g f0 f1 f2 := h
theorem IsS93.at_ {w0 W : World} {g : Nat} {f0 : List (S98)} {f1 : Int} {f2 : Int} {w' : World} {m : Nat} (hq : W.drewN m = w') (h : IsS93 w0 W g f0 f1 f2) : IsS93 w0 w' g f0 f1 f2 := by subst hq; exact IsS93.drewN h m
theorem IsS93.apart {w0 W : World} {g : Nat} {f0 : List (S98)} {f1 : Int} {f2 : Int} {α : Type} {d : Kd α} {e : Nat} {base : Nat} {ok : Nat → Prop} {v : Value} {xs : List α} (h : IsS93 w0 W g f0 f1 f2) (ho : d.R e W base ok v xs) (ht : ∀ q, q ∈ e :: d.E → q ≠ 93) : d.R e W base (fun k => ok k ∧ k ≠ g) v xs := by
 obtain ⟨A0, c0, hb, hg, hr0⟩ := h
 exact Kd.R_types ho hb ht
theorem IsS93.own_ne {w0 W : World} {g : Nat} {f0 : List (S98)} {f1 : Int} {f2 : Int} {α : Type} {d : Kd α} {e : Nat} {base : Nat} {ok : Nat → Prop} {v : Value} {xs : List α} (h : IsS93 w0 W g f0 f1 f2) (ho : d.R e W base ok v xs) (ht : e ≠ 93) : some g ≠ v.ownBlock := by
 obtain ⟨A0, c0, hb, hg, hr0⟩ := h
 exact Kd.R_ne ho hb ht
theorem IsS93.apartQ {w0 W : World} {g : Nat} {f0 : List (S98)} {f1 : Int} {f2 : Int} {α : Type} {d : Kd α} {e : Nat} {base : Nat} {ok : Nat → Prop} {v : Value} {xs : List α} (h : IsS93 w0 W g f0 f1 f2) (ho : d.Q e W base ok v xs) (ht : ∀ q, q ∈ e :: d.E → q ≠ 93) : d.Q e W base (fun k => ok k ∧ k ≠ g) v xs := by
 obtain ⟨A0, c0, hb, hg, hr0⟩ := h
 exact Kd.Q_types ho hb ht
theorem IsS93.lt {w0 W : World} {g : Nat} {f0 : List (S98)} {f1 : Int} {f2 : Int} (h : IsS93 w0 W g f0 f1 f2) : g < W.heap.size := by
 obtain ⟨A0, c0, hb, hg, hr0⟩ := h
 exact blk_lt hb
theorem IsS93.ge {w0 W : World} {g : Nat} {f0 : List (S98)} {f1 : Int} {f2 : Int} (h : IsS93 w0 W g f0 f1 f2) : w0.heap.size ≤ g := by
 obtain ⟨A0, c0, hb, hg, hr0⟩ := h
 exact hg
theorem IsS93.far {w0 W : World} {g : Nat} {f0 : List (S98)} {f1 : Int} {f2 : Int} {p : Addr} (h : IsS93 w0 W g f0 f1 f2) (hne : g ≠ p.block) (u : Value) : IsS93 w0 (W.setCell p u) g f0 f1 f2 := by
 obtain ⟨A0, c0, hb, hg, hr0⟩ := h
 exact ⟨A0, c0, blk_far hb hne u, hg, hr0⟩
theorem cellS93_0 {W : World} {g : Nat} {A0 : Option Addr} {c0 : Nat} {f0 : List (S98)} {f1 : Int} {f2 : Int} (h : W.heap[g]? = some (.cells #[.slice A0 f0.length c0, .int .i64 f1, .int .i64 f2] 93 (0, 0))) : W.cell? ⟨g, 0, none⟩ = some (.slice A0 f0.length c0) := (blk_cell h 0).trans rfl
theorem cellS93_1 {W : World} {g : Nat} {A0 : Option Addr} {c0 : Nat} {f0 : List (S98)} {f1 : Int} {f2 : Int} (h : W.heap[g]? = some (.cells #[.slice A0 f0.length c0, .int .i64 f1, .int .i64 f2] 93 (0, 0))) : W.cell? ⟨g, 1, none⟩ = some (.int .i64 f1) := (blk_cell h 1).trans rfl
theorem IsS93.set_1 {w0 W : World} {g : Nat} {f0 : List (S98)} {f1 : Int} {f2 : Int} (h : IsS93 w0 W g f0 f1 f2) (x : Int) : IsS93 w0 (W.setCell ⟨g, 1, none⟩ (.int .i64 x)) g f0 x f2 := by
 obtain ⟨A0, c0, hb, hg, hr0⟩ := h
 exact ⟨A0, c0, by simpa using blk_set hb 1 (.int .i64 x), hg, hr0⟩
theorem cellS93_2 {W : World} {g : Nat} {A0 : Option Addr} {c0 : Nat} {f0 : List (S98)} {f1 : Int} {f2 : Int} (h : W.heap[g]? = some (.cells #[.slice A0 f0.length c0, .int .i64 f1, .int .i64 f2] 93 (0, 0))) : W.cell? ⟨g, 2, none⟩ = some (.int .i64 f2) := (blk_cell h 2).trans rfl
theorem IsS93.set_2 {w0 W : World} {g : Nat} {f0 : List (S98)} {f1 : Int} {f2 : Int} (h : IsS93 w0 W g f0 f1 f2) (x : Int) : IsS93 w0 (W.setCell ⟨g, 2, none⟩ (.int .i64 x)) g f0 f1 x := by
 obtain ⟨A0, c0, hb, hg, hr0⟩ := h
 exact ⟨A0, c0, by simpa using blk_set hb 2 (.int .i64 x), hg, hr0⟩
theorem IsS93.new (w0 W : World) (A0 : Option Addr) (c0 : Nat) (f0 : List (S98)) (f1 : Int) (f2 : Int) (hB : Below w0.heap.size w0 W) (hr0 : Kd.C k98 w0 A0 f0.length f0) : IsS93 w0 (W.alloc (.cells #[.slice A0 f0.length c0, .int .i64 f1, .int .i64 f2] 93)) W.heap.size f0 f1 f2 := ⟨A0, c0, by simpa using heap_alloc_new W _, hB.size, hr0⟩
def regexp_shouldBacktrack.f (s0_0 : List (S98)) (s0_1 : Int) (s0_2 : Int) : Option (Bool × Int × Int) := some (decide ((s0_0.length : Int) ≤ 500), s0_1, s0_2)
set_option maxHeartbeats 8000000 in
set_option maxRecDepth 100000 in
theorem regexp_shouldBacktrack.calls (g : Nat) (s0_0 : List (S98)) (s0_1 : Int) (s0_2 : Int) (r1 : Bool) (r2 : Int) (r3 : Int) (w0 w : World) (hI : IsS93 w0 w g s0_0 s0_1 s0_2) (hB : Below w0.heap.size w0 w) (h : regexp_shouldBacktrack.f s0_0 s0_1 s0_2 = some (r1, r2, r3)) :
  Calls Tryd.prog 55 #[.pointer (some ⟨g, 0, none⟩)] w fun e w' => e = .returned (.bool r1) ∧ IsS93 w0 w' g s0_0 r2 r3 ∧ Below w0.heap.size w0 w' ∧ KeepBut w w' g none := by
 have HI0 := Aside0.mk hI
 have HK := Aside0.mk (KeepBut.refl w g none)
 have HL := Aside0.mk hB.size
 clear hI
 have HW0 := Aside0.mk hB.size
 have HB := Aside0.mk hB
 clear hB
 have H : (some (decide ((s0_0.length : Int) ≤ 500), s0_1, s0_2)) = some (r1, r2, r3) := h
 clear h
 simp only [Option.some.injEq, Prod.mk.injEq] at H
 obtain ⟨rfl, rfl, rfl⟩ := H
 obtain ⟨ASz2_0, cSz2_0, HGz2, hgz2, HSz2_0⟩ := HI0.out
 have hcz2_0 := cellS93_0 HGz2
 have hcz2_1 := cellS93_1 HGz2
 have hcz2_2 := cellS93_2 HGz2
 have hfz2_1 := blk_frozen HGz2 1
 have hfz2_2 := blk_frozen HGz2 2
 clear HGz2 hgz2
 go_enter Tryd.func55, Tryd.ntmps55
 go_wp2
 go_ret
 exact ⟨by first | rfl | (simp [errW_none, errW_some] <;> rfl) | (simp [*, errW_none, errW_some] <;> rfl), by repeat (first | (with_reducible first | exact HI0.out | apply IsS93.alloc | apply IsS93.drewN | apply IsS93.drew | apply IsS93.set_1 | apply IsS93.set_2) | exact HI0.out), by repeat (first | (with_reducible first | exact HB.out | apply below_alloc | apply pw_below_drewN | apply below_drew1 | refine below_set ?_ (IsS93.ge HI0.out)) | exact HB.out), by repeat (first | (with_reducible first | exact HK.out | apply KeepBut.set_ | apply keep_drewN | apply keep_drew | apply keep_alloc) | exact HK.out)⟩
def regexp_newLazyFlag.f (a0 : Int) (a1 : Int) : Option (Int) := some (Go.bits .or .u64 (IntKind.u64.wrap ((IntKind.u64.wrap (a0)) * 4294967296)) ((a1) % 4294967296))
set_option maxHeartbeats 8000000 in
set_option maxRecDepth 100000 in
theorem regexp_newLazyFlag.calls (a0 : Int) (a1 : Int) (r : Int) (w : World) (h : regexp_newLazyFlag.f a0 a1 = some r) :
  Calls Tryd.prog 43 #[.int .i32 a0, .int .i32 a1] w fun e w' => e = .returned (.int .u64 r) ∧ Drawn0 w w' := by
 have H : (some (Go.bits .or .u64 (IntKind.u64.wrap ((IntKind.u64.wrap (a0)) * 4294967296)) ((a1) % 4294967296))) = some r := h
 clear h
 obtain rfl := Option.some.inj H
 go_enter Tryd.func43, Tryd.ntmps43
 go_wp2
 go_ret
 exact ⟨by first | rfl | (simp; done) | (simp [*]; done), by repeat (first | exact Drawn0.refl _ | apply Drawn0.step)⟩
def regexpsyntax_IsWordChar.f (a0 : Int) : Option (Bool) := if 97 ≤ a0 then (if a0 ≤ 122 then (some true) else (if 65 ≤ a0 then (if a0 ≤ 90 then (some true) else (if 48 ≤ a0 then (if a0 ≤ 57 then (some true) else (some (a0 == 95))) else (some (a0 == 95)))) else (if 48 ≤ a0 then (if a0 ≤ 57 then (some true) else (some (a0 == 95))) else (some (a0 == 95))))) else (if 65 ≤ a0 then (if a0 ≤ 90 then (some true) else (if 48 ≤ a0 then (if a0 ≤ 57 then (some true) else (some (a0 == 95))) else (some (a0 == 95)))) else (if 48 ≤ a0 then (if a0 ≤ 57 then (some true) else (some (a0 == 95))) else (some (a0 == 95))))
set_option maxHeartbeats 8000000 in
set_option maxRecDepth 100000 in
theorem regexpsyntax_IsWordChar.calls (a0 : Int) (r : Bool) (w : World) (h : regexpsyntax_IsWordChar.f a0 = some r) :
  Calls Tryd.prog 62 #[.int .i32 a0] w fun e w' => e = .returned (.bool r) ∧ Drawn0 w w' := by
 have H : (if 97 ≤ a0 then (if a0 ≤ 122 then (some true) else (if 65 ≤ a0 then (if a0 ≤ 90 then (some true) else (if 48 ≤ a0 then (if a0 ≤ 57 then (some true) else (some (a0 == 95))) else (some (a0 == 95)))) else (if 48 ≤ a0 then (if a0 ≤ 57 then (some true) else (some (a0 == 95))) else (some (a0 == 95))))) else (if 65 ≤ a0 then (if a0 ≤ 90 then (some true) else (if 48 ≤ a0 then (if a0 ≤ 57 then (some true) else (some (a0 == 95))) else (some (a0 == 95)))) else (if 48 ≤ a0 then (if a0 ≤ 57 then (some true) else (some (a0 == 95))) else (some (a0 == 95))))) = some r := h
 clear h
 by_cases c2 : 97 ≤ a0
 ·rw [if_pos c2] at H
  have c2b0 : decide (97 ≤ a0) = true := decide_eq_true c2
  clear c2
  by_cases c3 : a0 ≤ 122
  ·rw [if_pos c3] at H
   have c3b0 : decide (a0 ≤ 122) = true := decide_eq_true c3
   clear c3
   obtain rfl := Option.some.inj H
   go_enter Tryd.func62, Tryd.ntmps62
   go_wp2
   go_ret
   exact ⟨by first | rfl | (simp; done) | (simp [*]; done), by repeat (first | exact Drawn0.refl _ | apply Drawn0.step)⟩
  ·rw [if_neg c3] at H
   have c3b0 : decide (a0 ≤ 122) = false := decide_eq_false c3
   clear c3
   by_cases c4 : 65 ≤ a0
   ·rw [if_pos c4] at H
    have c4b0 : decide (65 ≤ a0) = true := decide_eq_true c4
    clear c4
    by_cases c5 : a0 ≤ 90
    ·rw [if_pos c5] at H
     have c5b0 : decide (a0 ≤ 90) = true := decide_eq_true c5
     clear c5
     obtain rfl := Option.some.inj H
     go_enter Tryd.func62, Tryd.ntmps62
     go_wp2
     go_ret
     exact ⟨by first | rfl | (simp; done) | (simp [*]; done), by repeat (first | exact Drawn0.refl _ | apply Drawn0.step)⟩
    ·rw [if_neg c5] at H
     have c5b0 : decide (a0 ≤ 90) = false := decide_eq_false c5
     clear c5
     by_cases c6 : 48 ≤ a0
     ·rw [if_pos c6] at H
      have c6b0 : decide (48 ≤ a0) = true := decide_eq_true c6
      clear c6
      by_cases c7 : a0 ≤ 57
      ·rw [if_pos c7] at H
       have c7b0 : decide (a0 ≤ 57) = true := decide_eq_true c7
       clear c7
       obtain rfl := Option.some.inj H
       go_enter Tryd.func62, Tryd.ntmps62
       go_wp2
       go_ret
       exact ⟨by first | rfl | (simp; done) | (simp [*]; done), by repeat (first | exact Drawn0.refl _ | apply Drawn0.step)⟩
      ·rw [if_neg c7] at H
       have c7b0 : decide (a0 ≤ 57) = false := decide_eq_false c7
       clear c7
       obtain rfl := Option.some.inj H
       go_enter Tryd.func62, Tryd.ntmps62
       go_wp2
       go_ret
       exact ⟨by first | rfl | (simp; done) | (simp [*]; done), by repeat (first | exact Drawn0.refl _ | apply Drawn0.step)⟩
     ·rw [if_neg c6] at H
      have c6b0 : decide (48 ≤ a0) = false := decide_eq_false c6
      clear c6
      obtain rfl := Option.some.inj H
      go_enter Tryd.func62, Tryd.ntmps62
      go_wp2
      go_ret
      exact ⟨by first | rfl | (simp; done) | (simp [*]; done), by repeat (first | exact Drawn0.refl _ | apply Drawn0.step)⟩
   ·rw [if_neg c4] at H
    have c4b0 : decide (65 ≤ a0) = false := decide_eq_false c4
    clear c4
    by_cases c8 : 48 ≤ a0
    ·rw [if_pos c8] at H
     have c8b0 : decide (48 ≤ a0) = true := decide_eq_true c8
     clear c8
     by_cases c9 : a0 ≤ 57
     ·rw [if_pos c9] at H
      have c9b0 : decide (a0 ≤ 57) = true := decide_eq_true c9
      clear c9
      obtain rfl := Option.some.inj H
      go_enter Tryd.func62, Tryd.ntmps62
      go_wp2
      go_ret
      exact ⟨by first | rfl | (simp; done) | (simp [*]; done), by repeat (first | exact Drawn0.refl _ | apply Drawn0.step)⟩
     ·rw [if_neg c9] at H
      have c9b0 : decide (a0 ≤ 57) = false := decide_eq_false c9
      clear c9
      obtain rfl := Option.some.inj H
      go_enter Tryd.func62, Tryd.ntmps62
      go_wp2
      go_ret
      exact ⟨by first | rfl | (simp; done) | (simp [*]; done), by repeat (first | exact Drawn0.refl _ | apply Drawn0.step)⟩
    ·rw [if_neg c8] at H
     have c8b0 : decide (48 ≤ a0) = false := decide_eq_false c8
     clear c8
     obtain rfl := Option.some.inj H
     go_enter Tryd.func62, Tryd.ntmps62
     go_wp2
     go_ret
     exact ⟨by first | rfl | (simp; done) | (simp [*]; done), by repeat (first | exact Drawn0.refl _ | apply Drawn0.step)⟩
 ·rw [if_neg c2] at H
  have c2b0 : decide (97 ≤ a0) = false := decide_eq_false c2
  clear c2
  by_cases c10 : 65 ≤ a0
  ·rw [if_pos c10] at H
   have c10b0 : decide (65 ≤ a0) = true := decide_eq_true c10
   clear c10
   by_cases c11 : a0 ≤ 90
   ·rw [if_pos c11] at H
    have c11b0 : decide (a0 ≤ 90) = true := decide_eq_true c11
    clear c11
    obtain rfl := Option.some.inj H
    go_enter Tryd.func62, Tryd.ntmps62
    go_wp2
    go_ret
    exact ⟨by first | rfl | (simp; done) | (simp [*]; done), by repeat (first | exact Drawn0.refl _ | apply Drawn0.step)⟩
   ·rw [if_neg c11] at H
    have c11b0 : decide (a0 ≤ 90) = false := decide_eq_false c11
    clear c11
    by_cases c12 : 48 ≤ a0
    ·rw [if_pos c12] at H
     have c12b0 : decide (48 ≤ a0) = true := decide_eq_true c12
     clear c12
     by_cases c13 : a0 ≤ 57
     ·rw [if_pos c13] at H
      have c13b0 : decide (a0 ≤ 57) = true := decide_eq_true c13
      clear c13
      obtain rfl := Option.some.inj H
      go_enter Tryd.func62, Tryd.ntmps62
      go_wp2
      go_ret
      exact ⟨by first | rfl | (simp; done) | (simp [*]; done), by repeat (first | exact Drawn0.refl _ | apply Drawn0.step)⟩
     ·rw [if_neg c13] at H
      have c13b0 : decide (a0 ≤ 57) = false := decide_eq_false c13
      clear c13
      obtain rfl := Option.some.inj H
      go_enter Tryd.func62, Tryd.ntmps62
      go_wp2
      go_ret
      exact ⟨by first | rfl | (simp; done) | (simp [*]; done), by repeat (first | exact Drawn0.refl _ | apply Drawn0.step)⟩
    ·rw [if_neg c12] at H
     have c12b0 : decide (48 ≤ a0) = false := decide_eq_false c12
     clear c12
     obtain rfl := Option.some.inj H
     go_enter Tryd.func62, Tryd.ntmps62
     go_wp2
     go_ret
     exact ⟨by first | rfl | (simp; done) | (simp [*]; done), by repeat (first | exact Drawn0.refl _ | apply Drawn0.step)⟩
  ·rw [if_neg c10] at H
   have c10b0 : decide (65 ≤ a0) = false := decide_eq_false c10
   clear c10
   by_cases c14 : 48 ≤ a0
   ·rw [if_pos c14] at H
    have c14b0 : decide (48 ≤ a0) = true := decide_eq_true c14
    clear c14
    by_cases c15 : a0 ≤ 57
    ·rw [if_pos c15] at H
     have c15b0 : decide (a0 ≤ 57) = true := decide_eq_true c15
     clear c15
     obtain rfl := Option.some.inj H
     go_enter Tryd.func62, Tryd.ntmps62
     go_wp2
     go_ret
     exact ⟨by first | rfl | (simp; done) | (simp [*]; done), by repeat (first | exact Drawn0.refl _ | apply Drawn0.step)⟩
    ·rw [if_neg c15] at H
     have c15b0 : decide (a0 ≤ 57) = false := decide_eq_false c15
     clear c15
     obtain rfl := Option.some.inj H
     go_enter Tryd.func62, Tryd.ntmps62
     go_wp2
     go_ret
     exact ⟨by first | rfl | (simp; done) | (simp [*]; done), by repeat (first | exact Drawn0.refl _ | apply Drawn0.step)⟩
   ·rw [if_neg c14] at H
    have c14b0 : decide (48 ≤ a0) = false := decide_eq_false c14
    clear c14
    obtain rfl := Option.some.inj H
    go_enter Tryd.func62, Tryd.ntmps62
    go_wp2
    go_ret
    exact ⟨by first | rfl | (simp; done) | (simp [*]; done), by repeat (first | exact Drawn0.refl _ | apply Drawn0.step)⟩
end Go.Proofs.YtmccgfjhmbioeaaDoor.PFnPgThreads
