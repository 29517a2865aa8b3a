import Derived.Test.YtmccgfjhmbioeaaDoorPFnPgThreadsy0
import Derived.Test.YtmccgfjhmbioeaaDoorPFnPgThreadsy1
import Derived.Test.YtmccgfjhmbioeaaDoorPFnPgThreadsy2
import Derived.Test.YtmccgfjhmbioeaaDoorPFnPgThreadsy3
namespace Go.Proofs.YtmccgfjhmbioeaaDoor.PFnPgThreads
open Go.RowKit Go.Proofs.YtmccgfjhmbioeaaDoorW.PrintWords Go.Proofs.YtmccgfjhmbioeaaDoorW.PrintLast Go.Proofs.YtmccgfjhmbioeaaDoorW.PrintMore
attribute [local go_sem] max2_int min2_int max_two min_two max_three min_three max_four min_four
set_option linter.unusedVariables false
set_option linter.unusedSimpArgs false
mutual
def spec_ProgSound.j0 : Nat → Bool → List (S52) → Int → Int → Option (Bool)
 | 0, _, _, _, _ => none
 | k + 1, x49, x143000, x143001, x143002 => if x49 = true then (some false) else (spec_ProgSound.l0 k x143000 (x143000.length : Int) 0 x143000 x143001 x143002)
def spec_ProgSound.l0 : Nat → List (S52) → Int → Int → List (S52) → Int → Int → Option (Bool)
 | 0, _, _, _, _, _, _ => none
 | k + 1, x51, x52, x53, x143000, x143001, x143002 => if x53 < x52 then (if 0 ≤ x53 then (if x53 < (x51.length : Int) then ((spec_progInst.f k x143000 x143001 x143002 ((rd_T52 x51 x53).f0) ((rd_T52 x51 x53).f1) ((rd_T52 x51 x53).f2) ((rd_T52 x51 x53).f3)).bind fun t147 => (if t147 = true then (spec_ProgSound.l0 k x51 x52 (wrap64 (x53 + 1)) x143000 x143001 x143002) else (some false))) else (none)) else (none)) else (spec_ProgSound.l1 k (x143000.length : Int) 0 x143000 x143001 x143002)
def spec_ProgSound.l1 : Nat → Int → Int → List (S52) → Int → Int → Option (Bool)
 | 0, _, _, _, _, _ => none
 | k + 1, x64, x65, x143000, x143001, x143002 => if x65 < x64 then ((spec_progCircle.f k x143000 x143001 x143002 x65).bind fun t148 => (if t148 = true then (some false) else (spec_ProgSound.l1 k x64 (wrap64 (x65 + 1)) x143000 x143001 x143002))) else (some true)
end
def spec_ProgSound.f (k : Nat) (l0_0 : List (S52)) (a0_1 : Int) (a0_2 : Int) (a1 : Int) : Option (Bool) := if (l0_0.length : Int) = 0 then (spec_ProgSound.j0 k true l0_0 a0_1 a0_2) else (if (l0_0.length : Int) > a1 then (spec_ProgSound.j0 k true l0_0 a0_1 a0_2) else (if 0 < (l0_0.length : Int) then (if ((rd_T52 l0_0 0).f0) = 5 then ((spec_progTo.f l0_0 a0_1 a0_2 a0_1).bind fun t144 => (if t144 = true then (if a0_2 < 2 then (spec_ProgSound.j0 k true l0_0 a0_1 a0_2) else (if a0_2 > 2002 then (spec_ProgSound.j0 k true l0_0 a0_1 a0_2) else (spec_ProgSound.j0 k ((Int.tmod a0_2 2) != 0) l0_0 a0_1 a0_2))) else (spec_ProgSound.j0 k true l0_0 a0_1 a0_2))) else (spec_ProgSound.j0 k true l0_0 a0_1 a0_2)) else (none)))
theorem spec_ProgSound.mono_l : ∀ k, (∀ y0 y1 y2 y3, LeO (spec_ProgSound.j0 k y0 y1 y2 y3) (spec_ProgSound.j0 (k + 1) y0 y1 y2 y3)) ∧ (∀ y0 y1 y2 y3 y4 y5, LeO (spec_ProgSound.l0 k y0 y1 y2 y3 y4 y5) (spec_ProgSound.l0 (k + 1) y0 y1 y2 y3 y4 y5)) ∧ (∀ y0 y1 y2 y3 y4, LeO (spec_ProgSound.l1 k y0 y1 y2 y3 y4) (spec_ProgSound.l1 (k + 1) y0 y1 y2 y3 y4))
 | 0 => ⟨fun _ _ _ _ r h => by simp [spec_ProgSound.j0] at h, fun _ _ _ _ _ _ r h => by simp [spec_ProgSound.l0] at h, fun _ _ _ _ _ r h => by simp [spec_ProgSound.l1] at h⟩
 | k + 1 => by
  obtain ⟨ih0, ih1, ih2⟩ := spec_ProgSound.mono_l k
  refine ⟨?_, ?_, ?_⟩
  ·intro y0 y1 y2 y3
   unfold spec_ProgSound.j0
   repeat' first
   | (with_reducible exact ih0 _ _ _ _)
   | (with_reducible exact ih1 _ _ _ _ _ _)
   | (with_reducible exact ih2 _ _ _ _ _)
   | (with_reducible exact spec_progCircle.mono _ _ _ _ _)
   | (with_reducible exact spec_progInst.mono _ _ _ _ _ _ _ _)
   | (with_reducible exact LeO.refl _)
   | (with_reducible exact LeO.none _)
   | (with_reducible refine LeO.ite ?_ ?_)
   | (with_reducible refine LeO.bind ?_ (fun _ => ?_))
   | exact ih0 _ _ _ _
   | exact ih1 _ _ _ _ _ _
   | exact ih2 _ _ _ _ _
   | exact spec_progCircle.mono _ _ _ _ _
   | exact spec_progInst.mono _ _ _ _ _ _ _ _
   | exact LeO.none _
   | refine LeO.ite ?_ ?_
   | refine LeO.bind ?_ (fun _ => ?_)
  ·intro y0 y1 y2 y3 y4 y5
   unfold spec_ProgSound.l0
   repeat' first
   | (with_reducible exact ih0 _ _ _ _)
   | (with_reducible exact ih1 _ _ _ _ _ _)
   | (with_reducible exact ih2 _ _ _ _ _)
   | (with_reducible exact spec_progCircle.mono _ _ _ _ _)
   | (with_reducible exact spec_progInst.mono _ _ _ _ _ _ _ _)
   | (with_reducible exact LeO.refl _)
   | (with_reducible exact LeO.none _)
   | (with_reducible refine LeO.ite ?_ ?_)
   | (with_reducible refine LeO.bind ?_ (fun _ => ?_))
   | exact ih0 _ _ _ _
   | exact ih1 _ _ _ _ _ _
   | exact ih2 _ _ _ _ _
   | exact spec_progCircle.mono _ _ _ _ _
   | exact spec_progInst.mono _ _ _ _ _ _ _ _
   | exact LeO.none _
   | refine LeO.ite ?_ ?_
   | refine LeO.bind ?_ (fun _ => ?_)
  ·intro y0 y1 y2 y3 y4
   unfold spec_ProgSound.l1
   repeat' first
   | (with_reducible exact ih0 _ _ _ _)
   | (with_reducible exact ih1 _ _ _ _ _ _)
   | (with_reducible exact ih2 _ _ _ _ _)
   | (with_reducible exact spec_progCircle.mono _ _ _ _ _)
   | (with_reducible exact spec_progInst.mono _ _ _ _ _ _ _ _)
   | (with_reducible exact LeO.refl _)
   | (with_reducible exact LeO.none _)
   | (with_reducible refine LeO.ite ?_ ?_)
   | (with_reducible refine LeO.bind ?_ (fun _ => ?_))
   | exact ih0 _ _ _ _
   | exact ih1 _ _ _ _ _ _
   | exact ih2 _ _ _ _ _
   | exact spec_progCircle.mono _ _ _ _ _
   | exact spec_progInst.mono _ _ _ _ _ _ _ _
   | exact LeO.none _
   | refine LeO.ite ?_ ?_
   | refine LeO.bind ?_ (fun _ => ?_)
theorem spec_ProgSound.mono : ∀ a0 a1 a2 a3 k, LeO (spec_ProgSound.f k a0 a1 a2 a3) (spec_ProgSound.f (k + 1) a0 a1 a2 a3) := by
 intro a0 a1 a2 a3 k
 obtain ⟨ih0, ih1, ih2⟩ := spec_ProgSound.mono_l k
 unfold spec_ProgSound.f
 repeat' first
   | (with_reducible exact ih0 _ _ _ _)
   | (with_reducible exact ih1 _ _ _ _ _ _)
   | (with_reducible exact ih2 _ _ _ _ _)
   | (with_reducible exact spec_progCircle.mono _ _ _ _ _)
   | (with_reducible exact spec_progInst.mono _ _ _ _ _ _ _ _)
   | (with_reducible exact LeO.refl _)
   | (with_reducible exact LeO.none _)
   | (with_reducible refine LeO.ite ?_ ?_)
   | (with_reducible refine LeO.bind ?_ (fun _ => ?_))
   | exact ih0 _ _ _ _
   | exact ih1 _ _ _ _ _ _
   | exact ih2 _ _ _ _ _
   | exact spec_progCircle.mono _ _ _ _ _
   | exact spec_progInst.mono _ _ _ _ _ _ _ _
   | exact LeO.none _
   | refine LeO.ite ?_ ?_
   | refine LeO.bind ?_ (fun _ => ?_)
set_option maxHeartbeats 8000000 in
set_option maxRecDepth 100000 in
theorem spec_ProgSound.calls (k : Nat) (A0_0 : Option Addr) (c0_0 : Nat) (l0_0 : List (S52)) (a0_1 : Int) (a0_2 : Int) (a1 : Int) (r : Bool) (w : World) (hr0_0 : Kd.C k52 w A0_0 l0_0.length l0_0) (hc0_0 : l0_0.length ≤ c0_0) (h : spec_ProgSound.f k l0_0 a0_1 a0_2 a1 = some r) :
  Calls Tryd.prog 10 #[.agg #[.slice A0_0 l0_0.length c0_0, .int .i64 a0_1, .int .i64 a0_2], .int .i64 a1] w fun e w' => e = .returned (.bool r) ∧ Below w.heap.size w w' := by
 have hu24 := Tryd.underlying24
 have hu52 := Tryd.underlying52
 have HR0_0 := Aside0.mk hr0_0
 have HC0_0 := Aside0.mk hc0_0
 clear hr0_0 hc0_0
 have HB := Aside0.mk (Below.refl w.heap.size w)
 have H : (if (l0_0.length : Int) = 0 then (spec_ProgSound.j0 k true l0_0 a0_1 a0_2) else (if (l0_0.length : Int) > a1 then (spec_ProgSound.j0 k true l0_0 a0_1 a0_2) else (if 0 < (l0_0.length : Int) then (if ((rd_T52 l0_0 0).f0) = 5 then ((spec_progTo.f l0_0 a0_1 a0_2 a0_1).bind fun t144 => (if t144 = true then (if a0_2 < 2 then (spec_ProgSound.j0 k true l0_0 a0_1 a0_2) else (if a0_2 > 2002 then (spec_ProgSound.j0 k true l0_0 a0_1 a0_2) else (spec_ProgSound.j0 k ((Int.tmod a0_2 2) != 0) l0_0 a0_1 a0_2))) else (spec_ProgSound.j0 k true l0_0 a0_1 a0_2))) else (spec_ProgSound.j0 k true l0_0 a0_1 a0_2)) else (none)))) = some r := h
 clear h
 have HC3 := Aside0.mk H
 clear H
 go_enter Tryd.func10, Tryd.ntmps10
 go_upto_region 1 with (first | ((with_reducible refine gate_dst (N := 2) rfl ?_); (try (refine gate_guard (by rfl) ?_; dsimp only)); refine box_event ?hg (N := 2) ?hd (cs := #[.slice A0_0 l0_0.length c0_0, .int .i64 a0_1, .int .i64 a0_2]) (t := 24) ?hr ?_; (case hd => rfl); (case hg => rfl); (case hr => first | (go_simp; done) | (go_simp; rfl)); intro gb142 hg w4 hbox hb; have n0_ := Aside0.mk (below_step (by repeat (first | (with_reducible first | exact HB.out | apply below_alloc | apply pw_below_drewN | apply below_drew1) | exact HB.out)) hb); have n1_ := Aside0.mk (hbox); have n2_ := Aside0.mk ((by rw [hg]; exact (below_size (by repeat (first | (with_reducible first | exact HB.out | apply below_alloc | apply pw_below_drewN | apply below_drew1) | exact HB.out))) : w.heap.size ≤ gb142)); have n3_ := Aside0.mk ((by rw [hg]; exact (below_size (by repeat (first | (with_reducible first | exact HB.out | apply below_alloc | apply pw_below_drewN | apply below_drew1) | exact HB.out))) : w.heap.size ≤ gb142)); clear HB; have HB := n0_; have BK142 := n1_; have GW142 := n2_; have GE142 := n3_; clear n0_ n1_ n2_ n3_; clear hb hbox hg))
 (try simp only [Act.put, List.setIfInBounds_toArray, List.set_cons_zero, List.set_cons_succ])
 go_cut [49] (fun v49 wc => ∃ (kq : Nat) (x49_2 : Bool), v49 = .bool x49_2 ∧ Aside0 (spec_ProgSound.j0 kq x49_2 l0_0 a0_1 a0_2 = some r) ∧ Aside0 (kq ≤ k) ∧ Aside0 (wc.heap[gb142]? = some (.cells #[(.slice A0_0 l0_0.length c0_0), .int .i64 a0_1, .int .i64 a0_2] 24 (0, 0))) ∧ Aside0 (Below w.heap.size w wc))
 case first =>
  have H := HC3.out
  clear HC3
  by_cases c5 : (l0_0.length : Int) = 0
  ·rw [if_pos c5] at H
   have c5b0 : ((l0_0.length : Int) == 0) = true := beq_iff_eq.mpr c5
   have c5b1 : ((l0_0.length : Int) != 0) = false := bne_eq_false_iff_eq.mpr c5
   clear c5
   (first | rw [c5b0] | (simp only [i64_w, i32_w]; rw [c5b0]) | skip)
   have H' := Aside0.mk H
   clear H
   have hcz6_0 : w4.cell? ⟨gb142, 0, none⟩ = some (.slice A0_0 l0_0.length c0_0) := (blk_cell BK142.out 0).trans rfl
   have hcz6_1 : w4.cell? ⟨gb142, 1, none⟩ = some (.int .i64 a0_1) := (blk_cell BK142.out 1).trans rfl
   have hcz6_2 : w4.cell? ⟨gb142, 2, none⟩ = some (.int .i64 a0_2) := (blk_cell BK142.out 2).trans rfl
   have hfz6_0 := blk_frozen BK142.out 0
   have hfz6_1 := blk_frozen BK142.out 1
   have hfz6_2 := blk_frozen BK142.out 2
   go_wp2
   go_meet
   case rel => exact ⟨_, (true), (by first | rfl | (simp; done) | (simp [*]; done)), H', ⟨by first | omega | exact Nat.le_refl _⟩, ⟨by (with_reducible repeat (first | refine blk_drewN ?_ _ | refine blk_drew ?_ | refine blk_alloc ?_ _)); exact BK142.out⟩, ⟨by repeat (first | (with_reducible first | exact HB.out | apply below_alloc | apply pw_below_drewN | apply below_drew1 | refine below_set ?_ GE142.out) | exact HB.out)⟩⟩
  ·rw [if_neg c5] at H
   have c5b0 : ((l0_0.length : Int) == 0) = false := beq_eq_false_iff_ne.mpr c5
   have c5b1 : ((l0_0.length : Int) != 0) = true := bne_iff_ne.mpr c5
   have c5b2 : ¬ (l0_0 = []) := fun h_ => c5 (by rw [h_]; rfl)
   (first | rw [c5b0] | (simp only [i64_w, i32_w]; rw [c5b0]) | skip)
   by_cases c7 : (l0_0.length : Int) > a1
   ·rw [if_pos c7] at H
    have c7b0 : decide (a1 < (l0_0.length : Int)) = true := decide_eq_true c7
    clear c7
    have H' := Aside0.mk H
    clear H
    have hcz8_0 : w4.cell? ⟨gb142, 0, none⟩ = some (.slice A0_0 l0_0.length c0_0) := (blk_cell BK142.out 0).trans rfl
    have hcz8_1 : w4.cell? ⟨gb142, 1, none⟩ = some (.int .i64 a0_1) := (blk_cell BK142.out 1).trans rfl
    have hcz8_2 : w4.cell? ⟨gb142, 2, none⟩ = some (.int .i64 a0_2) := (blk_cell BK142.out 2).trans rfl
    have hfz8_0 := blk_frozen BK142.out 0
    have hfz8_1 := blk_frozen BK142.out 1
    have hfz8_2 := blk_frozen BK142.out 2
    go_wp2
    go_meet
    case rel => exact ⟨_, (true), (by first | rfl | (simp; done) | (simp [*]; done)), H', ⟨by first | omega | exact Nat.le_refl _⟩, ⟨by (with_reducible repeat (first | refine blk_drewN ?_ _ | refine blk_drew ?_ | refine blk_alloc ?_ _)); exact BK142.out⟩, ⟨by repeat (first | (with_reducible first | exact HB.out | apply below_alloc | apply pw_below_drewN | apply below_drew1 | refine below_set ?_ GE142.out) | exact HB.out)⟩⟩
   ·rw [if_neg c7] at H
    have c7b0 : decide (a1 < (l0_0.length : Int)) = false := decide_eq_false c7
    clear c7
    by_cases c9 : 0 < (l0_0.length : Int)
    ·rw [if_pos c9] at H
     have c9b0 : decide (0 < (l0_0.length : Int)) = true := decide_eq_true c9
     have c9b1 : decide (0 < l0_0.length) = true := decide_eq_true (by omega)
     clear c9
     by_cases c10 : ((rd_T52 l0_0 0).f0) = 5
     ·rw [if_pos c10] at H
      have c10b0 : (((rd_T52 l0_0 0).f0) == 5) = true := beq_iff_eq.mpr c10
      have c10b1 : (((rd_T52 l0_0 0).f0) != 5) = false := bne_eq_false_iff_eq.mpr c10
      clear c10
      replace H := Option.bind_eq_some_iff.mp H
      obtain ⟨t144, A110, H⟩ := H
      replace H : (if t144 = true then (if a0_2 < 2 then (spec_ProgSound.j0 k true l0_0 a0_1 a0_2) else (if a0_2 > 2002 then (spec_ProgSound.j0 k true l0_0 a0_1 a0_2) else (spec_ProgSound.j0 k ((Int.tmod a0_2 2) != 0) l0_0 a0_1 a0_2))) else (spec_ProgSound.j0 k true l0_0 a0_1 a0_2)) = some r := H
      have A11 := Aside0.mk A110
      clear A110
      by_cases c12 : t144 = true
      ·subst c12
       have H1 : (if a0_2 < 2 then (spec_ProgSound.j0 k true l0_0 a0_1 a0_2) else (if a0_2 > 2002 then (spec_ProgSound.j0 k true l0_0 a0_1 a0_2) else (spec_ProgSound.j0 k ((Int.tmod a0_2 2) != 0) l0_0 a0_1 a0_2))) = some r := by rw [if_pos rfl] at H; exact H
       clear H
       have H := H1
       clear H1
       by_cases c13 : a0_2 < 2
       ·rw [if_pos c13] at H
        have c13b0 : decide (a0_2 < 2) = true := decide_eq_true c13
        clear c13
        have H' := Aside0.mk H
        clear H
        have hcz14_0 : w4.cell? ⟨gb142, 0, none⟩ = some (.slice A0_0 l0_0.length c0_0) := (blk_cell BK142.out 0).trans rfl
        have hcz14_1 : w4.cell? ⟨gb142, 1, none⟩ = some (.int .i64 a0_1) := (blk_cell BK142.out 1).trans rfl
        have hcz14_2 : w4.cell? ⟨gb142, 2, none⟩ = some (.int .i64 a0_2) := (blk_cell BK142.out 2).trans rfl
        have hfz14_0 := blk_frozen BK142.out 0
        have hfz14_1 := blk_frozen BK142.out 1
        have hfz14_2 := blk_frozen BK142.out 2
        have p143 : 0 ≤ (0 : Int) := (by omega)
        have q143 : 0 < (l0_0.length : Int) := of_decide_eq_true (by first | (with_reducible assumption) | assumption)
        obtain ⟨ad143, A143_3, c143_3, e143, hx143_0, hx143_1, hx143_2, hx143_3, hl143_3, hi143_3⟩ := at_T52 HR0_0.out 0 p143 q143
        cases e143
        have qi143 : (0 < l0_0.length) = True := eq_true (by omega)
        (try rw [show ((0 : Int)).toNat = 0 from rfl] at hx143_0)
        (try rw [show 0 * 4 = 0 from rfl] at hx143_0)
        (try rw [Addr.add_zero'] at hx143_0)
        (try rw [show ((0 : Int)).toNat = 0 from rfl] at hx143_1)
        (try rw [show 0 * 4 = 0 from rfl] at hx143_1)
        (try rw [Addr.add_zero'] at hx143_1)
        (try rw [show ((0 : Int)).toNat = 0 from rfl] at hx143_2)
        (try rw [show 0 * 4 = 0 from rfl] at hx143_2)
        (try rw [Addr.add_zero'] at hx143_2)
        (try rw [show ((0 : Int)).toNat = 0 from rfl] at hx143_3)
        (try rw [show 0 * 4 = 0 from rfl] at hx143_3)
        (try rw [Addr.add_zero'] at hx143_3)
        replace hx143_0 := (HB.out.cell (World.block_lt_of_cell? w _ hx143_0)).trans hx143_0
        replace hx143_1 := (HB.out.cell (World.block_lt_of_cell? w _ hx143_1)).trans hx143_1
        replace hx143_2 := (HB.out.cell (World.block_lt_of_cell? w _ hx143_2)).trans hx143_2
        replace hx143_3 := (HB.out.cell (World.block_lt_of_cell? w _ hx143_3)).trans hx143_3
        have HR143_3 := Aside0.mk hi143_3
        have HC143_3 := Aside0.mk hl143_3
        clear hi143_3 hl143_3
        replace p143 := eq_true p143
        replace q143 := eq_true q143
        go_wp2_with (first | (go_at_call 19; (with_reducible refine (spec_progTo.calls _ _ l0_0 a0_1 a0_2 a0_1 true _ ?side1 ?side2 A11.out).mono ?_); (case side1 => repeat (first | exact (Kd.C_below HR0_0.out HB.out) | (with_reducible refine Kd.C_alloc ?_ _) | (with_reducible refine Kd.C_drewN ?_ _) | (with_reducible refine Kd.C_drew ?_))); (case side2 => exact HC0_0.out); rintro e w15 ⟨rfl, hb⟩; have n0_ := Aside0.mk (blk_below (g := gb142) (o := .cells #[.slice (some ad143) l0_0.length c0_0, .int .i64 a0_1, .int .i64 a0_2] 24 (0, 0)) (by (with_reducible repeat (first | refine blk_drewN ?_ _ | refine blk_drew ?_ | refine blk_alloc ?_ _)); exact BK142.out) hb); have n1_ := Aside0.mk (below_step (by repeat (first | (with_reducible first | exact HB.out | apply below_alloc | apply pw_below_drewN | apply below_drew1 | refine below_set ?_ GE142.out) | exact HB.out)) hb); clear BK142; clear HB; have BK142 := n0_; have HB := n1_; clear n0_ n1_; (try clear hb); (try clear hb2); (try clear hk); (try clear hi); have hcz16_0 : w15.cell? ⟨gb142, 0, none⟩ = some (.slice (some ad143) l0_0.length c0_0) := (blk_cell BK142.out 0).trans rfl; have hcz16_1 : w15.cell? ⟨gb142, 1, none⟩ = some (.int .i64 a0_1) := (blk_cell BK142.out 1).trans rfl; have hcz16_2 : w15.cell? ⟨gb142, 2, none⟩ = some (.int .i64 a0_2) := (blk_cell BK142.out 2).trans rfl; have hfz16_0 := blk_frozen BK142.out 0; have hfz16_1 := blk_frozen BK142.out 1; have hfz16_2 := blk_frozen BK142.out 2))
        go_meet
        case rel => exact ⟨_, (true), (by first | rfl | (simp; done) | (simp [*]; done)), H', ⟨by first | omega | exact Nat.le_refl _⟩, ⟨by (with_reducible repeat (first | refine blk_drewN ?_ _ | refine blk_drew ?_ | refine blk_alloc ?_ _)); exact BK142.out⟩, ⟨by repeat (first | (with_reducible first | exact HB.out | apply below_alloc | apply pw_below_drewN | apply below_drew1 | refine below_set ?_ GE142.out) | exact HB.out)⟩⟩
       ·rw [if_neg c13] at H
        have c13b0 : decide (a0_2 < 2) = false := decide_eq_false c13
        clear c13
        by_cases c17 : a0_2 > 2002
        ·rw [if_pos c17] at H
         have c17b0 : decide (2002 < a0_2) = true := decide_eq_true c17
         clear c17
         have H' := Aside0.mk H
         clear H
         have hcz18_0 : w4.cell? ⟨gb142, 0, none⟩ = some (.slice A0_0 l0_0.length c0_0) := (blk_cell BK142.out 0).trans rfl
         have hcz18_1 : w4.cell? ⟨gb142, 1, none⟩ = some (.int .i64 a0_1) := (blk_cell BK142.out 1).trans rfl
         have hcz18_2 : w4.cell? ⟨gb142, 2, none⟩ = some (.int .i64 a0_2) := (blk_cell BK142.out 2).trans rfl
         have hfz18_0 := blk_frozen BK142.out 0
         have hfz18_1 := blk_frozen BK142.out 1
         have hfz18_2 := blk_frozen BK142.out 2
         have p143 : 0 ≤ (0 : Int) := (by omega)
         have q143 : 0 < (l0_0.length : Int) := of_decide_eq_true (by first | (with_reducible assumption) | assumption)
         obtain ⟨ad143, A143_3, c143_3, e143, hx143_0, hx143_1, hx143_2, hx143_3, hl143_3, hi143_3⟩ := at_T52 HR0_0.out 0 p143 q143
         cases e143
         have qi143 : (0 < l0_0.length) = True := eq_true (by omega)
         (try rw [show ((0 : Int)).toNat = 0 from rfl] at hx143_0)
         (try rw [show 0 * 4 = 0 from rfl] at hx143_0)
         (try rw [Addr.add_zero'] at hx143_0)
         (try rw [show ((0 : Int)).toNat = 0 from rfl] at hx143_1)
         (try rw [show 0 * 4 = 0 from rfl] at hx143_1)
         (try rw [Addr.add_zero'] at hx143_1)
         (try rw [show ((0 : Int)).toNat = 0 from rfl] at hx143_2)
         (try rw [show 0 * 4 = 0 from rfl] at hx143_2)
         (try rw [Addr.add_zero'] at hx143_2)
         (try rw [show ((0 : Int)).toNat = 0 from rfl] at hx143_3)
         (try rw [show 0 * 4 = 0 from rfl] at hx143_3)
         (try rw [Addr.add_zero'] at hx143_3)
         replace hx143_0 := (HB.out.cell (World.block_lt_of_cell? w _ hx143_0)).trans hx143_0
         replace hx143_1 := (HB.out.cell (World.block_lt_of_cell? w _ hx143_1)).trans hx143_1
         replace hx143_2 := (HB.out.cell (World.block_lt_of_cell? w _ hx143_2)).trans hx143_2
         replace hx143_3 := (HB.out.cell (World.block_lt_of_cell? w _ hx143_3)).trans hx143_3
         have HR143_3 := Aside0.mk hi143_3
         have HC143_3 := Aside0.mk hl143_3
         clear hi143_3 hl143_3
         replace p143 := eq_true p143
         replace q143 := eq_true q143
         go_wp2_with (first | (go_at_call 19; (with_reducible refine (spec_progTo.calls _ _ l0_0 a0_1 a0_2 a0_1 true _ ?side1 ?side2 A11.out).mono ?_); (case side1 => repeat (first | exact (Kd.C_below HR0_0.out HB.out) | (with_reducible refine Kd.C_alloc ?_ _) | (with_reducible refine Kd.C_drewN ?_ _) | (with_reducible refine Kd.C_drew ?_))); (case side2 => exact HC0_0.out); rintro e w19 ⟨rfl, hb⟩; have n0_ := Aside0.mk (blk_below (g := gb142) (o := .cells #[.slice (some ad143) l0_0.length c0_0, .int .i64 a0_1, .int .i64 a0_2] 24 (0, 0)) (by (with_reducible repeat (first | refine blk_drewN ?_ _ | refine blk_drew ?_ | refine blk_alloc ?_ _)); exact BK142.out) hb); have n1_ := Aside0.mk (below_step (by repeat (first | (with_reducible first | exact HB.out | apply below_alloc | apply pw_below_drewN | apply below_drew1 | refine below_set ?_ GE142.out) | exact HB.out)) hb); clear BK142; clear HB; have BK142 := n0_; have HB := n1_; clear n0_ n1_; (try clear hb); (try clear hb2); (try clear hk); (try clear hi); have hcz20_0 : w19.cell? ⟨gb142, 0, none⟩ = some (.slice (some ad143) l0_0.length c0_0) := (blk_cell BK142.out 0).trans rfl; have hcz20_1 : w19.cell? ⟨gb142, 1, none⟩ = some (.int .i64 a0_1) := (blk_cell BK142.out 1).trans rfl; have hcz20_2 : w19.cell? ⟨gb142, 2, none⟩ = some (.int .i64 a0_2) := (blk_cell BK142.out 2).trans rfl; have hfz20_0 := blk_frozen BK142.out 0; have hfz20_1 := blk_frozen BK142.out 1; have hfz20_2 := blk_frozen BK142.out 2))
         go_meet
         case rel => exact ⟨_, (true), (by first | rfl | (simp; done) | (simp [*]; done)), H', ⟨by first | omega | exact Nat.le_refl _⟩, ⟨by (with_reducible repeat (first | refine blk_drewN ?_ _ | refine blk_drew ?_ | refine blk_alloc ?_ _)); exact BK142.out⟩, ⟨by repeat (first | (with_reducible first | exact HB.out | apply below_alloc | apply pw_below_drewN | apply below_drew1 | refine below_set ?_ GE142.out) | exact HB.out)⟩⟩
        ·rw [if_neg c17] at H
         have c17b0 : decide (2002 < a0_2) = false := decide_eq_false c17
         clear c17
         have H' := Aside0.mk H
         clear H
         have hcz21_0 : w4.cell? ⟨gb142, 0, none⟩ = some (.slice A0_0 l0_0.length c0_0) := (blk_cell BK142.out 0).trans rfl
         have hcz21_1 : w4.cell? ⟨gb142, 1, none⟩ = some (.int .i64 a0_1) := (blk_cell BK142.out 1).trans rfl
         have hcz21_2 : w4.cell? ⟨gb142, 2, none⟩ = some (.int .i64 a0_2) := (blk_cell BK142.out 2).trans rfl
         have hfz21_0 := blk_frozen BK142.out 0
         have hfz21_1 := blk_frozen BK142.out 1
         have hfz21_2 := blk_frozen BK142.out 2
         have p143 : 0 ≤ (0 : Int) := (by omega)
         have q143 : 0 < (l0_0.length : Int) := of_decide_eq_true (by first | (with_reducible assumption) | assumption)
         obtain ⟨ad143, A143_3, c143_3, e143, hx143_0, hx143_1, hx143_2, hx143_3, hl143_3, hi143_3⟩ := at_T52 HR0_0.out 0 p143 q143
         cases e143
         have qi143 : (0 < l0_0.length) = True := eq_true (by omega)
         (try rw [show ((0 : Int)).toNat = 0 from rfl] at hx143_0)
         (try rw [show 0 * 4 = 0 from rfl] at hx143_0)
         (try rw [Addr.add_zero'] at hx143_0)
         (try rw [show ((0 : Int)).toNat = 0 from rfl] at hx143_1)
         (try rw [show 0 * 4 = 0 from rfl] at hx143_1)
         (try rw [Addr.add_zero'] at hx143_1)
         (try rw [show ((0 : Int)).toNat = 0 from rfl] at hx143_2)
         (try rw [show 0 * 4 = 0 from rfl] at hx143_2)
         (try rw [Addr.add_zero'] at hx143_2)
         (try rw [show ((0 : Int)).toNat = 0 from rfl] at hx143_3)
         (try rw [show 0 * 4 = 0 from rfl] at hx143_3)
         (try rw [Addr.add_zero'] at hx143_3)
         replace hx143_0 := (HB.out.cell (World.block_lt_of_cell? w _ hx143_0)).trans hx143_0
         replace hx143_1 := (HB.out.cell (World.block_lt_of_cell? w _ hx143_1)).trans hx143_1
         replace hx143_2 := (HB.out.cell (World.block_lt_of_cell? w _ hx143_2)).trans hx143_2
         replace hx143_3 := (HB.out.cell (World.block_lt_of_cell? w _ hx143_3)).trans hx143_3
         have HR143_3 := Aside0.mk hi143_3
         have HC143_3 := Aside0.mk hl143_3
         clear hi143_3 hl143_3
         replace p143 := eq_true p143
         replace q143 := eq_true q143
         go_wp2_with (first | (go_at_call 19; (with_reducible refine (spec_progTo.calls _ _ l0_0 a0_1 a0_2 a0_1 true _ ?side1 ?side2 A11.out).mono ?_); (case side1 => repeat (first | exact (Kd.C_below HR0_0.out HB.out) | (with_reducible refine Kd.C_alloc ?_ _) | (with_reducible refine Kd.C_drewN ?_ _) | (with_reducible refine Kd.C_drew ?_))); (case side2 => exact HC0_0.out); rintro e w22 ⟨rfl, hb⟩; have n0_ := Aside0.mk (blk_below (g := gb142) (o := .cells #[.slice (some ad143) l0_0.length c0_0, .int .i64 a0_1, .int .i64 a0_2] 24 (0, 0)) (by (with_reducible repeat (first | refine blk_drewN ?_ _ | refine blk_drew ?_ | refine blk_alloc ?_ _)); exact BK142.out) hb); have n1_ := Aside0.mk (below_step (by repeat (first | (with_reducible first | exact HB.out | apply below_alloc | apply pw_below_drewN | apply below_drew1 | refine below_set ?_ GE142.out) | exact HB.out)) hb); clear BK142; clear HB; have BK142 := n0_; have HB := n1_; clear n0_ n1_; (try clear hb); (try clear hb2); (try clear hk); (try clear hi); have hcz23_0 : w22.cell? ⟨gb142, 0, none⟩ = some (.slice (some ad143) l0_0.length c0_0) := (blk_cell BK142.out 0).trans rfl; have hcz23_1 : w22.cell? ⟨gb142, 1, none⟩ = some (.int .i64 a0_1) := (blk_cell BK142.out 1).trans rfl; have hcz23_2 : w22.cell? ⟨gb142, 2, none⟩ = some (.int .i64 a0_2) := (blk_cell BK142.out 2).trans rfl; have hfz23_0 := blk_frozen BK142.out 0; have hfz23_1 := blk_frozen BK142.out 1; have hfz23_2 := blk_frozen BK142.out 2))
         go_meet
         case rel => exact ⟨_, (((Int.tmod a0_2 2) != 0)), (by first | rfl | (simp; done) | (simp [*]; done)), H', ⟨by first | omega | exact Nat.le_refl _⟩, ⟨by (with_reducible repeat (first | refine blk_drewN ?_ _ | refine blk_drew ?_ | refine blk_alloc ?_ _)); exact BK142.out⟩, ⟨by repeat (first | (with_reducible first | exact HB.out | apply below_alloc | apply pw_below_drewN | apply below_drew1 | refine below_set ?_ GE142.out) | exact HB.out)⟩⟩
      ·replace c12 := Bool.eq_false_iff.mpr c12
       subst c12
       have H1 : (spec_ProgSound.j0 k true l0_0 a0_1 a0_2) = some r := by rw [if_neg (show ¬ (false = true) by decide)] at H; exact H
       clear H
       have H := H1
       clear H1
       have H' := Aside0.mk H
       clear H
       have hcz24_0 : w4.cell? ⟨gb142, 0, none⟩ = some (.slice A0_0 l0_0.length c0_0) := (blk_cell BK142.out 0).trans rfl
       have hcz24_1 : w4.cell? ⟨gb142, 1, none⟩ = some (.int .i64 a0_1) := (blk_cell BK142.out 1).trans rfl
       have hcz24_2 : w4.cell? ⟨gb142, 2, none⟩ = some (.int .i64 a0_2) := (blk_cell BK142.out 2).trans rfl
       have hfz24_0 := blk_frozen BK142.out 0
       have hfz24_1 := blk_frozen BK142.out 1
       have hfz24_2 := blk_frozen BK142.out 2
       have p143 : 0 ≤ (0 : Int) := (by omega)
       have q143 : 0 < (l0_0.length : Int) := of_decide_eq_true (by first | (with_reducible assumption) | assumption)
       obtain ⟨ad143, A143_3, c143_3, e143, hx143_0, hx143_1, hx143_2, hx143_3, hl143_3, hi143_3⟩ := at_T52 HR0_0.out 0 p143 q143
       cases e143
       have qi143 : (0 < l0_0.length) = True := eq_true (by omega)
       (try rw [show ((0 : Int)).toNat = 0 from rfl] at hx143_0)
       (try rw [show 0 * 4 = 0 from rfl] at hx143_0)
       (try rw [Addr.add_zero'] at hx143_0)
       (try rw [show ((0 : Int)).toNat = 0 from rfl] at hx143_1)
       (try rw [show 0 * 4 = 0 from rfl] at hx143_1)
       (try rw [Addr.add_zero'] at hx143_1)
       (try rw [show ((0 : Int)).toNat = 0 from rfl] at hx143_2)
       (try rw [show 0 * 4 = 0 from rfl] at hx143_2)
       (try rw [Addr.add_zero'] at hx143_2)
       (try rw [show ((0 : Int)).toNat = 0 from rfl] at hx143_3)
       (try rw [show 0 * 4 = 0 from rfl] at hx143_3)
       (try rw [Addr.add_zero'] at hx143_3)
       replace hx143_0 := (HB.out.cell (World.block_lt_of_cell? w _ hx143_0)).trans hx143_0
       replace hx143_1 := (HB.out.cell (World.block_lt_of_cell? w _ hx143_1)).trans hx143_1
       replace hx143_2 := (HB.out.cell (World.block_lt_of_cell? w _ hx143_2)).trans hx143_2
       replace hx143_3 := (HB.out.cell (World.block_lt_of_cell? w _ hx143_3)).trans hx143_3
       have HR143_3 := Aside0.mk hi143_3
       have HC143_3 := Aside0.mk hl143_3
       clear hi143_3 hl143_3
       replace p143 := eq_true p143
       replace q143 := eq_true q143
       go_wp2_with (first | (go_at_call 19; (with_reducible refine (spec_progTo.calls _ _ l0_0 a0_1 a0_2 a0_1 false _ ?side1 ?side2 A11.out).mono ?_); (case side1 => repeat (first | exact (Kd.C_below HR0_0.out HB.out) | (with_reducible refine Kd.C_alloc ?_ _) | (with_reducible refine Kd.C_drewN ?_ _) | (with_reducible refine Kd.C_drew ?_))); (case side2 => exact HC0_0.out); rintro e w25 ⟨rfl, hb⟩; have n0_ := Aside0.mk (blk_below (g := gb142) (o := .cells #[.slice (some ad143) l0_0.length c0_0, .int .i64 a0_1, .int .i64 a0_2] 24 (0, 0)) (by (with_reducible repeat (first | refine blk_drewN ?_ _ | refine blk_drew ?_ | refine blk_alloc ?_ _)); exact BK142.out) hb); have n1_ := Aside0.mk (below_step (by repeat (first | (with_reducible first | exact HB.out | apply below_alloc | apply pw_below_drewN | apply below_drew1 | refine below_set ?_ GE142.out) | exact HB.out)) hb); clear BK142; clear HB; have BK142 := n0_; have HB := n1_; clear n0_ n1_; (try clear hb); (try clear hb2); (try clear hk); (try clear hi)))
       go_meet
       case rel => exact ⟨_, (true), (by first | rfl | (simp; done) | (simp [*]; done)), H', ⟨by first | omega | exact Nat.le_refl _⟩, ⟨by (with_reducible repeat (first | refine blk_drewN ?_ _ | refine blk_drew ?_ | refine blk_alloc ?_ _)); exact BK142.out⟩, ⟨by repeat (first | (with_reducible first | exact HB.out | apply below_alloc | apply pw_below_drewN | apply below_drew1 | refine below_set ?_ GE142.out) | exact HB.out)⟩⟩
     ·rw [if_neg c10] at H
      have c10b0 : (((rd_T52 l0_0 0).f0) == 5) = false := beq_eq_false_iff_ne.mpr c10
      have c10b1 : (((rd_T52 l0_0 0).f0) != 5) = true := bne_iff_ne.mpr c10
      have H' := Aside0.mk H
      clear H
      have hcz26_0 : w4.cell? ⟨gb142, 0, none⟩ = some (.slice A0_0 l0_0.length c0_0) := (blk_cell BK142.out 0).trans rfl
      have hcz26_1 : w4.cell? ⟨gb142, 1, none⟩ = some (.int .i64 a0_1) := (blk_cell BK142.out 1).trans rfl
      have hcz26_2 : w4.cell? ⟨gb142, 2, none⟩ = some (.int .i64 a0_2) := (blk_cell BK142.out 2).trans rfl
      have hfz26_0 := blk_frozen BK142.out 0
      have hfz26_1 := blk_frozen BK142.out 1
      have hfz26_2 := blk_frozen BK142.out 2
      have p143 : 0 ≤ (0 : Int) := (by omega)
      have q143 : 0 < (l0_0.length : Int) := of_decide_eq_true (by first | (with_reducible assumption) | assumption)
      obtain ⟨ad143, A143_3, c143_3, e143, hx143_0, hx143_1, hx143_2, hx143_3, hl143_3, hi143_3⟩ := at_T52 HR0_0.out 0 p143 q143
      cases e143
      have qi143 : (0 < l0_0.length) = True := eq_true (by omega)
      (try rw [show ((0 : Int)).toNat = 0 from rfl] at hx143_0)
      (try rw [show 0 * 4 = 0 from rfl] at hx143_0)
      (try rw [Addr.add_zero'] at hx143_0)
      (try rw [show ((0 : Int)).toNat = 0 from rfl] at hx143_1)
      (try rw [show 0 * 4 = 0 from rfl] at hx143_1)
      (try rw [Addr.add_zero'] at hx143_1)
      (try rw [show ((0 : Int)).toNat = 0 from rfl] at hx143_2)
      (try rw [show 0 * 4 = 0 from rfl] at hx143_2)
      (try rw [Addr.add_zero'] at hx143_2)
      (try rw [show ((0 : Int)).toNat = 0 from rfl] at hx143_3)
      (try rw [show 0 * 4 = 0 from rfl] at hx143_3)
      (try rw [Addr.add_zero'] at hx143_3)
      replace hx143_0 := (HB.out.cell (World.block_lt_of_cell? w _ hx143_0)).trans hx143_0
      replace hx143_1 := (HB.out.cell (World.block_lt_of_cell? w _ hx143_1)).trans hx143_1
      replace hx143_2 := (HB.out.cell (World.block_lt_of_cell? w _ hx143_2)).trans hx143_2
      replace hx143_3 := (HB.out.cell (World.block_lt_of_cell? w _ hx143_3)).trans hx143_3
      have HR143_3 := Aside0.mk hi143_3
      have HC143_3 := Aside0.mk hl143_3
      clear hi143_3 hl143_3
      replace p143 := eq_true p143
      replace q143 := eq_true q143
      go_wp2
      go_meet
      case rel => exact ⟨_, (true), (by first | rfl | (simp; done) | (simp [*]; done)), H', ⟨by first | omega | exact Nat.le_refl _⟩, ⟨by (with_reducible repeat (first | refine blk_drewN ?_ _ | refine blk_drew ?_ | refine blk_alloc ?_ _)); exact BK142.out⟩, ⟨by repeat (first | (with_reducible first | exact HB.out | apply below_alloc | apply pw_below_drewN | apply below_drew1 | refine below_set ?_ GE142.out) | exact HB.out)⟩⟩
    ·rw [if_neg c9] at H
     exact absurd H (by simp)
 case rest =>
  clear HC3
  try clear c1
  try clear p1
  try clear q1
  try clear hx1
  try clear qi1
  try clear p2
  try clear c5
  try clear c5b0
  try clear c5b1
  try clear c5b2
  try clear c7
  try clear c7b0
  try clear c9
  try clear c9b0
  try clear c9b1
  try clear c10
  try clear c10b0
  try clear c10b1
  try clear c12
  try clear c13
  try clear c13b0
  try clear c14
  try clear p14
  try clear q14
  try clear hx14
  try clear qi14
  try clear c17
  try clear c17b0
  try clear hcz14_0
  try clear hcz14_1
  try clear hcz14_2
  try clear hcz16_0
  try clear hcz16_1
  try clear hcz16_2
  try clear hcz18_0
  try clear hcz18_1
  try clear hcz18_2
  try clear hcz20_0
  try clear hcz20_1
  try clear hcz20_2
  try clear hcz21_0
  try clear hcz21_1
  try clear hcz21_2
  try clear hcz23_0
  try clear hcz23_1
  try clear hcz23_2
  try clear hcz24_0
  try clear hcz24_1
  try clear hcz24_2
  try clear hcz26_0
  try clear hcz26_1
  try clear hcz26_2
  try clear hcz6_0
  try clear hcz6_1
  try clear hcz6_2
  try clear hcz8_0
  try clear hcz8_1
  try clear hcz8_2
  try clear hfz14_0
  try clear hfz14_1
  try clear hfz14_2
  try clear hfz16_0
  try clear hfz16_1
  try clear hfz16_2
  try clear hfz18_0
  try clear hfz18_1
  try clear hfz18_2
  try clear hfz20_0
  try clear hfz20_1
  try clear hfz20_2
  try clear hfz21_0
  try clear hfz21_1
  try clear hfz21_2
  try clear hfz23_0
  try clear hfz23_1
  try clear hfz23_2
  try clear hfz24_0
  try clear hfz24_1
  try clear hfz24_2
  try clear hfz26_0
  try clear hfz26_1
  try clear hfz26_2
  try clear hfz6_0
  try clear hfz6_1
  try clear hfz6_2
  try clear hfz8_0
  try clear hfz8_1
  try clear hfz8_2
  try clear hx143_0
  try clear hx143_1
  try clear hx143_2
  try clear hx143_3
  try clear p143
  try clear q143
  obtain ⟨kq, x49_2, rfl, HA, HJ2, BK142, HB⟩ := hcut
  cases kq with
  | zero => exact absurd HA.out (by simp [spec_ProgSound.j0])
  | succ kj2 =>
   have H := HA.out
   clear HA
   simp only [spec_ProgSound.j0] at H
   by_cases c27 : x49_2 = true
   ·subst c27
    have H1 : (some false) = some r := by rw [if_pos rfl] at H; exact H
    clear H
    have H := H1
    clear H1
    obtain rfl := Option.some.inj H
    go_wp2
    go_ret
    exact ⟨by first | rfl | (simp [errW_none, errW_some] <;> rfl) | (simp [*, errW_none, errW_some] <;> rfl), by repeat (first | (with_reducible first | exact HB.out | apply below_alloc | apply pw_below_drewN | apply below_drew1 | refine below_set ?_ GE142.out) | exact HB.out)⟩
   ·replace c27 := Bool.eq_false_iff.mpr c27
    subst c27
    have H1 : (spec_ProgSound.l0 kj2 l0_0 (l0_0.length : Int) 0 l0_0 a0_1 a0_2) = some r := by rw [if_neg (show ¬ (false = true) by decide)] at H; exact H
    clear H
    have H := H1
    clear H1
    have H' := Aside0.mk H
    clear H
    have hcz28_0 : wc.cell? ⟨gb142, 0, none⟩ = some (.slice A0_0 l0_0.length c0_0) := (blk_cell BK142.out 0).trans rfl
    have hcz28_1 : wc.cell? ⟨gb142, 1, none⟩ = some (.int .i64 a0_1) := (blk_cell BK142.out 1).trans rfl
    have hcz28_2 : wc.cell? ⟨gb142, 2, none⟩ = some (.int .i64 a0_2) := (blk_cell BK142.out 2).trans rfl
    have hfz28_0 := blk_frozen BK142.out 0
    have hfz28_1 := blk_frozen BK142.out 1
    have hfz28_2 := blk_frozen BK142.out 2
    go_wp2
    go_loopg [53] kj2 (fun kq v53 w' => ∃ (x53_2 : Int), v53 = .int .i64 x53_2 ∧ Aside0 (spec_ProgSound.l0 kq l0_0 (l0_0.length : Int) x53_2 l0_0 a0_1 a0_2 = some r) ∧ Aside0 (kq ≤ kj2) ∧ Aside0 (w'.heap[gb142]? = some (.cells #[(.slice A0_0 l0_0.length c0_0), .int .i64 a0_1, .int .i64 a0_2] 24 (0, 0))) ∧ Aside0 (Below w.heap.size w w'))
    case atStart => exact ⟨(0), (by first | rfl | (simp; done) | (simp [*]; done)), H', ⟨Nat.le_refl _⟩, ⟨by (with_reducible repeat (first | refine blk_drewN ?_ _ | refine blk_drew ?_ | refine blk_alloc ?_ _)); exact BK142.out⟩, ⟨by repeat (first | (with_reducible first | exact HB.out | apply below_alloc | apply pw_below_drewN | apply below_drew1 | refine below_set ?_ GE142.out) | exact HB.out)⟩⟩
    case round =>
     clear H'
     try clear c1
     try clear p1
     try clear q1
     try clear hx1
     try clear qi1
     try clear c2
     try clear p2
     try clear c5
     try clear c5b0
     try clear c5b1
     try clear c5b2
     try clear c7
     try clear c7b0
     try clear c9
     try clear c9b0
     try clear c9b1
     try clear c10
     try clear c10b0
     try clear c10b1
     try clear c12
     try clear c13
     try clear c13b0
     try clear c14
     try clear p14
     try clear q14
     try clear hx14
     try clear qi14
     try clear c17
     try clear c17b0
     try clear c27
     try clear hcz14_0
     try clear hcz14_1
     try clear hcz14_2
     try clear hcz16_0
     try clear hcz16_1
     try clear hcz16_2
     try clear hcz18_0
     try clear hcz18_1
     try clear hcz18_2
     try clear hcz20_0
     try clear hcz20_1
     try clear hcz20_2
     try clear hcz21_0
     try clear hcz21_1
     try clear hcz21_2
     try clear hcz23_0
     try clear hcz23_1
     try clear hcz23_2
     try clear hcz24_0
     try clear hcz24_1
     try clear hcz24_2
     try clear hcz26_0
     try clear hcz26_1
     try clear hcz26_2
     try clear hcz28_0
     try clear hcz28_1
     try clear hcz28_2
     try clear hcz6_0
     try clear hcz6_1
     try clear hcz6_2
     try clear hcz8_0
     try clear hcz8_1
     try clear hcz8_2
     try clear hfz14_0
     try clear hfz14_1
     try clear hfz14_2
     try clear hfz16_0
     try clear hfz16_1
     try clear hfz16_2
     try clear hfz18_0
     try clear hfz18_1
     try clear hfz18_2
     try clear hfz20_0
     try clear hfz20_1
     try clear hfz20_2
     try clear hfz21_0
     try clear hfz21_1
     try clear hfz21_2
     try clear hfz23_0
     try clear hfz23_1
     try clear hfz23_2
     try clear hfz24_0
     try clear hfz24_1
     try clear hfz24_2
     try clear hfz26_0
     try clear hfz26_1
     try clear hfz26_2
     try clear hfz28_0
     try clear hfz28_1
     try clear hfz28_2
     try clear hfz6_0
     try clear hfz6_1
     try clear hfz6_2
     try clear hfz8_0
     try clear hfz8_1
     try clear hfz8_2
     try clear hx143_0
     try clear hx143_1
     try clear hx143_2
     try clear hx143_3
     try clear p1
     try clear p14
     try clear p143
     try clear p2
     try clear q1
     try clear q14
     try clear q143
     obtain ⟨x53_2, rfl, HA, HK2, BK142, HB⟩ := hrel
     cases gk with
     | zero => exact absurd HA.out (by simp [spec_ProgSound.l0])
     | succ k2 =>
      have H := HA.out
      clear HA
      simp only [spec_ProgSound.l0] at H
      by_cases c29 : x53_2 < (l0_0.length : Int)
      ·rw [if_pos c29] at H
       have c29b0 : decide (x53_2 < (l0_0.length : Int)) = true := decide_eq_true c29
       clear c29
       by_cases c30 : 0 ≤ x53_2
       ·rw [if_pos c30] at H
        have c30b0 : decide (0 ≤ x53_2) = true := decide_eq_true c30
        clear c30
        by_cases c31 : x53_2 < (l0_0.length : Int)
        ·rw [if_pos c31] at H
         have c31b0 : decide (x53_2 < (l0_0.length : Int)) = true := decide_eq_true c31
         clear c31
         replace H := Option.bind_eq_some_iff.mp H
         obtain ⟨t147, A320, H⟩ := H
         replace H : (if t147 = true then (spec_ProgSound.l0 k2 l0_0 (l0_0.length : Int) (wrap64 (x53_2 + 1)) l0_0 a0_1 a0_2) else (some false)) = some r := H
         have A32 := Aside0.mk A320
         clear A320
         by_cases c33 : t147 = true
         ·subst c33
          have H1 : (spec_ProgSound.l0 k2 l0_0 (l0_0.length : Int) (wrap64 (x53_2 + 1)) l0_0 a0_1 a0_2) = some r := by rw [if_pos rfl] at H; exact H
          clear H
          have H := H1
          clear H1
          have H' := Aside0.mk H
          clear H
          have p145 : 0 ≤ (x53_2 : Int) := of_decide_eq_true (by first | (with_reducible assumption) | assumption)
          have q145 : x53_2 < (l0_0.length : Int) := of_decide_eq_true (by first | (with_reducible assumption) | assumption)
          obtain ⟨ad145, A145_3, c145_3, e145, hx145_0, hx145_1, hx145_2, hx145_3, hl145_3, hi145_3⟩ := at_T52 HR0_0.out x53_2 p145 q145
          cases e145
          replace hx145_0 := (HB.out.cell (World.block_lt_of_cell? w _ hx145_0)).trans hx145_0
          replace hx145_1 := (HB.out.cell (World.block_lt_of_cell? w _ hx145_1)).trans hx145_1
          replace hx145_2 := (HB.out.cell (World.block_lt_of_cell? w _ hx145_2)).trans hx145_2
          replace hx145_3 := (HB.out.cell (World.block_lt_of_cell? w _ hx145_3)).trans hx145_3
          have HR145_3 := Aside0.mk hi145_3
          have HC145_3 := Aside0.mk hl145_3
          clear hi145_3 hl145_3
          replace p145 := eq_true p145
          replace q145 := eq_true q145
          go_wp2_with (first | ((with_reducible refine gate_dst (N := 6) rfl ?_); (try (refine gate_guard (by rfl) ?_; dsimp only)); refine box_event ?hg (N := 6) ?hd (cs := #[.int .i64 0, .int .i64 0, .int .i64 0, .slice none 0 0]) (t := 52) ?hr ?_; (case hd => rfl); (case hg => rfl); (case hr => first | (go_simp; done) | (go_simp; rfl)); intro gb146 hg w34 hbox hb; have n0_ := Aside0.mk (blk_below (g := gb142) (o := .cells #[.slice (some ad145) l0_0.length c0_0, .int .i64 a0_1, .int .i64 a0_2] 24 (0, 0)) (by (with_reducible repeat (first | refine blk_drewN ?_ _ | refine blk_drew ?_ | refine blk_alloc ?_ _)); exact BK142.out) hb); have n1_ := Aside0.mk (below_step (by repeat (first | (with_reducible first | exact HB.out | apply below_alloc | apply pw_below_drewN | apply below_drew1 | refine below_set ?_ GE142.out) | exact HB.out)) hb); have n2_ := Aside0.mk (hbox); have n3_ := Aside0.mk ((by rw [hg]; exact (below_size (by repeat (first | (with_reducible first | exact HB.out | apply below_alloc | apply pw_below_drewN | apply below_drew1 | refine below_set ?_ GE142.out) | exact HB.out))) : w.heap.size ≤ gb146)); have n4_ := Aside0.mk ((by rw [hg]; exact (below_size (by repeat (first | (with_reducible first | exact HB.out | apply below_alloc | apply pw_below_drewN | apply below_drew1 | refine below_set ?_ GE142.out) | exact HB.out))) : w.heap.size ≤ gb146)); have n5_ := Aside0.mk ((by rw [hg]; exact Nat.ne_of_lt (blk_lt (g := gb142) (o := .cells #[.slice (some ad145) l0_0.length c0_0, .int .i64 a0_1, .int .i64 a0_2] 24 (0, 0)) (by (with_reducible repeat (first | refine blk_drewN ?_ _ | refine blk_drew ?_ | refine blk_alloc ?_ _)); exact BK142.out)) : gb142 ≠ gb146)); have n6_ := Aside0.mk ((by rw [hg]; exact Nat.ne_of_gt (blk_lt (g := gb142) (o := .cells #[.slice (some ad145) l0_0.length c0_0, .int .i64 a0_1, .int .i64 a0_2] 24 (0, 0)) (by (with_reducible repeat (first | refine blk_drewN ?_ _ | refine blk_drew ?_ | refine blk_alloc ?_ _)); exact BK142.out)) : gb146 ≠ gb142)); clear BK142; clear HB; have BK142 := n0_; have HB := n1_; have BK146 := n2_; have GW146 := n3_; have GE146 := n4_; have NB142_146 := n5_; have NB146_142 := n6_; clear n0_ n1_ n2_ n3_ n4_ n5_ n6_; clear hb hbox hg; have hnb35 := NB146_142.out; have hnc35 := NB142_146.out; have hcz36_0 : w34.cell? ⟨gb146, 0, none⟩ = some (.int .i64 0) := (blk_cell BK146.out 0).trans rfl; have hcz36_1 : w34.cell? ⟨gb146, 1, none⟩ = some (.int .i64 0) := (blk_cell BK146.out 1).trans rfl; have hcz36_2 : w34.cell? ⟨gb146, 2, none⟩ = some (.int .i64 0) := (blk_cell BK146.out 2).trans rfl; have hcz36_3 : w34.cell? ⟨gb146, 3, none⟩ = some (.slice none 0 0) := (blk_cell BK146.out 3).trans rfl; have hfz36_0 := blk_frozen BK146.out 0; have hfz36_1 := blk_frozen BK146.out 1; have hfz36_2 := blk_frozen BK146.out 2; have hfz36_3 := blk_frozen BK146.out 3; have hcz37_0 : w34.cell? ⟨gb142, 0, none⟩ = some (.slice (some ad145) l0_0.length c0_0) := (blk_cell BK142.out 0).trans rfl; have hcz37_1 : w34.cell? ⟨gb142, 1, none⟩ = some (.int .i64 a0_1) := (blk_cell BK142.out 1).trans rfl; have hcz37_2 : w34.cell? ⟨gb142, 2, none⟩ = some (.int .i64 a0_2) := (blk_cell BK142.out 2).trans rfl; have hfz37_0 := blk_frozen BK142.out 0; have hfz37_1 := blk_frozen BK142.out 1; have hfz37_2 := blk_frozen BK142.out 2) | ((with_reducible refine gate_callee (f := 20) rfl ?_); refine goesL_ (some 59) rfl rfl Tryd.func20 (by kernel_rfl) rfl #[.agg #[.slice (some ad145) l0_0.length c0_0, .int .i64 a0_1, .int .i64 a0_2], .agg #[.int .i64 ((rd_T52 l0_0 x53_2).f0), .int .i64 ((rd_T52 l0_0 x53_2).f1), .int .i64 ((rd_T52 l0_0 x53_2).f2), .slice A145_3 ((rd_T52 l0_0 x53_2).f3).length c145_3]] rfl (by (try simp only [List.map_toArray, List.map_cons, List.map_nil]); first | done | rfl | (simp only [List.length_drop, List.length_take]; rfl)) ?_; (with_reducible refine (spec_progInst.calls k2 _ _ l0_0 a0_1 a0_2 ((rd_T52 l0_0 x53_2).f0) ((rd_T52 l0_0 x53_2).f1) ((rd_T52 l0_0 x53_2).f2) _ _ ((rd_T52 l0_0 x53_2).f3) true _ ?side1 ?side2 ?side3 ?side4 A32.out).mono ?_); (case side1 => exact Kd.C_below HR0_0.out (by repeat (first | (with_reducible first | exact HB.out | apply below_alloc | apply pw_below_drewN | apply below_drew1 | refine below_set ?_ GE142.out | refine below_set ?_ GE146.out) | exact HB.out))); (case side2 => exact HC0_0.out); (case side3 => exact Kd.C_below HR145_3.out (by repeat (first | (with_reducible first | exact HB.out | apply below_alloc | apply pw_below_drewN | apply below_drew1 | refine below_set ?_ GE142.out | refine below_set ?_ GE146.out) | exact HB.out))); (case side4 => exact HC145_3.out); rintro e w38 ⟨rfl, hb⟩; refine ⟨_, rfl, ?_⟩; have n0_ := Aside0.mk (blk_below (g := gb142) (o := .cells #[.slice (some ad145) l0_0.length c0_0, .int .i64 a0_1, .int .i64 a0_2] 24 (0, 0)) (by (with_reducible repeat (first | refine blk_drewN ?_ _ | refine blk_drew ?_ | refine blk_alloc ?_ _)); refine blk_far ?_ NB142_146.out _; (with_reducible repeat (first | refine blk_drewN ?_ _ | refine blk_drew ?_ | refine blk_alloc ?_ _)); refine blk_far ?_ NB142_146.out _; (with_reducible repeat (first | refine blk_drewN ?_ _ | refine blk_drew ?_ | refine blk_alloc ?_ _)); refine blk_far ?_ NB142_146.out _; (with_reducible repeat (first | refine blk_drewN ?_ _ | refine blk_drew ?_ | refine blk_alloc ?_ _)); refine blk_far ?_ NB142_146.out _; (with_reducible repeat (first | refine blk_drewN ?_ _ | refine blk_drew ?_ | refine blk_alloc ?_ _)); exact BK142.out) hb); have n1_ := Aside0.mk (blk_below (g := gb146) (o := .cells #[.int .i64 ((rd_T52 l0_0 x53_2).f0), .int .i64 ((rd_T52 l0_0 x53_2).f1), .int .i64 ((rd_T52 l0_0 x53_2).f2), .slice A145_3 ((rd_T52 l0_0 x53_2).f3).length c145_3] 52 (0, 0)) (by (with_reducible repeat (first | refine blk_drewN ?_ _ | refine blk_drew ?_ | refine blk_alloc ?_ _)); refine blk_put (cs := #[.int .i64 ((rd_T52 l0_0 x53_2).f0), .int .i64 ((rd_T52 l0_0 x53_2).f1), .int .i64 ((rd_T52 l0_0 x53_2).f2), .slice none 0 0]) ?_ 3 _ rfl; (with_reducible repeat (first | refine blk_drewN ?_ _ | refine blk_drew ?_ | refine blk_alloc ?_ _)); refine blk_put (cs := #[.int .i64 ((rd_T52 l0_0 x53_2).f0), .int .i64 ((rd_T52 l0_0 x53_2).f1), .int .i64 0, .slice none 0 0]) ?_ 2 _ rfl; (with_reducible repeat (first | refine blk_drewN ?_ _ | refine blk_drew ?_ | refine blk_alloc ?_ _)); refine blk_put (cs := #[.int .i64 ((rd_T52 l0_0 x53_2).f0), .int .i64 0, .int .i64 0, .slice none 0 0]) ?_ 1 _ rfl; (with_reducible repeat (first | refine blk_drewN ?_ _ | refine blk_drew ?_ | refine blk_alloc ?_ _)); refine blk_put (cs := #[.int .i64 0, .int .i64 0, .int .i64 0, .slice none 0 0]) ?_ 0 _ rfl; (with_reducible repeat (first | refine blk_drewN ?_ _ | refine blk_drew ?_ | refine blk_alloc ?_ _)); exact BK146.out) hb); have n2_ := Aside0.mk (below_step (by repeat (first | (with_reducible first | exact HB.out | apply below_alloc | apply pw_below_drewN | apply below_drew1 | refine below_set ?_ GE142.out | refine below_set ?_ GE146.out) | exact HB.out)) hb); clear BK142; clear BK146; clear HB; have BK142 := n0_; have BK146 := n1_; have HB := n2_; clear n0_ n1_ n2_; (try clear hb); (try clear hb2); (try clear hk); (try clear hi)))
          go_roundg k2
          case measure => have := HJ2.out; have := HK2.out; omega
          case rel => exact ⟨(wrap64 (x53_2 + 1)), (by first | rfl | (simp; done) | (simp [*]; done)), H', ⟨by have := HJ2.out; have := HK2.out; omega⟩, ⟨by (with_reducible repeat (first | refine blk_drewN ?_ _ | refine blk_drew ?_ | refine blk_alloc ?_ _)); exact BK142.out⟩, ⟨by repeat (first | (with_reducible first | exact HB.out | apply below_alloc | apply pw_below_drewN | apply below_drew1 | refine below_set ?_ GE142.out | refine below_set ?_ GE146.out) | exact HB.out)⟩⟩
         ·replace c33 := Bool.eq_false_iff.mpr c33
          subst c33
          have H1 : (some false) = some r := by rw [if_neg (show ¬ (false = true) by decide)] at H; exact H
          clear H
          have H := H1
          clear H1
          obtain rfl := Option.some.inj H
          have p145 : 0 ≤ (x53_2 : Int) := of_decide_eq_true (by first | (with_reducible assumption) | assumption)
          have q145 : x53_2 < (l0_0.length : Int) := of_decide_eq_true (by first | (with_reducible assumption) | assumption)
          obtain ⟨ad145, A145_3, c145_3, e145, hx145_0, hx145_1, hx145_2, hx145_3, hl145_3, hi145_3⟩ := at_T52 HR0_0.out x53_2 p145 q145
          cases e145
          replace hx145_0 := (HB.out.cell (World.block_lt_of_cell? w _ hx145_0)).trans hx145_0
          replace hx145_1 := (HB.out.cell (World.block_lt_of_cell? w _ hx145_1)).trans hx145_1
          replace hx145_2 := (HB.out.cell (World.block_lt_of_cell? w _ hx145_2)).trans hx145_2
          replace hx145_3 := (HB.out.cell (World.block_lt_of_cell? w _ hx145_3)).trans hx145_3
          have HR145_3 := Aside0.mk hi145_3
          have HC145_3 := Aside0.mk hl145_3
          clear hi145_3 hl145_3
          replace p145 := eq_true p145
          replace q145 := eq_true q145
          go_wp2_with (first | ((with_reducible refine gate_dst (N := 6) rfl ?_); (try (refine gate_guard (by rfl) ?_; dsimp only)); refine box_event ?hg (N := 6) ?hd (cs := #[.int .i64 0, .int .i64 0, .int .i64 0, .slice none 0 0]) (t := 52) ?hr ?_; (case hd => rfl); (case hg => rfl); (case hr => first | (go_simp; done) | (go_simp; rfl)); intro gb146 hg w39 hbox hb; have n0_ := Aside0.mk (blk_below (g := gb142) (o := .cells #[.slice (some ad145) l0_0.length c0_0, .int .i64 a0_1, .int .i64 a0_2] 24 (0, 0)) (by (with_reducible repeat (first | refine blk_drewN ?_ _ | refine blk_drew ?_ | refine blk_alloc ?_ _)); exact BK142.out) hb); have n1_ := Aside0.mk (below_step (by repeat (first | (with_reducible first | exact HB.out | apply below_alloc | apply pw_below_drewN | apply below_drew1 | refine below_set ?_ GE142.out) | exact HB.out)) hb); have n2_ := Aside0.mk (hbox); have n3_ := Aside0.mk ((by rw [hg]; exact (below_size (by repeat (first | (with_reducible first | exact HB.out | apply below_alloc | apply pw_below_drewN | apply below_drew1 | refine below_set ?_ GE142.out) | exact HB.out))) : w.heap.size ≤ gb146)); have n4_ := Aside0.mk ((by rw [hg]; exact (below_size (by repeat (first | (with_reducible first | exact HB.out | apply below_alloc | apply pw_below_drewN | apply below_drew1 | refine below_set ?_ GE142.out) | exact HB.out))) : w.heap.size ≤ gb146)); have n5_ := Aside0.mk ((by rw [hg]; exact Nat.ne_of_lt (blk_lt (g := gb142) (o := .cells #[.slice (some ad145) l0_0.length c0_0, .int .i64 a0_1, .int .i64 a0_2] 24 (0, 0)) (by (with_reducible repeat (first | refine blk_drewN ?_ _ | refine blk_drew ?_ | refine blk_alloc ?_ _)); exact BK142.out)) : gb142 ≠ gb146)); have n6_ := Aside0.mk ((by rw [hg]; exact Nat.ne_of_gt (blk_lt (g := gb142) (o := .cells #[.slice (some ad145) l0_0.length c0_0, .int .i64 a0_1, .int .i64 a0_2] 24 (0, 0)) (by (with_reducible repeat (first | refine blk_drewN ?_ _ | refine blk_drew ?_ | refine blk_alloc ?_ _)); exact BK142.out)) : gb146 ≠ gb142)); clear BK142; clear HB; have BK142 := n0_; have HB := n1_; have BK146 := n2_; have GW146 := n3_; have GE146 := n4_; have NB142_146 := n5_; have NB146_142 := n6_; clear n0_ n1_ n2_ n3_ n4_ n5_ n6_; clear hb hbox hg; have hnb40 := NB146_142.out; have hnc40 := NB142_146.out; have hcz41_0 : w39.cell? ⟨gb146, 0, none⟩ = some (.int .i64 0) := (blk_cell BK146.out 0).trans rfl; have hcz41_1 : w39.cell? ⟨gb146, 1, none⟩ = some (.int .i64 0) := (blk_cell BK146.out 1).trans rfl; have hcz41_2 : w39.cell? ⟨gb146, 2, none⟩ = some (.int .i64 0) := (blk_cell BK146.out 2).trans rfl; have hcz41_3 : w39.cell? ⟨gb146, 3, none⟩ = some (.slice none 0 0) := (blk_cell BK146.out 3).trans rfl; have hfz41_0 := blk_frozen BK146.out 0; have hfz41_1 := blk_frozen BK146.out 1; have hfz41_2 := blk_frozen BK146.out 2; have hfz41_3 := blk_frozen BK146.out 3; have hcz42_0 : w39.cell? ⟨gb142, 0, none⟩ = some (.slice (some ad145) l0_0.length c0_0) := (blk_cell BK142.out 0).trans rfl; have hcz42_1 : w39.cell? ⟨gb142, 1, none⟩ = some (.int .i64 a0_1) := (blk_cell BK142.out 1).trans rfl; have hcz42_2 : w39.cell? ⟨gb142, 2, none⟩ = some (.int .i64 a0_2) := (blk_cell BK142.out 2).trans rfl; have hfz42_0 := blk_frozen BK142.out 0; have hfz42_1 := blk_frozen BK142.out 1; have hfz42_2 := blk_frozen BK142.out 2) | ((with_reducible refine gate_callee (f := 20) rfl ?_); refine goesL_ (some 59) rfl rfl Tryd.func20 (by kernel_rfl) rfl #[.agg #[.slice (some ad145) l0_0.length c0_0, .int .i64 a0_1, .int .i64 a0_2], .agg #[.int .i64 ((rd_T52 l0_0 x53_2).f0), .int .i64 ((rd_T52 l0_0 x53_2).f1), .int .i64 ((rd_T52 l0_0 x53_2).f2), .slice A145_3 ((rd_T52 l0_0 x53_2).f3).length c145_3]] rfl (by (try simp only [List.map_toArray, List.map_cons, List.map_nil]); first | done | rfl | (simp only [List.length_drop, List.length_take]; rfl)) ?_; (with_reducible refine (spec_progInst.calls k2 _ _ l0_0 a0_1 a0_2 ((rd_T52 l0_0 x53_2).f0) ((rd_T52 l0_0 x53_2).f1) ((rd_T52 l0_0 x53_2).f2) _ _ ((rd_T52 l0_0 x53_2).f3) false _ ?side1 ?side2 ?side3 ?side4 A32.out).mono ?_); (case side1 => exact Kd.C_below HR0_0.out (by repeat (first | (with_reducible first | exact HB.out | apply below_alloc | apply pw_below_drewN | apply below_drew1 | refine below_set ?_ GE142.out | refine below_set ?_ GE146.out) | exact HB.out))); (case side2 => exact HC0_0.out); (case side3 => exact Kd.C_below HR145_3.out (by repeat (first | (with_reducible first | exact HB.out | apply below_alloc | apply pw_below_drewN | apply below_drew1 | refine below_set ?_ GE142.out | refine below_set ?_ GE146.out) | exact HB.out))); (case side4 => exact HC145_3.out); rintro e w43 ⟨rfl, hb⟩; refine ⟨_, rfl, ?_⟩; have n0_ := Aside0.mk (blk_below (g := gb142) (o := .cells #[.slice (some ad145) l0_0.length c0_0, .int .i64 a0_1, .int .i64 a0_2] 24 (0, 0)) (by (with_reducible repeat (first | refine blk_drewN ?_ _ | refine blk_drew ?_ | refine blk_alloc ?_ _)); refine blk_far ?_ NB142_146.out _; (with_reducible repeat (first | refine blk_drewN ?_ _ | refine blk_drew ?_ | refine blk_alloc ?_ _)); refine blk_far ?_ NB142_146.out _; (with_reducible repeat (first | refine blk_drewN ?_ _ | refine blk_drew ?_ | refine blk_alloc ?_ _)); refine blk_far ?_ NB142_146.out _; (with_reducible repeat (first | refine blk_drewN ?_ _ | refine blk_drew ?_ | refine blk_alloc ?_ _)); refine blk_far ?_ NB142_146.out _; (with_reducible repeat (first | refine blk_drewN ?_ _ | refine blk_drew ?_ | refine blk_alloc ?_ _)); exact BK142.out) hb); have n1_ := Aside0.mk (blk_below (g := gb146) (o := .cells #[.int .i64 ((rd_T52 l0_0 x53_2).f0), .int .i64 ((rd_T52 l0_0 x53_2).f1), .int .i64 ((rd_T52 l0_0 x53_2).f2), .slice A145_3 ((rd_T52 l0_0 x53_2).f3).length c145_3] 52 (0, 0)) (by (with_reducible repeat (first | refine blk_drewN ?_ _ | refine blk_drew ?_ | refine blk_alloc ?_ _)); refine blk_put (cs := #[.int .i64 ((rd_T52 l0_0 x53_2).f0), .int .i64 ((rd_T52 l0_0 x53_2).f1), .int .i64 ((rd_T52 l0_0 x53_2).f2), .slice none 0 0]) ?_ 3 _ rfl; (with_reducible repeat (first | refine blk_drewN ?_ _ | refine blk_drew ?_ | refine blk_alloc ?_ _)); refine blk_put (cs := #[.int .i64 ((rd_T52 l0_0 x53_2).f0), .int .i64 ((rd_T52 l0_0 x53_2).f1), .int .i64 0, .slice none 0 0]) ?_ 2 _ rfl; (with_reducible repeat (first | refine blk_drewN ?_ _ | refine blk_drew ?_ | refine blk_alloc ?_ _)); refine blk_put (cs := #[.int .i64 ((rd_T52 l0_0 x53_2).f0), .int .i64 0, .int .i64 0, .slice none 0 0]) ?_ 1 _ rfl; (with_reducible repeat (first | refine blk_drewN ?_ _ | refine blk_drew ?_ | refine blk_alloc ?_ _)); refine blk_put (cs := #[.int .i64 0, .int .i64 0, .int .i64 0, .slice none 0 0]) ?_ 0 _ rfl; (with_reducible repeat (first | refine blk_drewN ?_ _ | refine blk_drew ?_ | refine blk_alloc ?_ _)); exact BK146.out) hb); have n2_ := Aside0.mk (below_step (by repeat (first | (with_reducible first | exact HB.out | apply below_alloc | apply pw_below_drewN | apply below_drew1 | refine below_set ?_ GE142.out | refine below_set ?_ GE146.out) | exact HB.out)) hb); clear BK142; clear BK146; clear HB; have BK142 := n0_; have BK146 := n1_; have HB := n2_; clear n0_ n1_ n2_; (try clear hb); (try clear hb2); (try clear hk); (try clear hi)))
          go_ret
          exact ⟨by first | rfl | (simp [errW_none, errW_some] <;> rfl) | (simp [*, errW_none, errW_some] <;> rfl), by repeat (first | (with_reducible first | exact HB.out | apply below_alloc | apply pw_below_drewN | apply below_drew1 | refine below_set ?_ GE142.out | refine below_set ?_ GE146.out) | exact HB.out)⟩
        ·rw [if_neg c31] at H
         exact absurd H (by simp)
       ·rw [if_neg c30] at H
        exact absurd H (by simp)
      ·rw [if_neg c29] at H
       have c29b0 : decide (x53_2 < (l0_0.length : Int)) = false := decide_eq_false c29
       clear c29
       have H' := Aside0.mk H
       clear H
       have hcz44_0 : wr.cell? ⟨gb142, 0, none⟩ = some (.slice A0_0 l0_0.length c0_0) := (blk_cell BK142.out 0).trans rfl
       have hcz44_1 : wr.cell? ⟨gb142, 1, none⟩ = some (.int .i64 a0_1) := (blk_cell BK142.out 1).trans rfl
       have hcz44_2 : wr.cell? ⟨gb142, 2, none⟩ = some (.int .i64 a0_2) := (blk_cell BK142.out 2).trans rfl
       have hfz44_0 := blk_frozen BK142.out 0
       have hfz44_1 := blk_frozen BK142.out 1
       have hfz44_2 := blk_frozen BK142.out 2
       go_wp2
       go_loopg [65] k2 (fun kq v65 w' => ∃ (x65_3 : Int), v65 = .int .i64 x65_3 ∧ Aside0 (spec_ProgSound.l1 kq (l0_0.length : Int) x65_3 l0_0 a0_1 a0_2 = some r) ∧ Aside0 (kq ≤ k2) ∧ Aside0 (w'.heap[gb142]? = some (.cells #[(.slice A0_0 l0_0.length c0_0), .int .i64 a0_1, .int .i64 a0_2] 24 (0, 0))) ∧ Aside0 (Below w.heap.size w w'))
       case atStart => exact ⟨(0), (by first | rfl | (simp; done) | (simp [*]; done)), H', ⟨Nat.le_refl _⟩, ⟨by (with_reducible repeat (first | refine blk_drewN ?_ _ | refine blk_drew ?_ | refine blk_alloc ?_ _)); exact BK142.out⟩, ⟨by repeat (first | (with_reducible first | exact HB.out | apply below_alloc | apply pw_below_drewN | apply below_drew1 | refine below_set ?_ GE142.out) | exact HB.out)⟩⟩
       case round =>
        clear H'
        try clear c1
        try clear p1
        try clear q1
        try clear hx1
        try clear qi1
        try clear c2
        try clear p2
        try clear c3
        try clear c4
        try clear c5
        try clear c5b0
        try clear c5b1
        try clear c5b2
        try clear p6
        try clear c7
        try clear c7b0
        try clear c9
        try clear c9b0
        try clear c9b1
        try clear c10
        try clear c10b0
        try clear c10b1
        try clear c12
        try clear c13
        try clear c13b0
        try clear c14
        try clear p14
        try clear q14
        try clear hx14
        try clear qi14
        try clear c17
        try clear c17b0
        try clear c20
        try clear c27
        try clear c29
        try clear c29b0
        try clear c30
        try clear c30b0
        try clear c31
        try clear c31b0
        try clear c33
        try clear c35
        try clear c40
        try clear hcz14_0
        try clear hcz14_1
        try clear hcz14_2
        try clear hcz16_0
        try clear hcz16_1
        try clear hcz16_2
        try clear hcz18_0
        try clear hcz18_1
        try clear hcz18_2
        try clear hcz20_0
        try clear hcz20_1
        try clear hcz20_2
        try clear hcz21_0
        try clear hcz21_1
        try clear hcz21_2
        try clear hcz23_0
        try clear hcz23_1
        try clear hcz23_2
        try clear hcz24_0
        try clear hcz24_1
        try clear hcz24_2
        try clear hcz26_0
        try clear hcz26_1
        try clear hcz26_2
        try clear hcz28_0
        try clear hcz28_1
        try clear hcz28_2
        try clear hcz36_0
        try clear hcz36_1
        try clear hcz36_2
        try clear hcz36_3
        try clear hcz37_0
        try clear hcz37_1
        try clear hcz37_2
        try clear hcz41_0
        try clear hcz41_1
        try clear hcz41_2
        try clear hcz41_3
        try clear hcz42_0
        try clear hcz42_1
        try clear hcz42_2
        try clear hcz44_0
        try clear hcz44_1
        try clear hcz44_2
        try clear hcz6_0
        try clear hcz6_1
        try clear hcz6_2
        try clear hcz8_0
        try clear hcz8_1
        try clear hcz8_2
        try clear hfz14_0
        try clear hfz14_1
        try clear hfz14_2
        try clear hfz16_0
        try clear hfz16_1
        try clear hfz16_2
        try clear hfz18_0
        try clear hfz18_1
        try clear hfz18_2
        try clear hfz20_0
        try clear hfz20_1
        try clear hfz20_2
        try clear hfz21_0
        try clear hfz21_1
        try clear hfz21_2
        try clear hfz23_0
        try clear hfz23_1
        try clear hfz23_2
        try clear hfz24_0
        try clear hfz24_1
        try clear hfz24_2
        try clear hfz26_0
        try clear hfz26_1
        try clear hfz26_2
        try clear hfz28_0
        try clear hfz28_1
        try clear hfz28_2
        try clear hfz36_0
        try clear hfz36_1
        try clear hfz36_2
        try clear hfz36_3
        try clear hfz37_0
        try clear hfz37_1
        try clear hfz37_2
        try clear hfz41_0
        try clear hfz41_1
        try clear hfz41_2
        try clear hfz41_3
        try clear hfz42_0
        try clear hfz42_1
        try clear hfz42_2
        try clear hfz44_0
        try clear hfz44_1
        try clear hfz44_2
        try clear hfz6_0
        try clear hfz6_1
        try clear hfz6_2
        try clear hfz8_0
        try clear hfz8_1
        try clear hfz8_2
        try clear hx143_0
        try clear hx143_1
        try clear hx143_2
        try clear hx143_3
        try clear hx145_0
        try clear hx145_1
        try clear hx145_2
        try clear hx145_3
        try clear p1
        try clear p14
        try clear p143
        try clear p145
        try clear p2
        try clear q1
        try clear q14
        try clear q143
        try clear q145
        obtain ⟨x65_3, rfl, HA, HK3, BK142, HB⟩ := hrel
        cases gk with
        | zero => exact absurd HA.out (by simp [spec_ProgSound.l1])
        | succ k3 =>
         have H := HA.out
         clear HA
         simp only [spec_ProgSound.l1] at H
         by_cases c45 : x65_3 < (l0_0.length : Int)
         ·rw [if_pos c45] at H
          have c45b0 : decide (x65_3 < (l0_0.length : Int)) = true := decide_eq_true c45
          clear c45
          replace H := Option.bind_eq_some_iff.mp H
          obtain ⟨t148, A460, H⟩ := H
          replace H : (if t148 = true then (some false) else (spec_ProgSound.l1 k3 (l0_0.length : Int) (wrap64 (x65_3 + 1)) l0_0 a0_1 a0_2)) = some r := H
          have A46 := Aside0.mk A460
          clear A460
          by_cases c47 : t148 = true
          ·subst c47
           have H1 : (some false) = some r := by rw [if_pos rfl] at H; exact H
           clear H
           have H := H1
           clear H1
           obtain rfl := Option.some.inj H
           have hcz48_0 : wr.cell? ⟨gb142, 0, none⟩ = some (.slice A0_0 l0_0.length c0_0) := (blk_cell BK142.out 0).trans rfl
           have hcz48_1 : wr.cell? ⟨gb142, 1, none⟩ = some (.int .i64 a0_1) := (blk_cell BK142.out 1).trans rfl
           have hcz48_2 : wr.cell? ⟨gb142, 2, none⟩ = some (.int .i64 a0_2) := (blk_cell BK142.out 2).trans rfl
           have hfz48_0 := blk_frozen BK142.out 0
           have hfz48_1 := blk_frozen BK142.out 1
           have hfz48_2 := blk_frozen BK142.out 2
           go_wp2_with (first | ((with_reducible refine gate_callee (f := 21) rfl ?_); refine goesL_ (some 70) rfl rfl Tryd.func21 (by kernel_rfl) rfl #[.agg #[.slice A0_0 l0_0.length c0_0, .int .i64 a0_1, .int .i64 a0_2], .int .i64 x65_3] rfl (by (try simp only [List.map_toArray, List.map_cons, List.map_nil]); first | done | rfl | (simp only [List.length_drop, List.length_take]; rfl)) ?_; (with_reducible refine (spec_progCircle.calls k3 _ _ l0_0 a0_1 a0_2 x65_3 true _ ?side1 ?side2 A46.out).mono ?_); (case side1 => repeat (first | exact (Kd.C_below HR0_0.out HB.out) | (with_reducible refine Kd.C_alloc ?_ _) | (with_reducible refine Kd.C_drewN ?_ _) | (with_reducible refine Kd.C_drew ?_))); (case side2 => exact HC0_0.out); rintro e w49 ⟨rfl, hb⟩; refine ⟨_, rfl, ?_⟩; have n0_ := Aside0.mk (blk_below (g := gb142) (o := .cells #[.slice A0_0 l0_0.length c0_0, .int .i64 a0_1, .int .i64 a0_2] 24 (0, 0)) (by (with_reducible repeat (first | refine blk_drewN ?_ _ | refine blk_drew ?_ | refine blk_alloc ?_ _)); exact BK142.out) hb); have n1_ := Aside0.mk (below_step (by repeat (first | (with_reducible first | exact HB.out | apply below_alloc | apply pw_below_drewN | apply below_drew1 | refine below_set ?_ GE142.out) | exact HB.out)) hb); clear BK142; clear HB; have BK142 := n0_; have HB := n1_; clear n0_ n1_; (try clear hb); (try clear hb2); (try clear hk); (try clear hi)))
           go_ret
           exact ⟨by first | rfl | (simp [errW_none, errW_some] <;> rfl) | (simp [*, errW_none, errW_some] <;> rfl), by repeat (first | (with_reducible first | exact HB.out | apply below_alloc | apply pw_below_drewN | apply below_drew1 | refine below_set ?_ GE142.out) | exact HB.out)⟩
          ·replace c47 := Bool.eq_false_iff.mpr c47
           subst c47
           have H1 : (spec_ProgSound.l1 k3 (l0_0.length : Int) (wrap64 (x65_3 + 1)) l0_0 a0_1 a0_2) = some r := by rw [if_neg (show ¬ (false = true) by decide)] at H; exact H
           clear H
           have H := H1
           clear H1
           have H' := Aside0.mk H
           clear H
           have hcz50_0 : wr.cell? ⟨gb142, 0, none⟩ = some (.slice A0_0 l0_0.length c0_0) := (blk_cell BK142.out 0).trans rfl
           have hcz50_1 : wr.cell? ⟨gb142, 1, none⟩ = some (.int .i64 a0_1) := (blk_cell BK142.out 1).trans rfl
           have hcz50_2 : wr.cell? ⟨gb142, 2, none⟩ = some (.int .i64 a0_2) := (blk_cell BK142.out 2).trans rfl
           have hfz50_0 := blk_frozen BK142.out 0
           have hfz50_1 := blk_frozen BK142.out 1
           have hfz50_2 := blk_frozen BK142.out 2
           go_wp2_with (first | ((with_reducible refine gate_callee (f := 21) rfl ?_); refine goesL_ (some 70) rfl rfl Tryd.func21 (by kernel_rfl) rfl #[.agg #[.slice A0_0 l0_0.length c0_0, .int .i64 a0_1, .int .i64 a0_2], .int .i64 x65_3] rfl (by (try simp only [List.map_toArray, List.map_cons, List.map_nil]); first | done | rfl | (simp only [List.length_drop, List.length_take]; rfl)) ?_; (with_reducible refine (spec_progCircle.calls k3 _ _ l0_0 a0_1 a0_2 x65_3 false _ ?side1 ?side2 A46.out).mono ?_); (case side1 => repeat (first | exact (Kd.C_below HR0_0.out HB.out) | (with_reducible refine Kd.C_alloc ?_ _) | (with_reducible refine Kd.C_drewN ?_ _) | (with_reducible refine Kd.C_drew ?_))); (case side2 => exact HC0_0.out); rintro e w51 ⟨rfl, hb⟩; refine ⟨_, rfl, ?_⟩; have n0_ := Aside0.mk (blk_below (g := gb142) (o := .cells #[.slice A0_0 l0_0.length c0_0, .int .i64 a0_1, .int .i64 a0_2] 24 (0, 0)) (by (with_reducible repeat (first | refine blk_drewN ?_ _ | refine blk_drew ?_ | refine blk_alloc ?_ _)); exact BK142.out) hb); have n1_ := Aside0.mk (below_step (by repeat (first | (with_reducible first | exact HB.out | apply below_alloc | apply pw_below_drewN | apply below_drew1 | refine below_set ?_ GE142.out) | exact HB.out)) hb); clear BK142; clear HB; have BK142 := n0_; have HB := n1_; clear n0_ n1_; (try clear hb); (try clear hb2); (try clear hk); (try clear hi)))
           go_roundg k3
           case measure => have := HJ2.out; have := HK2.out; have := HK3.out; omega
           case rel => exact ⟨(wrap64 (x65_3 + 1)), (by first | rfl | (simp; done) | (simp [*]; done)), H', ⟨by have := HJ2.out; have := HK2.out; have := HK3.out; omega⟩, ⟨by (with_reducible repeat (first | refine blk_drewN ?_ _ | refine blk_drew ?_ | refine blk_alloc ?_ _)); exact BK142.out⟩, ⟨by repeat (first | (with_reducible first | exact HB.out | apply below_alloc | apply pw_below_drewN | apply below_drew1 | refine below_set ?_ GE142.out) | exact HB.out)⟩⟩
         ·rw [if_neg c45] at H
          have c45b0 : decide (x65_3 < (l0_0.length : Int)) = false := decide_eq_false c45
          clear c45
          obtain rfl := Option.some.inj H
          go_wp2
          go_ret
          exact ⟨by first | rfl | (simp [errW_none, errW_some] <;> rfl) | (simp [*, errW_none, errW_some] <;> rfl), by repeat (first | (with_reducible first | exact HB.out | apply below_alloc | apply pw_below_drewN | apply below_drew1 | refine below_set ?_ GE142.out) | exact HB.out)⟩
end Go.Proofs.YtmccgfjhmbioeaaDoor.PFnPgThreads
