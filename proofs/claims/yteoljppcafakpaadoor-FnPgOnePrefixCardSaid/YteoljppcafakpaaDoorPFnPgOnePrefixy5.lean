/- Machine-made: walks of functions of the program, out of the print's own lines. -/
import Derived.Test.YteoljppcafakpaaDoorPFnPgOnePrefixy0
namespace Go.Proofs.YteoljppcafakpaaDoor.PFnPgOnePrefix
open Go.RowKit Go.Proofs.YteoljppcafakpaaDoorW.PrintWords Go.Proofs.YteoljppcafakpaaDoorW.PrintLast Go.Proofs.YteoljppcafakpaaDoorW.PrintMore
attribute [local go_sem] max2_int min2_int max_two min_two max_three min_three max_four min_four   -- for this text's walks alone
set_option linter.unusedVariables false
set_option linter.unusedSimpArgs false

-- NOT PRINTED: function 72 (utf8_decodeRuneInStringSlow)

-- NOT PRINTED: function 48 (utf8_DecodeRuneInString)

-- NOT PRINTED: function 26 (spec_reNext)

-- NOT PRINTED: function 22 (spec_ReBorder)

-- NOT PRINTED: function 8 (laws_pgFine)

/-! ### spec_ProgHalves: function 9 -/
def spec_ProgHalves.l0 : Nat → List (S29) → Int → Int → Option (Bool)
  | 0, _, _, _ => none
  | k + 1, x6, x7, x8 => if x8 < x7 then (if 0 ≤ x8 then (if x8 < (x6.length : Int) then (if (((rd_T29 x6 x8).f3).length : Int) > 0 then (if ((rd_T29 x6 x8).f0) = 8 then (if 0 < (((rd_T29 x6 x8).f3).length : Int) then (if (rd ((rd_T29 x6 x8).f3) 0) ≥ 55296 then (if (rd ((rd_T29 x6 x8).f3) 0) ≤ 57343 then (some true) else (spec_ProgHalves.l0 k x6 x7 (wrap64 (x8 + 1)))) else (spec_ProgHalves.l0 k x6 x7 (wrap64 (x8 + 1)))) else (none)) else (if ((rd_T29 x6 x8).f0) = 7 then (if (((rd_T29 x6 x8).f3).length : Int) = 1 then (if 0 < (((rd_T29 x6 x8).f3).length : Int) then (if (rd ((rd_T29 x6 x8).f3) 0) ≥ 55296 then (if (rd ((rd_T29 x6 x8).f3) 0) ≤ 57343 then (some true) else (spec_ProgHalves.l0 k x6 x7 (wrap64 (x8 + 1)))) else (spec_ProgHalves.l0 k x6 x7 (wrap64 (x8 + 1)))) else (none)) else (spec_ProgHalves.l0 k x6 x7 (wrap64 (x8 + 1)))) else (spec_ProgHalves.l0 k x6 x7 (wrap64 (x8 + 1))))) else (spec_ProgHalves.l0 k x6 x7 (wrap64 (x8 + 1)))) else (none)) else (none)) else (some false)
def spec_ProgHalves.f (k : Nat) (l0_0 : List (S29)) (a0_1 : Int) (a0_2 : Int) : Option (Bool) := spec_ProgHalves.l0 k l0_0 (l0_0.length : Int) 0
theorem spec_ProgHalves.mono_l : ∀ k, (∀ y0 y1 y2, LeO (spec_ProgHalves.l0 k y0 y1 y2) (spec_ProgHalves.l0 (k + 1) y0 y1 y2))
  | 0 => fun _ _ _ r h => by simp [spec_ProgHalves.l0] at h
  | k + 1 => by
    have ih0 := spec_ProgHalves.mono_l k
    · intro y0 y1 y2
      unfold spec_ProgHalves.l0
      repeat' first
      | (with_reducible exact ih0 _ _ _)
      | (with_reducible exact LeO.refl _)
      | (with_reducible exact LeO.none _)
      | (with_reducible refine LeO.ite ?_ ?_)
      | (with_reducible refine LeO.bind ?_ (fun _ => ?_))
      | exact ih0 _ _ _
      | exact LeO.none _
      | refine LeO.ite ?_ ?_
      | refine LeO.bind ?_ (fun _ => ?_)
theorem spec_ProgHalves.mono : ∀ a0 a1 a2 k, LeO (spec_ProgHalves.f k a0 a1 a2) (spec_ProgHalves.f (k + 1) a0 a1 a2) := by
  intro a0 a1 a2 k
  have ih0 := spec_ProgHalves.mono_l k
  unfold spec_ProgHalves.f
  repeat' first
      | (with_reducible exact ih0 _ _ _)
      | (with_reducible exact LeO.refl _)
      | (with_reducible exact LeO.none _)
      | (with_reducible refine LeO.ite ?_ ?_)
      | (with_reducible refine LeO.bind ?_ (fun _ => ?_))
      | exact ih0 _ _ _
      | exact LeO.none _
      | refine LeO.ite ?_ ?_
      | refine LeO.bind ?_ (fun _ => ?_)
set_option maxHeartbeats 8000000 in
set_option maxRecDepth 100000 in
theorem spec_ProgHalves.calls (k : Nat) (A0_0 : Option Addr) (c0_0 : Nat) (l0_0 : List (S29)) (a0_1 : Int) (a0_2 : Int) (r : Bool) (w : World) (hr0_0 : Kd.C k29 w A0_0 l0_0.length l0_0) (hc0_0 : l0_0.length ≤ c0_0) (h : spec_ProgHalves.f k l0_0 a0_1 a0_2 = some r) :
    Calls Tryd.prog 9 #[.agg #[.slice A0_0 l0_0.length c0_0, .int .i64 a0_1, .int .i64 a0_2]] w fun e w' => e = .returned (.bool r) ∧ Below w.heap.size w w' := by
  have hu24 := Tryd.underlying24
  have hu29 := Tryd.underlying29
  have HR0_0 := Aside0.mk hr0_0
  have HC0_0 := Aside0.mk hc0_0
  clear hr0_0 hc0_0
  have HB := Aside0.mk (Below.refl w.heap.size w)
  have H : (spec_ProgHalves.l0 k l0_0 (l0_0.length : Int) 0) = some r := h
  clear h
  have H' := Aside0.mk H
  clear H
  go_enter Tryd.func9, Tryd.ntmps9
  go_wp2_with (first | ((with_reducible refine gate_dst (N := 1) rfl ?_); (try (refine gate_guard (by rfl) ?_; dsimp only)); refine box_event ?hg (N := 1) ?hd (cs := #[.slice A0_0 l0_0.length c0_0, .int .i64 a0_1, .int .i64 a0_2]) (t := 24) ?hr ?_; (case hd => rfl); (case hg => rfl); (case hr => first | (go_simp; done) | (go_simp; rfl)); intro gb151 hg w2 hbox hb; have n0_ := Aside0.mk (below_step (by repeat (first | (with_reducible first | exact HB.out | apply below_alloc | apply pw_below_drewN | apply below_drew1) | exact HB.out)) hb); have n1_ := Aside0.mk (hbox); have n2_ := Aside0.mk ((by rw [hg]; exact (below_size (by repeat (first | (with_reducible first | exact HB.out | apply below_alloc | apply pw_below_drewN | apply below_drew1) | exact HB.out))) : w.heap.size ≤ gb151)); have n3_ := Aside0.mk ((by rw [hg]; exact (below_size (by repeat (first | (with_reducible first | exact HB.out | apply below_alloc | apply pw_below_drewN | apply below_drew1) | exact HB.out))) : w.heap.size ≤ gb151)); clear HB; have HB := n0_; have BK151 := n1_; have GW151 := n2_; have GE151 := n3_; clear n0_ n1_ n2_ n3_; clear hb hbox hg; have hcz3_0 : w2.cell? ⟨gb151, 0, none⟩ = some (.slice A0_0 l0_0.length c0_0) := (blk_cell BK151.out 0).trans rfl; have hcz3_1 : w2.cell? ⟨gb151, 1, none⟩ = some (.int .i64 a0_1) := (blk_cell BK151.out 1).trans rfl; have hcz3_2 : w2.cell? ⟨gb151, 2, none⟩ = some (.int .i64 a0_2) := (blk_cell BK151.out 2).trans rfl; have hfz3_0 := blk_frozen BK151.out 0; have hfz3_1 := blk_frozen BK151.out 1; have hfz3_2 := blk_frozen BK151.out 2))
  go_loopg [8] k (fun kq v8 w' => ∃ (x8_1 : Int), v8 = .int .i64 x8_1 ∧ Aside0 (spec_ProgHalves.l0 kq l0_0 (l0_0.length : Int) x8_1 = some r) ∧ Aside0 (kq ≤ k) ∧ Aside0 (w'.heap[gb151]? = some (.cells #[(.slice A0_0 l0_0.length c0_0), .int .i64 a0_1, .int .i64 a0_2] 24 (0, 0))) ∧ Aside0 (Below w.heap.size w w'))
  case atStart => exact ⟨(0), (by first | rfl | (simp; done) | (simp [*]; done)), H', ⟨Nat.le_refl _⟩, ⟨by (with_reducible repeat (first | refine blk_drewN ?_ _ | refine blk_drew ?_ | refine blk_alloc ?_ _)); exact BK151.out⟩, ⟨by repeat (first | (with_reducible first | exact HB.out | apply below_alloc | apply pw_below_drewN | apply below_drew1 | refine below_set ?_ GE151.out) | exact HB.out)⟩⟩
  case round =>
    clear H'
    try clear p2
    try clear hcz3_0
    try clear hcz3_1
    try clear hcz3_2
    try clear hfz3_0
    try clear hfz3_1
    try clear hfz3_2
    obtain ⟨x8_1, rfl, HA, HK1, BK151, HB⟩ := hrel
    cases gk with
    | zero => exact absurd HA.out (by simp [spec_ProgHalves.l0])
    | succ k1 =>
      have H := HA.out
      clear HA
      simp only [spec_ProgHalves.l0] at H
      by_cases c4 : x8_1 < (l0_0.length : Int)
      · rw [if_pos c4] at H
        have c4b0 : decide (x8_1 < (l0_0.length : Int)) = true := decide_eq_true c4
        clear c4
        by_cases c5 : 0 ≤ x8_1
        · rw [if_pos c5] at H
          have c5b0 : decide (0 ≤ x8_1) = true := decide_eq_true c5
          clear c5
          by_cases c6 : x8_1 < (l0_0.length : Int)
          · rw [if_pos c6] at H
            have c6b0 : decide (x8_1 < (l0_0.length : Int)) = true := decide_eq_true c6
            clear c6
            by_cases c7 : (((rd_T29 l0_0 x8_1).f3).length : Int) > 0
            · rw [if_pos c7] at H
              have c7b0 : decide (0 < (((rd_T29 l0_0 x8_1).f3).length : Int)) = true := decide_eq_true c7
              have c7b1 : decide (0 < ((rd_T29 l0_0 x8_1).f3).length) = true := decide_eq_true (by omega)
              clear c7
              by_cases c8 : ((rd_T29 l0_0 x8_1).f0) = 8
              · rw [if_pos c8] at H
                have c8b0 : (((rd_T29 l0_0 x8_1).f0) == 8) = true := beq_iff_eq.mpr c8
                have c8b1 : (((rd_T29 l0_0 x8_1).f0) != 8) = false := bne_eq_false_iff_eq.mpr c8
                clear c8
                by_cases c9 : 0 < (((rd_T29 l0_0 x8_1).f3).length : Int)
                · rw [if_pos c9] at H
                  have c9b0 : decide (0 < (((rd_T29 l0_0 x8_1).f3).length : Int)) = true := decide_eq_true c9
                  have c9b1 : decide (0 < ((rd_T29 l0_0 x8_1).f3).length) = true := decide_eq_true (by omega)
                  clear c9
                  by_cases c10 : (rd ((rd_T29 l0_0 x8_1).f3) 0) ≥ 55296
                  · rw [if_pos c10] at H
                    have c10b0 : decide (55296 ≤ (rd ((rd_T29 l0_0 x8_1).f3) 0)) = true := decide_eq_true c10
                    clear c10
                    by_cases c11 : (rd ((rd_T29 l0_0 x8_1).f3) 0) ≤ 57343
                    · rw [if_pos c11] at H
                      have c11b0 : decide ((rd ((rd_T29 l0_0 x8_1).f3) 0) ≤ 57343) = true := decide_eq_true c11
                      clear c11
                      obtain rfl := Option.some.inj H
                      have p152 : 0 ≤ (x8_1 : Int) := of_decide_eq_true (by first | (with_reducible assumption) | assumption)
                      have q152 : x8_1 < (l0_0.length : Int) := of_decide_eq_true (by first | (with_reducible assumption) | assumption)
                      obtain ⟨ad152, A152_3, c152_3, e152, hx152_0, hx152_1, hx152_2, hx152_3, hl152_3, hi152_3⟩ := at_T29 HR0_0.out x8_1 p152 q152
                      cases e152
                      replace hx152_0 := (HB.out.cell (World.block_lt_of_cell? w _ hx152_0)).trans hx152_0
                      replace hx152_1 := (HB.out.cell (World.block_lt_of_cell? w _ hx152_1)).trans hx152_1
                      replace hx152_2 := (HB.out.cell (World.block_lt_of_cell? w _ hx152_2)).trans hx152_2
                      replace hx152_3 := (HB.out.cell (World.block_lt_of_cell? w _ hx152_3)).trans hx152_3
                      have HR152_3 := Aside0.mk hi152_3
                      have HC152_3 := Aside0.mk hl152_3
                      clear hi152_3 hl152_3
                      replace p152 := eq_true p152
                      replace q152 := eq_true q152
                      go_wp2_with (first | ((with_reducible refine gate_dst (N := 4) rfl ?_); (try (refine gate_guard (by rfl) ?_; dsimp only)); refine box_event ?hg (N := 4) ?hd (cs := #[.int .i64 0, .int .i64 0, .int .i64 0, .slice none 0 0]) (t := 29) ?hr ?_; (case hd => rfl); (case hg => rfl); (case hr => first | (go_simp; done) | (go_simp; rfl)); intro gb153 hg w12 hbox hb; have n0_ := Aside0.mk (blk_below (g := gb151) (o := .cells #[.slice (some ad152) l0_0.length c0_0, .int .i64 a0_1, .int .i64 a0_2] 24 (0, 0)) (by (with_reducible repeat (first | refine blk_drewN ?_ _ | refine blk_drew ?_ | refine blk_alloc ?_ _)); exact BK151.out) hb); have n1_ := Aside0.mk (below_step (by repeat (first | (with_reducible first | exact HB.out | apply below_alloc | apply pw_below_drewN | apply below_drew1 | refine below_set ?_ GE151.out) | exact HB.out)) hb); have n2_ := Aside0.mk (hbox); have n3_ := Aside0.mk ((by rw [hg]; exact (below_size (by repeat (first | (with_reducible first | exact HB.out | apply below_alloc | apply pw_below_drewN | apply below_drew1 | refine below_set ?_ GE151.out) | exact HB.out))) : w.heap.size ≤ gb153)); have n4_ := Aside0.mk ((by rw [hg]; exact (below_size (by repeat (first | (with_reducible first | exact HB.out | apply below_alloc | apply pw_below_drewN | apply below_drew1 | refine below_set ?_ GE151.out) | exact HB.out))) : w.heap.size ≤ gb153)); have n5_ := Aside0.mk ((by rw [hg]; exact Nat.ne_of_lt (blk_lt (g := gb151) (o := .cells #[.slice (some ad152) l0_0.length c0_0, .int .i64 a0_1, .int .i64 a0_2] 24 (0, 0)) (by (with_reducible repeat (first | refine blk_drewN ?_ _ | refine blk_drew ?_ | refine blk_alloc ?_ _)); exact BK151.out)) : gb151 ≠ gb153)); have n6_ := Aside0.mk ((by rw [hg]; exact Nat.ne_of_gt (blk_lt (g := gb151) (o := .cells #[.slice (some ad152) l0_0.length c0_0, .int .i64 a0_1, .int .i64 a0_2] 24 (0, 0)) (by (with_reducible repeat (first | refine blk_drewN ?_ _ | refine blk_drew ?_ | refine blk_alloc ?_ _)); exact BK151.out)) : gb153 ≠ gb151)); clear BK151; clear HB; have BK151 := n0_; have HB := n1_; have BK153 := n2_; have GW153 := n3_; have GE153 := n4_; have NB151_153 := n5_; have NB153_151 := n6_; clear n0_ n1_ n2_ n3_ n4_ n5_ n6_; clear hb hbox hg; have hnb13 := NB153_151.out; have hnc13 := NB151_153.out; have hcz14_0 : w12.cell? ⟨gb153, 0, none⟩ = some (.int .i64 0) := (blk_cell BK153.out 0).trans rfl; have hcz14_1 : w12.cell? ⟨gb153, 1, none⟩ = some (.int .i64 0) := (blk_cell BK153.out 1).trans rfl; have hcz14_2 : w12.cell? ⟨gb153, 2, none⟩ = some (.int .i64 0) := (blk_cell BK153.out 2).trans rfl; have hcz14_3 : w12.cell? ⟨gb153, 3, none⟩ = some (.slice none 0 0) := (blk_cell BK153.out 3).trans rfl; have hfz14_0 := blk_frozen BK153.out 0; have hfz14_1 := blk_frozen BK153.out 1; have hfz14_2 := blk_frozen BK153.out 2; have hfz14_3 := blk_frozen BK153.out 3; have p154 : 0 ≤ (0 : Int) := (by omega); have q154 : 0 < (((rd_T29 l0_0 x8_1).f3).length : Int) := of_decide_eq_true (by first | (with_reducible assumption) | assumption); obtain ⟨ad154, e154, hx154_0⟩ := Kd.at_int HR152_3.out 0 p154 q154; cases e154; have qi154 : (0 < ((rd_T29 l0_0 x8_1).f3).length) = True := eq_true (by omega); (try rw [show ((0 : Int)).toNat = 0 from rfl] at hx154_0); (try rw [Addr.add_zero'] at hx154_0); have hn154_0 : ad154.block ≠ gb153 := Nat.ne_of_lt (Nat.lt_of_lt_of_le (by have := World.block_lt_of_cell? _ _ hx154_0; first | rwa [add_block] at this | exact this) GW153.out); have hn154_1 : ad154.block ≠ gb153 := Nat.ne_of_lt (Nat.lt_of_lt_of_le (by have := World.block_lt_of_cell? _ _ hx154_0; first | rwa [add_block] at this | exact this) GW153.out); have hn154_2 : ad154.block ≠ gb153 := Nat.ne_of_lt (Nat.lt_of_lt_of_le (by have := World.block_lt_of_cell? _ _ hx154_0; first | rwa [add_block] at this | exact this) GW153.out); have hn154_3 : ad154.block ≠ gb153 := Nat.ne_of_lt (Nat.lt_of_lt_of_le (by have := World.block_lt_of_cell? _ _ hx154_0; first | rwa [add_block] at this | exact this) GW153.out); replace hx154_0 := (HB.out.cell (World.block_lt_of_cell? w _ hx154_0)).trans hx154_0; replace hx154_0 := (cell_far (p := ⟨gb153, 0, none⟩) (by first | (rw [add_block]; exact hn154_0) | (show (Addr.add _ _).block ≠ _; rw [add_block]; exact hn154_0) | exact hn154_0) (.int .i64 ((rd_T29 l0_0 x8_1).f0))).trans hx154_0; replace hx154_0 := (cell_far (p := ⟨gb153, 1, none⟩) (by first | (rw [add_block]; exact hn154_1) | (show (Addr.add _ _).block ≠ _; rw [add_block]; exact hn154_1) | exact hn154_1) (.int .i64 ((rd_T29 l0_0 x8_1).f1))).trans hx154_0; replace hx154_0 := (cell_far (p := ⟨gb153, 2, none⟩) (by first | (rw [add_block]; exact hn154_2) | (show (Addr.add _ _).block ≠ _; rw [add_block]; exact hn154_2) | exact hn154_2) (.int .i64 ((rd_T29 l0_0 x8_1).f2))).trans hx154_0; replace hx154_0 := (cell_far (p := ⟨gb153, 3, none⟩) (by first | (rw [add_block]; exact hn154_3) | (show (Addr.add _ _).block ≠ _; rw [add_block]; exact hn154_3) | exact hn154_3) (.slice (some ad154) ((rd_T29 l0_0 x8_1).f3).length c152_3)).trans hx154_0; clear hn154_0; clear hn154_1; clear hn154_2; clear hn154_3; replace p154 := eq_true p154; replace q154 := eq_true q154; have p155 : 0 ≤ (0 : Int) := (by omega); have q155 : 0 < (((rd_T29 l0_0 x8_1).f3).length : Int) := of_decide_eq_true (by first | (with_reducible assumption) | assumption); obtain ⟨ad155, e155, hx155_0⟩ := Kd.at_int HR152_3.out 0 p155 q155; obtain rfl : ad154 = ad155 := (by injection e155); have qi155 : (0 < ((rd_T29 l0_0 x8_1).f3).length) = True := eq_true (by omega); (try rw [show ((0 : Int)).toNat = 0 from rfl] at hx155_0); (try rw [Addr.add_zero'] at hx155_0); have hn155_0 : ad154.block ≠ gb153 := Nat.ne_of_lt (Nat.lt_of_lt_of_le (by have := World.block_lt_of_cell? _ _ hx155_0; first | rwa [add_block] at this | exact this) GW153.out); have hn155_1 : ad154.block ≠ gb153 := Nat.ne_of_lt (Nat.lt_of_lt_of_le (by have := World.block_lt_of_cell? _ _ hx155_0; first | rwa [add_block] at this | exact this) GW153.out); have hn155_2 : ad154.block ≠ gb153 := Nat.ne_of_lt (Nat.lt_of_lt_of_le (by have := World.block_lt_of_cell? _ _ hx155_0; first | rwa [add_block] at this | exact this) GW153.out); have hn155_3 : ad154.block ≠ gb153 := Nat.ne_of_lt (Nat.lt_of_lt_of_le (by have := World.block_lt_of_cell? _ _ hx155_0; first | rwa [add_block] at this | exact this) GW153.out); replace hx155_0 := (HB.out.cell (World.block_lt_of_cell? w _ hx155_0)).trans hx155_0; replace hx155_0 := (cell_far (p := ⟨gb153, 0, none⟩) (by first | (rw [add_block]; exact hn155_0) | (show (Addr.add _ _).block ≠ _; rw [add_block]; exact hn155_0) | exact hn155_0) (.int .i64 ((rd_T29 l0_0 x8_1).f0))).trans hx155_0; replace hx155_0 := (cell_far (p := ⟨gb153, 1, none⟩) (by first | (rw [add_block]; exact hn155_1) | (show (Addr.add _ _).block ≠ _; rw [add_block]; exact hn155_1) | exact hn155_1) (.int .i64 ((rd_T29 l0_0 x8_1).f1))).trans hx155_0; replace hx155_0 := (cell_far (p := ⟨gb153, 2, none⟩) (by first | (rw [add_block]; exact hn155_2) | (show (Addr.add _ _).block ≠ _; rw [add_block]; exact hn155_2) | exact hn155_2) (.int .i64 ((rd_T29 l0_0 x8_1).f2))).trans hx155_0; replace hx155_0 := (cell_far (p := ⟨gb153, 3, none⟩) (by first | (rw [add_block]; exact hn155_3) | (show (Addr.add _ _).block ≠ _; rw [add_block]; exact hn155_3) | exact hn155_3) (.slice (some ad154) ((rd_T29 l0_0 x8_1).f3).length c152_3)).trans hx155_0; clear hn155_0; clear hn155_1; clear hn155_2; clear hn155_3; replace p155 := eq_true p155; replace q155 := eq_true q155))
                      go_ret
                      exact ⟨by first | rfl | (simp [errW_none, errW_some] <;> rfl) | (simp [*, errW_none, errW_some] <;> rfl), by repeat (first | (with_reducible first | exact HB.out | apply below_alloc | apply pw_below_drewN | apply below_drew1 | refine below_set ?_ GE151.out | refine below_set ?_ GE153.out) | exact HB.out)⟩
                    · rw [if_neg c11] at H
                      have c11b0 : decide ((rd ((rd_T29 l0_0 x8_1).f3) 0) ≤ 57343) = false := decide_eq_false c11
                      clear c11
                      have H' := Aside0.mk H
                      clear H
                      have p152 : 0 ≤ (x8_1 : Int) := of_decide_eq_true (by first | (with_reducible assumption) | assumption)
                      have q152 : x8_1 < (l0_0.length : Int) := of_decide_eq_true (by first | (with_reducible assumption) | assumption)
                      obtain ⟨ad152, A152_3, c152_3, e152, hx152_0, hx152_1, hx152_2, hx152_3, hl152_3, hi152_3⟩ := at_T29 HR0_0.out x8_1 p152 q152
                      cases e152
                      replace hx152_0 := (HB.out.cell (World.block_lt_of_cell? w _ hx152_0)).trans hx152_0
                      replace hx152_1 := (HB.out.cell (World.block_lt_of_cell? w _ hx152_1)).trans hx152_1
                      replace hx152_2 := (HB.out.cell (World.block_lt_of_cell? w _ hx152_2)).trans hx152_2
                      replace hx152_3 := (HB.out.cell (World.block_lt_of_cell? w _ hx152_3)).trans hx152_3
                      have HR152_3 := Aside0.mk hi152_3
                      have HC152_3 := Aside0.mk hl152_3
                      clear hi152_3 hl152_3
                      replace p152 := eq_true p152
                      replace q152 := eq_true q152
                      go_wp2_with (first | ((with_reducible refine gate_dst (N := 4) rfl ?_); (try (refine gate_guard (by rfl) ?_; dsimp only)); refine box_event ?hg (N := 4) ?hd (cs := #[.int .i64 0, .int .i64 0, .int .i64 0, .slice none 0 0]) (t := 29) ?hr ?_; (case hd => rfl); (case hg => rfl); (case hr => first | (go_simp; done) | (go_simp; rfl)); intro gb153 hg w15 hbox hb; have n0_ := Aside0.mk (blk_below (g := gb151) (o := .cells #[.slice (some ad152) l0_0.length c0_0, .int .i64 a0_1, .int .i64 a0_2] 24 (0, 0)) (by (with_reducible repeat (first | refine blk_drewN ?_ _ | refine blk_drew ?_ | refine blk_alloc ?_ _)); exact BK151.out) hb); have n1_ := Aside0.mk (below_step (by repeat (first | (with_reducible first | exact HB.out | apply below_alloc | apply pw_below_drewN | apply below_drew1 | refine below_set ?_ GE151.out) | exact HB.out)) hb); have n2_ := Aside0.mk (hbox); have n3_ := Aside0.mk ((by rw [hg]; exact (below_size (by repeat (first | (with_reducible first | exact HB.out | apply below_alloc | apply pw_below_drewN | apply below_drew1 | refine below_set ?_ GE151.out) | exact HB.out))) : w.heap.size ≤ gb153)); have n4_ := Aside0.mk ((by rw [hg]; exact (below_size (by repeat (first | (with_reducible first | exact HB.out | apply below_alloc | apply pw_below_drewN | apply below_drew1 | refine below_set ?_ GE151.out) | exact HB.out))) : w.heap.size ≤ gb153)); have n5_ := Aside0.mk ((by rw [hg]; exact Nat.ne_of_lt (blk_lt (g := gb151) (o := .cells #[.slice (some ad152) l0_0.length c0_0, .int .i64 a0_1, .int .i64 a0_2] 24 (0, 0)) (by (with_reducible repeat (first | refine blk_drewN ?_ _ | refine blk_drew ?_ | refine blk_alloc ?_ _)); exact BK151.out)) : gb151 ≠ gb153)); have n6_ := Aside0.mk ((by rw [hg]; exact Nat.ne_of_gt (blk_lt (g := gb151) (o := .cells #[.slice (some ad152) l0_0.length c0_0, .int .i64 a0_1, .int .i64 a0_2] 24 (0, 0)) (by (with_reducible repeat (first | refine blk_drewN ?_ _ | refine blk_drew ?_ | refine blk_alloc ?_ _)); exact BK151.out)) : gb153 ≠ gb151)); clear BK151; clear HB; have BK151 := n0_; have HB := n1_; have BK153 := n2_; have GW153 := n3_; have GE153 := n4_; have NB151_153 := n5_; have NB153_151 := n6_; clear n0_ n1_ n2_ n3_ n4_ n5_ n6_; clear hb hbox hg; have hnb16 := NB153_151.out; have hnc16 := NB151_153.out; have hcz17_0 : w15.cell? ⟨gb153, 0, none⟩ = some (.int .i64 0) := (blk_cell BK153.out 0).trans rfl; have hcz17_1 : w15.cell? ⟨gb153, 1, none⟩ = some (.int .i64 0) := (blk_cell BK153.out 1).trans rfl; have hcz17_2 : w15.cell? ⟨gb153, 2, none⟩ = some (.int .i64 0) := (blk_cell BK153.out 2).trans rfl; have hcz17_3 : w15.cell? ⟨gb153, 3, none⟩ = some (.slice none 0 0) := (blk_cell BK153.out 3).trans rfl; have hfz17_0 := blk_frozen BK153.out 0; have hfz17_1 := blk_frozen BK153.out 1; have hfz17_2 := blk_frozen BK153.out 2; have hfz17_3 := blk_frozen BK153.out 3; have p154 : 0 ≤ (0 : Int) := (by omega); have q154 : 0 < (((rd_T29 l0_0 x8_1).f3).length : Int) := of_decide_eq_true (by first | (with_reducible assumption) | assumption); obtain ⟨ad154, e154, hx154_0⟩ := Kd.at_int HR152_3.out 0 p154 q154; cases e154; have qi154 : (0 < ((rd_T29 l0_0 x8_1).f3).length) = True := eq_true (by omega); (try rw [show ((0 : Int)).toNat = 0 from rfl] at hx154_0); (try rw [Addr.add_zero'] at hx154_0); have hn154_0 : ad154.block ≠ gb153 := Nat.ne_of_lt (Nat.lt_of_lt_of_le (by have := World.block_lt_of_cell? _ _ hx154_0; first | rwa [add_block] at this | exact this) GW153.out); have hn154_1 : ad154.block ≠ gb153 := Nat.ne_of_lt (Nat.lt_of_lt_of_le (by have := World.block_lt_of_cell? _ _ hx154_0; first | rwa [add_block] at this | exact this) GW153.out); have hn154_2 : ad154.block ≠ gb153 := Nat.ne_of_lt (Nat.lt_of_lt_of_le (by have := World.block_lt_of_cell? _ _ hx154_0; first | rwa [add_block] at this | exact this) GW153.out); have hn154_3 : ad154.block ≠ gb153 := Nat.ne_of_lt (Nat.lt_of_lt_of_le (by have := World.block_lt_of_cell? _ _ hx154_0; first | rwa [add_block] at this | exact this) GW153.out); replace hx154_0 := (HB.out.cell (World.block_lt_of_cell? w _ hx154_0)).trans hx154_0; replace hx154_0 := (cell_far (p := ⟨gb153, 0, none⟩) (by first | (rw [add_block]; exact hn154_0) | (show (Addr.add _ _).block ≠ _; rw [add_block]; exact hn154_0) | exact hn154_0) (.int .i64 ((rd_T29 l0_0 x8_1).f0))).trans hx154_0; replace hx154_0 := (cell_far (p := ⟨gb153, 1, none⟩) (by first | (rw [add_block]; exact hn154_1) | (show (Addr.add _ _).block ≠ _; rw [add_block]; exact hn154_1) | exact hn154_1) (.int .i64 ((rd_T29 l0_0 x8_1).f1))).trans hx154_0; replace hx154_0 := (cell_far (p := ⟨gb153, 2, none⟩) (by first | (rw [add_block]; exact hn154_2) | (show (Addr.add _ _).block ≠ _; rw [add_block]; exact hn154_2) | exact hn154_2) (.int .i64 ((rd_T29 l0_0 x8_1).f2))).trans hx154_0; replace hx154_0 := (cell_far (p := ⟨gb153, 3, none⟩) (by first | (rw [add_block]; exact hn154_3) | (show (Addr.add _ _).block ≠ _; rw [add_block]; exact hn154_3) | exact hn154_3) (.slice (some ad154) ((rd_T29 l0_0 x8_1).f3).length c152_3)).trans hx154_0; clear hn154_0; clear hn154_1; clear hn154_2; clear hn154_3; replace p154 := eq_true p154; replace q154 := eq_true q154; have p155 : 0 ≤ (0 : Int) := (by omega); have q155 : 0 < (((rd_T29 l0_0 x8_1).f3).length : Int) := of_decide_eq_true (by first | (with_reducible assumption) | assumption); obtain ⟨ad155, e155, hx155_0⟩ := Kd.at_int HR152_3.out 0 p155 q155; obtain rfl : ad154 = ad155 := (by injection e155); have qi155 : (0 < ((rd_T29 l0_0 x8_1).f3).length) = True := eq_true (by omega); (try rw [show ((0 : Int)).toNat = 0 from rfl] at hx155_0); (try rw [Addr.add_zero'] at hx155_0); have hn155_0 : ad154.block ≠ gb153 := Nat.ne_of_lt (Nat.lt_of_lt_of_le (by have := World.block_lt_of_cell? _ _ hx155_0; first | rwa [add_block] at this | exact this) GW153.out); have hn155_1 : ad154.block ≠ gb153 := Nat.ne_of_lt (Nat.lt_of_lt_of_le (by have := World.block_lt_of_cell? _ _ hx155_0; first | rwa [add_block] at this | exact this) GW153.out); have hn155_2 : ad154.block ≠ gb153 := Nat.ne_of_lt (Nat.lt_of_lt_of_le (by have := World.block_lt_of_cell? _ _ hx155_0; first | rwa [add_block] at this | exact this) GW153.out); have hn155_3 : ad154.block ≠ gb153 := Nat.ne_of_lt (Nat.lt_of_lt_of_le (by have := World.block_lt_of_cell? _ _ hx155_0; first | rwa [add_block] at this | exact this) GW153.out); replace hx155_0 := (HB.out.cell (World.block_lt_of_cell? w _ hx155_0)).trans hx155_0; replace hx155_0 := (cell_far (p := ⟨gb153, 0, none⟩) (by first | (rw [add_block]; exact hn155_0) | (show (Addr.add _ _).block ≠ _; rw [add_block]; exact hn155_0) | exact hn155_0) (.int .i64 ((rd_T29 l0_0 x8_1).f0))).trans hx155_0; replace hx155_0 := (cell_far (p := ⟨gb153, 1, none⟩) (by first | (rw [add_block]; exact hn155_1) | (show (Addr.add _ _).block ≠ _; rw [add_block]; exact hn155_1) | exact hn155_1) (.int .i64 ((rd_T29 l0_0 x8_1).f1))).trans hx155_0; replace hx155_0 := (cell_far (p := ⟨gb153, 2, none⟩) (by first | (rw [add_block]; exact hn155_2) | (show (Addr.add _ _).block ≠ _; rw [add_block]; exact hn155_2) | exact hn155_2) (.int .i64 ((rd_T29 l0_0 x8_1).f2))).trans hx155_0; replace hx155_0 := (cell_far (p := ⟨gb153, 3, none⟩) (by first | (rw [add_block]; exact hn155_3) | (show (Addr.add _ _).block ≠ _; rw [add_block]; exact hn155_3) | exact hn155_3) (.slice (some ad154) ((rd_T29 l0_0 x8_1).f3).length c152_3)).trans hx155_0; clear hn155_0; clear hn155_1; clear hn155_2; clear hn155_3; replace p155 := eq_true p155; replace q155 := eq_true q155))
                      go_roundg k1
                      case measure => have := HK1.out; omega
                      case rel => exact ⟨(wrap64 (x8_1 + 1)), (by first | rfl | (simp; done) | (simp [*]; done)), H', ⟨by have := HK1.out; omega⟩, ⟨by (with_reducible repeat (first | refine blk_drewN ?_ _ | refine blk_drew ?_ | refine blk_alloc ?_ _)); refine blk_far ?_ NB151_153.out _; (with_reducible repeat (first | refine blk_drewN ?_ _ | refine blk_drew ?_ | refine blk_alloc ?_ _)); refine blk_far ?_ NB151_153.out _; (with_reducible repeat (first | refine blk_drewN ?_ _ | refine blk_drew ?_ | refine blk_alloc ?_ _)); refine blk_far ?_ NB151_153.out _; (with_reducible repeat (first | refine blk_drewN ?_ _ | refine blk_drew ?_ | refine blk_alloc ?_ _)); refine blk_far ?_ NB151_153.out _; (with_reducible repeat (first | refine blk_drewN ?_ _ | refine blk_drew ?_ | refine blk_alloc ?_ _)); exact BK151.out⟩, ⟨by repeat (first | (with_reducible first | exact HB.out | apply below_alloc | apply pw_below_drewN | apply below_drew1 | refine below_set ?_ GE151.out | refine below_set ?_ GE153.out) | exact HB.out)⟩⟩
                  · rw [if_neg c10] at H
                    have c10b0 : decide (55296 ≤ (rd ((rd_T29 l0_0 x8_1).f3) 0)) = false := decide_eq_false c10
                    clear c10
                    have H' := Aside0.mk H
                    clear H
                    have p152 : 0 ≤ (x8_1 : Int) := of_decide_eq_true (by first | (with_reducible assumption) | assumption)
                    have q152 : x8_1 < (l0_0.length : Int) := of_decide_eq_true (by first | (with_reducible assumption) | assumption)
                    obtain ⟨ad152, A152_3, c152_3, e152, hx152_0, hx152_1, hx152_2, hx152_3, hl152_3, hi152_3⟩ := at_T29 HR0_0.out x8_1 p152 q152
                    cases e152
                    replace hx152_0 := (HB.out.cell (World.block_lt_of_cell? w _ hx152_0)).trans hx152_0
                    replace hx152_1 := (HB.out.cell (World.block_lt_of_cell? w _ hx152_1)).trans hx152_1
                    replace hx152_2 := (HB.out.cell (World.block_lt_of_cell? w _ hx152_2)).trans hx152_2
                    replace hx152_3 := (HB.out.cell (World.block_lt_of_cell? w _ hx152_3)).trans hx152_3
                    have HR152_3 := Aside0.mk hi152_3
                    have HC152_3 := Aside0.mk hl152_3
                    clear hi152_3 hl152_3
                    replace p152 := eq_true p152
                    replace q152 := eq_true q152
                    go_wp2_with (first | ((with_reducible refine gate_dst (N := 4) rfl ?_); (try (refine gate_guard (by rfl) ?_; dsimp only)); refine box_event ?hg (N := 4) ?hd (cs := #[.int .i64 0, .int .i64 0, .int .i64 0, .slice none 0 0]) (t := 29) ?hr ?_; (case hd => rfl); (case hg => rfl); (case hr => first | (go_simp; done) | (go_simp; rfl)); intro gb153 hg w18 hbox hb; have n0_ := Aside0.mk (blk_below (g := gb151) (o := .cells #[.slice (some ad152) l0_0.length c0_0, .int .i64 a0_1, .int .i64 a0_2] 24 (0, 0)) (by (with_reducible repeat (first | refine blk_drewN ?_ _ | refine blk_drew ?_ | refine blk_alloc ?_ _)); exact BK151.out) hb); have n1_ := Aside0.mk (below_step (by repeat (first | (with_reducible first | exact HB.out | apply below_alloc | apply pw_below_drewN | apply below_drew1 | refine below_set ?_ GE151.out) | exact HB.out)) hb); have n2_ := Aside0.mk (hbox); have n3_ := Aside0.mk ((by rw [hg]; exact (below_size (by repeat (first | (with_reducible first | exact HB.out | apply below_alloc | apply pw_below_drewN | apply below_drew1 | refine below_set ?_ GE151.out) | exact HB.out))) : w.heap.size ≤ gb153)); have n4_ := Aside0.mk ((by rw [hg]; exact (below_size (by repeat (first | (with_reducible first | exact HB.out | apply below_alloc | apply pw_below_drewN | apply below_drew1 | refine below_set ?_ GE151.out) | exact HB.out))) : w.heap.size ≤ gb153)); have n5_ := Aside0.mk ((by rw [hg]; exact Nat.ne_of_lt (blk_lt (g := gb151) (o := .cells #[.slice (some ad152) l0_0.length c0_0, .int .i64 a0_1, .int .i64 a0_2] 24 (0, 0)) (by (with_reducible repeat (first | refine blk_drewN ?_ _ | refine blk_drew ?_ | refine blk_alloc ?_ _)); exact BK151.out)) : gb151 ≠ gb153)); have n6_ := Aside0.mk ((by rw [hg]; exact Nat.ne_of_gt (blk_lt (g := gb151) (o := .cells #[.slice (some ad152) l0_0.length c0_0, .int .i64 a0_1, .int .i64 a0_2] 24 (0, 0)) (by (with_reducible repeat (first | refine blk_drewN ?_ _ | refine blk_drew ?_ | refine blk_alloc ?_ _)); exact BK151.out)) : gb153 ≠ gb151)); clear BK151; clear HB; have BK151 := n0_; have HB := n1_; have BK153 := n2_; have GW153 := n3_; have GE153 := n4_; have NB151_153 := n5_; have NB153_151 := n6_; clear n0_ n1_ n2_ n3_ n4_ n5_ n6_; clear hb hbox hg; have hnb19 := NB153_151.out; have hnc19 := NB151_153.out; have hcz20_0 : w18.cell? ⟨gb153, 0, none⟩ = some (.int .i64 0) := (blk_cell BK153.out 0).trans rfl; have hcz20_1 : w18.cell? ⟨gb153, 1, none⟩ = some (.int .i64 0) := (blk_cell BK153.out 1).trans rfl; have hcz20_2 : w18.cell? ⟨gb153, 2, none⟩ = some (.int .i64 0) := (blk_cell BK153.out 2).trans rfl; have hcz20_3 : w18.cell? ⟨gb153, 3, none⟩ = some (.slice none 0 0) := (blk_cell BK153.out 3).trans rfl; have hfz20_0 := blk_frozen BK153.out 0; have hfz20_1 := blk_frozen BK153.out 1; have hfz20_2 := blk_frozen BK153.out 2; have hfz20_3 := blk_frozen BK153.out 3; have p154 : 0 ≤ (0 : Int) := (by omega); have q154 : 0 < (((rd_T29 l0_0 x8_1).f3).length : Int) := of_decide_eq_true (by first | (with_reducible assumption) | assumption); obtain ⟨ad154, e154, hx154_0⟩ := Kd.at_int HR152_3.out 0 p154 q154; cases e154; have qi154 : (0 < ((rd_T29 l0_0 x8_1).f3).length) = True := eq_true (by omega); (try rw [show ((0 : Int)).toNat = 0 from rfl] at hx154_0); (try rw [Addr.add_zero'] at hx154_0); have hn154_0 : ad154.block ≠ gb153 := Nat.ne_of_lt (Nat.lt_of_lt_of_le (by have := World.block_lt_of_cell? _ _ hx154_0; first | rwa [add_block] at this | exact this) GW153.out); have hn154_1 : ad154.block ≠ gb153 := Nat.ne_of_lt (Nat.lt_of_lt_of_le (by have := World.block_lt_of_cell? _ _ hx154_0; first | rwa [add_block] at this | exact this) GW153.out); have hn154_2 : ad154.block ≠ gb153 := Nat.ne_of_lt (Nat.lt_of_lt_of_le (by have := World.block_lt_of_cell? _ _ hx154_0; first | rwa [add_block] at this | exact this) GW153.out); have hn154_3 : ad154.block ≠ gb153 := Nat.ne_of_lt (Nat.lt_of_lt_of_le (by have := World.block_lt_of_cell? _ _ hx154_0; first | rwa [add_block] at this | exact this) GW153.out); replace hx154_0 := (HB.out.cell (World.block_lt_of_cell? w _ hx154_0)).trans hx154_0; replace hx154_0 := (cell_far (p := ⟨gb153, 0, none⟩) (by first | (rw [add_block]; exact hn154_0) | (show (Addr.add _ _).block ≠ _; rw [add_block]; exact hn154_0) | exact hn154_0) (.int .i64 ((rd_T29 l0_0 x8_1).f0))).trans hx154_0; replace hx154_0 := (cell_far (p := ⟨gb153, 1, none⟩) (by first | (rw [add_block]; exact hn154_1) | (show (Addr.add _ _).block ≠ _; rw [add_block]; exact hn154_1) | exact hn154_1) (.int .i64 ((rd_T29 l0_0 x8_1).f1))).trans hx154_0; replace hx154_0 := (cell_far (p := ⟨gb153, 2, none⟩) (by first | (rw [add_block]; exact hn154_2) | (show (Addr.add _ _).block ≠ _; rw [add_block]; exact hn154_2) | exact hn154_2) (.int .i64 ((rd_T29 l0_0 x8_1).f2))).trans hx154_0; replace hx154_0 := (cell_far (p := ⟨gb153, 3, none⟩) (by first | (rw [add_block]; exact hn154_3) | (show (Addr.add _ _).block ≠ _; rw [add_block]; exact hn154_3) | exact hn154_3) (.slice (some ad154) ((rd_T29 l0_0 x8_1).f3).length c152_3)).trans hx154_0; clear hn154_0; clear hn154_1; clear hn154_2; clear hn154_3; replace p154 := eq_true p154; replace q154 := eq_true q154))
                    go_roundg k1
                    case measure => have := HK1.out; omega
                    case rel => exact ⟨(wrap64 (x8_1 + 1)), (by first | rfl | (simp; done) | (simp [*]; done)), H', ⟨by have := HK1.out; omega⟩, ⟨by (with_reducible repeat (first | refine blk_drewN ?_ _ | refine blk_drew ?_ | refine blk_alloc ?_ _)); refine blk_far ?_ NB151_153.out _; (with_reducible repeat (first | refine blk_drewN ?_ _ | refine blk_drew ?_ | refine blk_alloc ?_ _)); refine blk_far ?_ NB151_153.out _; (with_reducible repeat (first | refine blk_drewN ?_ _ | refine blk_drew ?_ | refine blk_alloc ?_ _)); refine blk_far ?_ NB151_153.out _; (with_reducible repeat (first | refine blk_drewN ?_ _ | refine blk_drew ?_ | refine blk_alloc ?_ _)); refine blk_far ?_ NB151_153.out _; (with_reducible repeat (first | refine blk_drewN ?_ _ | refine blk_drew ?_ | refine blk_alloc ?_ _)); exact BK151.out⟩, ⟨by repeat (first | (with_reducible first | exact HB.out | apply below_alloc | apply pw_below_drewN | apply below_drew1 | refine below_set ?_ GE151.out | refine below_set ?_ GE153.out) | exact HB.out)⟩⟩
                · rw [if_neg c9] at H
                  exact absurd H (by simp)
              · rw [if_neg c8] at H
                have c8b0 : (((rd_T29 l0_0 x8_1).f0) == 8) = false := beq_eq_false_iff_ne.mpr c8
                have c8b1 : (((rd_T29 l0_0 x8_1).f0) != 8) = true := bne_iff_ne.mpr c8
                by_cases c21 : ((rd_T29 l0_0 x8_1).f0) = 7
                · rw [if_pos c21] at H
                  have c21b0 : (((rd_T29 l0_0 x8_1).f0) == 7) = true := beq_iff_eq.mpr c21
                  have c21b1 : (((rd_T29 l0_0 x8_1).f0) != 7) = false := bne_eq_false_iff_eq.mpr c21
                  clear c21
                  by_cases c22 : (((rd_T29 l0_0 x8_1).f3).length : Int) = 1
                  · rw [if_pos c22] at H
                    have c22b0 : ((((rd_T29 l0_0 x8_1).f3).length : Int) == 1) = true := beq_iff_eq.mpr c22
                    have c22b1 : ((((rd_T29 l0_0 x8_1).f3).length : Int) != 1) = false := bne_eq_false_iff_eq.mpr c22
                    clear c22
                    by_cases c23 : 0 < (((rd_T29 l0_0 x8_1).f3).length : Int)
                    · rw [if_pos c23] at H
                      have c23b0 : decide (0 < (((rd_T29 l0_0 x8_1).f3).length : Int)) = true := decide_eq_true c23
                      have c23b1 : decide (0 < ((rd_T29 l0_0 x8_1).f3).length) = true := decide_eq_true (by omega)
                      clear c23
                      by_cases c24 : (rd ((rd_T29 l0_0 x8_1).f3) 0) ≥ 55296
                      · rw [if_pos c24] at H
                        have c24b0 : decide (55296 ≤ (rd ((rd_T29 l0_0 x8_1).f3) 0)) = true := decide_eq_true c24
                        clear c24
                        by_cases c25 : (rd ((rd_T29 l0_0 x8_1).f3) 0) ≤ 57343
                        · rw [if_pos c25] at H
                          have c25b0 : decide ((rd ((rd_T29 l0_0 x8_1).f3) 0) ≤ 57343) = true := decide_eq_true c25
                          clear c25
                          obtain rfl := Option.some.inj H
                          have p152 : 0 ≤ (x8_1 : Int) := of_decide_eq_true (by first | (with_reducible assumption) | assumption)
                          have q152 : x8_1 < (l0_0.length : Int) := of_decide_eq_true (by first | (with_reducible assumption) | assumption)
                          obtain ⟨ad152, A152_3, c152_3, e152, hx152_0, hx152_1, hx152_2, hx152_3, hl152_3, hi152_3⟩ := at_T29 HR0_0.out x8_1 p152 q152
                          cases e152
                          replace hx152_0 := (HB.out.cell (World.block_lt_of_cell? w _ hx152_0)).trans hx152_0
                          replace hx152_1 := (HB.out.cell (World.block_lt_of_cell? w _ hx152_1)).trans hx152_1
                          replace hx152_2 := (HB.out.cell (World.block_lt_of_cell? w _ hx152_2)).trans hx152_2
                          replace hx152_3 := (HB.out.cell (World.block_lt_of_cell? w _ hx152_3)).trans hx152_3
                          have HR152_3 := Aside0.mk hi152_3
                          have HC152_3 := Aside0.mk hl152_3
                          clear hi152_3 hl152_3
                          replace p152 := eq_true p152
                          replace q152 := eq_true q152
                          go_wp2_with (first | ((with_reducible refine gate_dst (N := 4) rfl ?_); (try (refine gate_guard (by rfl) ?_; dsimp only)); refine box_event ?hg (N := 4) ?hd (cs := #[.int .i64 0, .int .i64 0, .int .i64 0, .slice none 0 0]) (t := 29) ?hr ?_; (case hd => rfl); (case hg => rfl); (case hr => first | (go_simp; done) | (go_simp; rfl)); intro gb153 hg w26 hbox hb; have n0_ := Aside0.mk (blk_below (g := gb151) (o := .cells #[.slice (some ad152) l0_0.length c0_0, .int .i64 a0_1, .int .i64 a0_2] 24 (0, 0)) (by (with_reducible repeat (first | refine blk_drewN ?_ _ | refine blk_drew ?_ | refine blk_alloc ?_ _)); exact BK151.out) hb); have n1_ := Aside0.mk (below_step (by repeat (first | (with_reducible first | exact HB.out | apply below_alloc | apply pw_below_drewN | apply below_drew1 | refine below_set ?_ GE151.out) | exact HB.out)) hb); have n2_ := Aside0.mk (hbox); have n3_ := Aside0.mk ((by rw [hg]; exact (below_size (by repeat (first | (with_reducible first | exact HB.out | apply below_alloc | apply pw_below_drewN | apply below_drew1 | refine below_set ?_ GE151.out) | exact HB.out))) : w.heap.size ≤ gb153)); have n4_ := Aside0.mk ((by rw [hg]; exact (below_size (by repeat (first | (with_reducible first | exact HB.out | apply below_alloc | apply pw_below_drewN | apply below_drew1 | refine below_set ?_ GE151.out) | exact HB.out))) : w.heap.size ≤ gb153)); have n5_ := Aside0.mk ((by rw [hg]; exact Nat.ne_of_lt (blk_lt (g := gb151) (o := .cells #[.slice (some ad152) l0_0.length c0_0, .int .i64 a0_1, .int .i64 a0_2] 24 (0, 0)) (by (with_reducible repeat (first | refine blk_drewN ?_ _ | refine blk_drew ?_ | refine blk_alloc ?_ _)); exact BK151.out)) : gb151 ≠ gb153)); have n6_ := Aside0.mk ((by rw [hg]; exact Nat.ne_of_gt (blk_lt (g := gb151) (o := .cells #[.slice (some ad152) l0_0.length c0_0, .int .i64 a0_1, .int .i64 a0_2] 24 (0, 0)) (by (with_reducible repeat (first | refine blk_drewN ?_ _ | refine blk_drew ?_ | refine blk_alloc ?_ _)); exact BK151.out)) : gb153 ≠ gb151)); clear BK151; clear HB; have BK151 := n0_; have HB := n1_; have BK153 := n2_; have GW153 := n3_; have GE153 := n4_; have NB151_153 := n5_; have NB153_151 := n6_; clear n0_ n1_ n2_ n3_ n4_ n5_ n6_; clear hb hbox hg; have hnb27 := NB153_151.out; have hnc27 := NB151_153.out; have hcz28_0 : w26.cell? ⟨gb153, 0, none⟩ = some (.int .i64 0) := (blk_cell BK153.out 0).trans rfl; have hcz28_1 : w26.cell? ⟨gb153, 1, none⟩ = some (.int .i64 0) := (blk_cell BK153.out 1).trans rfl; have hcz28_2 : w26.cell? ⟨gb153, 2, none⟩ = some (.int .i64 0) := (blk_cell BK153.out 2).trans rfl; have hcz28_3 : w26.cell? ⟨gb153, 3, none⟩ = some (.slice none 0 0) := (blk_cell BK153.out 3).trans rfl; have hfz28_0 := blk_frozen BK153.out 0; have hfz28_1 := blk_frozen BK153.out 1; have hfz28_2 := blk_frozen BK153.out 2; have hfz28_3 := blk_frozen BK153.out 3; have p156 : 0 ≤ (0 : Int) := (by omega); have q156 : 0 < (((rd_T29 l0_0 x8_1).f3).length : Int) := of_decide_eq_true (by first | (with_reducible assumption) | assumption); obtain ⟨ad156, e156, hx156_0⟩ := Kd.at_int HR152_3.out 0 p156 q156; cases e156; have qi156 : (0 < ((rd_T29 l0_0 x8_1).f3).length) = True := eq_true (by omega); (try rw [show ((0 : Int)).toNat = 0 from rfl] at hx156_0); (try rw [Addr.add_zero'] at hx156_0); have hn156_0 : ad156.block ≠ gb153 := Nat.ne_of_lt (Nat.lt_of_lt_of_le (by have := World.block_lt_of_cell? _ _ hx156_0; first | rwa [add_block] at this | exact this) GW153.out); have hn156_1 : ad156.block ≠ gb153 := Nat.ne_of_lt (Nat.lt_of_lt_of_le (by have := World.block_lt_of_cell? _ _ hx156_0; first | rwa [add_block] at this | exact this) GW153.out); have hn156_2 : ad156.block ≠ gb153 := Nat.ne_of_lt (Nat.lt_of_lt_of_le (by have := World.block_lt_of_cell? _ _ hx156_0; first | rwa [add_block] at this | exact this) GW153.out); have hn156_3 : ad156.block ≠ gb153 := Nat.ne_of_lt (Nat.lt_of_lt_of_le (by have := World.block_lt_of_cell? _ _ hx156_0; first | rwa [add_block] at this | exact this) GW153.out); replace hx156_0 := (HB.out.cell (World.block_lt_of_cell? w _ hx156_0)).trans hx156_0; replace hx156_0 := (cell_far (p := ⟨gb153, 0, none⟩) (by first | (rw [add_block]; exact hn156_0) | (show (Addr.add _ _).block ≠ _; rw [add_block]; exact hn156_0) | exact hn156_0) (.int .i64 ((rd_T29 l0_0 x8_1).f0))).trans hx156_0; replace hx156_0 := (cell_far (p := ⟨gb153, 1, none⟩) (by first | (rw [add_block]; exact hn156_1) | (show (Addr.add _ _).block ≠ _; rw [add_block]; exact hn156_1) | exact hn156_1) (.int .i64 ((rd_T29 l0_0 x8_1).f1))).trans hx156_0; replace hx156_0 := (cell_far (p := ⟨gb153, 2, none⟩) (by first | (rw [add_block]; exact hn156_2) | (show (Addr.add _ _).block ≠ _; rw [add_block]; exact hn156_2) | exact hn156_2) (.int .i64 ((rd_T29 l0_0 x8_1).f2))).trans hx156_0; replace hx156_0 := (cell_far (p := ⟨gb153, 3, none⟩) (by first | (rw [add_block]; exact hn156_3) | (show (Addr.add _ _).block ≠ _; rw [add_block]; exact hn156_3) | exact hn156_3) (.slice (some ad156) ((rd_T29 l0_0 x8_1).f3).length c152_3)).trans hx156_0; clear hn156_0; clear hn156_1; clear hn156_2; clear hn156_3; replace p156 := eq_true p156; replace q156 := eq_true q156; have p157 : 0 ≤ (0 : Int) := (by omega); have q157 : 0 < (((rd_T29 l0_0 x8_1).f3).length : Int) := of_decide_eq_true (by first | (with_reducible assumption) | assumption); obtain ⟨ad157, e157, hx157_0⟩ := Kd.at_int HR152_3.out 0 p157 q157; obtain rfl : ad156 = ad157 := (by injection e157); have qi157 : (0 < ((rd_T29 l0_0 x8_1).f3).length) = True := eq_true (by omega); (try rw [show ((0 : Int)).toNat = 0 from rfl] at hx157_0); (try rw [Addr.add_zero'] at hx157_0); have hn157_0 : ad156.block ≠ gb153 := Nat.ne_of_lt (Nat.lt_of_lt_of_le (by have := World.block_lt_of_cell? _ _ hx157_0; first | rwa [add_block] at this | exact this) GW153.out); have hn157_1 : ad156.block ≠ gb153 := Nat.ne_of_lt (Nat.lt_of_lt_of_le (by have := World.block_lt_of_cell? _ _ hx157_0; first | rwa [add_block] at this | exact this) GW153.out); have hn157_2 : ad156.block ≠ gb153 := Nat.ne_of_lt (Nat.lt_of_lt_of_le (by have := World.block_lt_of_cell? _ _ hx157_0; first | rwa [add_block] at this | exact this) GW153.out); have hn157_3 : ad156.block ≠ gb153 := Nat.ne_of_lt (Nat.lt_of_lt_of_le (by have := World.block_lt_of_cell? _ _ hx157_0; first | rwa [add_block] at this | exact this) GW153.out); replace hx157_0 := (HB.out.cell (World.block_lt_of_cell? w _ hx157_0)).trans hx157_0; replace hx157_0 := (cell_far (p := ⟨gb153, 0, none⟩) (by first | (rw [add_block]; exact hn157_0) | (show (Addr.add _ _).block ≠ _; rw [add_block]; exact hn157_0) | exact hn157_0) (.int .i64 ((rd_T29 l0_0 x8_1).f0))).trans hx157_0; replace hx157_0 := (cell_far (p := ⟨gb153, 1, none⟩) (by first | (rw [add_block]; exact hn157_1) | (show (Addr.add _ _).block ≠ _; rw [add_block]; exact hn157_1) | exact hn157_1) (.int .i64 ((rd_T29 l0_0 x8_1).f1))).trans hx157_0; replace hx157_0 := (cell_far (p := ⟨gb153, 2, none⟩) (by first | (rw [add_block]; exact hn157_2) | (show (Addr.add _ _).block ≠ _; rw [add_block]; exact hn157_2) | exact hn157_2) (.int .i64 ((rd_T29 l0_0 x8_1).f2))).trans hx157_0; replace hx157_0 := (cell_far (p := ⟨gb153, 3, none⟩) (by first | (rw [add_block]; exact hn157_3) | (show (Addr.add _ _).block ≠ _; rw [add_block]; exact hn157_3) | exact hn157_3) (.slice (some ad156) ((rd_T29 l0_0 x8_1).f3).length c152_3)).trans hx157_0; clear hn157_0; clear hn157_1; clear hn157_2; clear hn157_3; replace p157 := eq_true p157; replace q157 := eq_true q157))
                          go_ret
                          exact ⟨by first | rfl | (simp [errW_none, errW_some] <;> rfl) | (simp [*, errW_none, errW_some] <;> rfl), by repeat (first | (with_reducible first | exact HB.out | apply below_alloc | apply pw_below_drewN | apply below_drew1 | refine below_set ?_ GE151.out | refine below_set ?_ GE153.out) | exact HB.out)⟩
                        · rw [if_neg c25] at H
                          have c25b0 : decide ((rd ((rd_T29 l0_0 x8_1).f3) 0) ≤ 57343) = false := decide_eq_false c25
                          clear c25
                          have H' := Aside0.mk H
                          clear H
                          have p152 : 0 ≤ (x8_1 : Int) := of_decide_eq_true (by first | (with_reducible assumption) | assumption)
                          have q152 : x8_1 < (l0_0.length : Int) := of_decide_eq_true (by first | (with_reducible assumption) | assumption)
                          obtain ⟨ad152, A152_3, c152_3, e152, hx152_0, hx152_1, hx152_2, hx152_3, hl152_3, hi152_3⟩ := at_T29 HR0_0.out x8_1 p152 q152
                          cases e152
                          replace hx152_0 := (HB.out.cell (World.block_lt_of_cell? w _ hx152_0)).trans hx152_0
                          replace hx152_1 := (HB.out.cell (World.block_lt_of_cell? w _ hx152_1)).trans hx152_1
                          replace hx152_2 := (HB.out.cell (World.block_lt_of_cell? w _ hx152_2)).trans hx152_2
                          replace hx152_3 := (HB.out.cell (World.block_lt_of_cell? w _ hx152_3)).trans hx152_3
                          have HR152_3 := Aside0.mk hi152_3
                          have HC152_3 := Aside0.mk hl152_3
                          clear hi152_3 hl152_3
                          replace p152 := eq_true p152
                          replace q152 := eq_true q152
                          go_wp2_with (first | ((with_reducible refine gate_dst (N := 4) rfl ?_); (try (refine gate_guard (by rfl) ?_; dsimp only)); refine box_event ?hg (N := 4) ?hd (cs := #[.int .i64 0, .int .i64 0, .int .i64 0, .slice none 0 0]) (t := 29) ?hr ?_; (case hd => rfl); (case hg => rfl); (case hr => first | (go_simp; done) | (go_simp; rfl)); intro gb153 hg w29 hbox hb; have n0_ := Aside0.mk (blk_below (g := gb151) (o := .cells #[.slice (some ad152) l0_0.length c0_0, .int .i64 a0_1, .int .i64 a0_2] 24 (0, 0)) (by (with_reducible repeat (first | refine blk_drewN ?_ _ | refine blk_drew ?_ | refine blk_alloc ?_ _)); exact BK151.out) hb); have n1_ := Aside0.mk (below_step (by repeat (first | (with_reducible first | exact HB.out | apply below_alloc | apply pw_below_drewN | apply below_drew1 | refine below_set ?_ GE151.out) | exact HB.out)) hb); have n2_ := Aside0.mk (hbox); have n3_ := Aside0.mk ((by rw [hg]; exact (below_size (by repeat (first | (with_reducible first | exact HB.out | apply below_alloc | apply pw_below_drewN | apply below_drew1 | refine below_set ?_ GE151.out) | exact HB.out))) : w.heap.size ≤ gb153)); have n4_ := Aside0.mk ((by rw [hg]; exact (below_size (by repeat (first | (with_reducible first | exact HB.out | apply below_alloc | apply pw_below_drewN | apply below_drew1 | refine below_set ?_ GE151.out) | exact HB.out))) : w.heap.size ≤ gb153)); have n5_ := Aside0.mk ((by rw [hg]; exact Nat.ne_of_lt (blk_lt (g := gb151) (o := .cells #[.slice (some ad152) l0_0.length c0_0, .int .i64 a0_1, .int .i64 a0_2] 24 (0, 0)) (by (with_reducible repeat (first | refine blk_drewN ?_ _ | refine blk_drew ?_ | refine blk_alloc ?_ _)); exact BK151.out)) : gb151 ≠ gb153)); have n6_ := Aside0.mk ((by rw [hg]; exact Nat.ne_of_gt (blk_lt (g := gb151) (o := .cells #[.slice (some ad152) l0_0.length c0_0, .int .i64 a0_1, .int .i64 a0_2] 24 (0, 0)) (by (with_reducible repeat (first | refine blk_drewN ?_ _ | refine blk_drew ?_ | refine blk_alloc ?_ _)); exact BK151.out)) : gb153 ≠ gb151)); clear BK151; clear HB; have BK151 := n0_; have HB := n1_; have BK153 := n2_; have GW153 := n3_; have GE153 := n4_; have NB151_153 := n5_; have NB153_151 := n6_; clear n0_ n1_ n2_ n3_ n4_ n5_ n6_; clear hb hbox hg; have hnb30 := NB153_151.out; have hnc30 := NB151_153.out; have hcz31_0 : w29.cell? ⟨gb153, 0, none⟩ = some (.int .i64 0) := (blk_cell BK153.out 0).trans rfl; have hcz31_1 : w29.cell? ⟨gb153, 1, none⟩ = some (.int .i64 0) := (blk_cell BK153.out 1).trans rfl; have hcz31_2 : w29.cell? ⟨gb153, 2, none⟩ = some (.int .i64 0) := (blk_cell BK153.out 2).trans rfl; have hcz31_3 : w29.cell? ⟨gb153, 3, none⟩ = some (.slice none 0 0) := (blk_cell BK153.out 3).trans rfl; have hfz31_0 := blk_frozen BK153.out 0; have hfz31_1 := blk_frozen BK153.out 1; have hfz31_2 := blk_frozen BK153.out 2; have hfz31_3 := blk_frozen BK153.out 3; have p156 : 0 ≤ (0 : Int) := (by omega); have q156 : 0 < (((rd_T29 l0_0 x8_1).f3).length : Int) := of_decide_eq_true (by first | (with_reducible assumption) | assumption); obtain ⟨ad156, e156, hx156_0⟩ := Kd.at_int HR152_3.out 0 p156 q156; cases e156; have qi156 : (0 < ((rd_T29 l0_0 x8_1).f3).length) = True := eq_true (by omega); (try rw [show ((0 : Int)).toNat = 0 from rfl] at hx156_0); (try rw [Addr.add_zero'] at hx156_0); have hn156_0 : ad156.block ≠ gb153 := Nat.ne_of_lt (Nat.lt_of_lt_of_le (by have := World.block_lt_of_cell? _ _ hx156_0; first | rwa [add_block] at this | exact this) GW153.out); have hn156_1 : ad156.block ≠ gb153 := Nat.ne_of_lt (Nat.lt_of_lt_of_le (by have := World.block_lt_of_cell? _ _ hx156_0; first | rwa [add_block] at this | exact this) GW153.out); have hn156_2 : ad156.block ≠ gb153 := Nat.ne_of_lt (Nat.lt_of_lt_of_le (by have := World.block_lt_of_cell? _ _ hx156_0; first | rwa [add_block] at this | exact this) GW153.out); have hn156_3 : ad156.block ≠ gb153 := Nat.ne_of_lt (Nat.lt_of_lt_of_le (by have := World.block_lt_of_cell? _ _ hx156_0; first | rwa [add_block] at this | exact this) GW153.out); replace hx156_0 := (HB.out.cell (World.block_lt_of_cell? w _ hx156_0)).trans hx156_0; replace hx156_0 := (cell_far (p := ⟨gb153, 0, none⟩) (by first | (rw [add_block]; exact hn156_0) | (show (Addr.add _ _).block ≠ _; rw [add_block]; exact hn156_0) | exact hn156_0) (.int .i64 ((rd_T29 l0_0 x8_1).f0))).trans hx156_0; replace hx156_0 := (cell_far (p := ⟨gb153, 1, none⟩) (by first | (rw [add_block]; exact hn156_1) | (show (Addr.add _ _).block ≠ _; rw [add_block]; exact hn156_1) | exact hn156_1) (.int .i64 ((rd_T29 l0_0 x8_1).f1))).trans hx156_0; replace hx156_0 := (cell_far (p := ⟨gb153, 2, none⟩) (by first | (rw [add_block]; exact hn156_2) | (show (Addr.add _ _).block ≠ _; rw [add_block]; exact hn156_2) | exact hn156_2) (.int .i64 ((rd_T29 l0_0 x8_1).f2))).trans hx156_0; replace hx156_0 := (cell_far (p := ⟨gb153, 3, none⟩) (by first | (rw [add_block]; exact hn156_3) | (show (Addr.add _ _).block ≠ _; rw [add_block]; exact hn156_3) | exact hn156_3) (.slice (some ad156) ((rd_T29 l0_0 x8_1).f3).length c152_3)).trans hx156_0; clear hn156_0; clear hn156_1; clear hn156_2; clear hn156_3; replace p156 := eq_true p156; replace q156 := eq_true q156; have p157 : 0 ≤ (0 : Int) := (by omega); have q157 : 0 < (((rd_T29 l0_0 x8_1).f3).length : Int) := of_decide_eq_true (by first | (with_reducible assumption) | assumption); obtain ⟨ad157, e157, hx157_0⟩ := Kd.at_int HR152_3.out 0 p157 q157; obtain rfl : ad156 = ad157 := (by injection e157); have qi157 : (0 < ((rd_T29 l0_0 x8_1).f3).length) = True := eq_true (by omega); (try rw [show ((0 : Int)).toNat = 0 from rfl] at hx157_0); (try rw [Addr.add_zero'] at hx157_0); have hn157_0 : ad156.block ≠ gb153 := Nat.ne_of_lt (Nat.lt_of_lt_of_le (by have := World.block_lt_of_cell? _ _ hx157_0; first | rwa [add_block] at this | exact this) GW153.out); have hn157_1 : ad156.block ≠ gb153 := Nat.ne_of_lt (Nat.lt_of_lt_of_le (by have := World.block_lt_of_cell? _ _ hx157_0; first | rwa [add_block] at this | exact this) GW153.out); have hn157_2 : ad156.block ≠ gb153 := Nat.ne_of_lt (Nat.lt_of_lt_of_le (by have := World.block_lt_of_cell? _ _ hx157_0; first | rwa [add_block] at this | exact this) GW153.out); have hn157_3 : ad156.block ≠ gb153 := Nat.ne_of_lt (Nat.lt_of_lt_of_le (by have := World.block_lt_of_cell? _ _ hx157_0; first | rwa [add_block] at this | exact this) GW153.out); replace hx157_0 := (HB.out.cell (World.block_lt_of_cell? w _ hx157_0)).trans hx157_0; replace hx157_0 := (cell_far (p := ⟨gb153, 0, none⟩) (by first | (rw [add_block]; exact hn157_0) | (show (Addr.add _ _).block ≠ _; rw [add_block]; exact hn157_0) | exact hn157_0) (.int .i64 ((rd_T29 l0_0 x8_1).f0))).trans hx157_0; replace hx157_0 := (cell_far (p := ⟨gb153, 1, none⟩) (by first | (rw [add_block]; exact hn157_1) | (show (Addr.add _ _).block ≠ _; rw [add_block]; exact hn157_1) | exact hn157_1) (.int .i64 ((rd_T29 l0_0 x8_1).f1))).trans hx157_0; replace hx157_0 := (cell_far (p := ⟨gb153, 2, none⟩) (by first | (rw [add_block]; exact hn157_2) | (show (Addr.add _ _).block ≠ _; rw [add_block]; exact hn157_2) | exact hn157_2) (.int .i64 ((rd_T29 l0_0 x8_1).f2))).trans hx157_0; replace hx157_0 := (cell_far (p := ⟨gb153, 3, none⟩) (by first | (rw [add_block]; exact hn157_3) | (show (Addr.add _ _).block ≠ _; rw [add_block]; exact hn157_3) | exact hn157_3) (.slice (some ad156) ((rd_T29 l0_0 x8_1).f3).length c152_3)).trans hx157_0; clear hn157_0; clear hn157_1; clear hn157_2; clear hn157_3; replace p157 := eq_true p157; replace q157 := eq_true q157))
                          go_roundg k1
                          case measure => have := HK1.out; omega
                          case rel => exact ⟨(wrap64 (x8_1 + 1)), (by first | rfl | (simp; done) | (simp [*]; done)), H', ⟨by have := HK1.out; omega⟩, ⟨by (with_reducible repeat (first | refine blk_drewN ?_ _ | refine blk_drew ?_ | refine blk_alloc ?_ _)); refine blk_far ?_ NB151_153.out _; (with_reducible repeat (first | refine blk_drewN ?_ _ | refine blk_drew ?_ | refine blk_alloc ?_ _)); refine blk_far ?_ NB151_153.out _; (with_reducible repeat (first | refine blk_drewN ?_ _ | refine blk_drew ?_ | refine blk_alloc ?_ _)); refine blk_far ?_ NB151_153.out _; (with_reducible repeat (first | refine blk_drewN ?_ _ | refine blk_drew ?_ | refine blk_alloc ?_ _)); refine blk_far ?_ NB151_153.out _; (with_reducible repeat (first | refine blk_drewN ?_ _ | refine blk_drew ?_ | refine blk_alloc ?_ _)); exact BK151.out⟩, ⟨by repeat (first | (with_reducible first | exact HB.out | apply below_alloc | apply pw_below_drewN | apply below_drew1 | refine below_set ?_ GE151.out | refine below_set ?_ GE153.out) | exact HB.out)⟩⟩
                      · rw [if_neg c24] at H
                        have c24b0 : decide (55296 ≤ (rd ((rd_T29 l0_0 x8_1).f3) 0)) = false := decide_eq_false c24
                        clear c24
                        have H' := Aside0.mk H
                        clear H
                        have p152 : 0 ≤ (x8_1 : Int) := of_decide_eq_true (by first | (with_reducible assumption) | assumption)
                        have q152 : x8_1 < (l0_0.length : Int) := of_decide_eq_true (by first | (with_reducible assumption) | assumption)
                        obtain ⟨ad152, A152_3, c152_3, e152, hx152_0, hx152_1, hx152_2, hx152_3, hl152_3, hi152_3⟩ := at_T29 HR0_0.out x8_1 p152 q152
                        cases e152
                        replace hx152_0 := (HB.out.cell (World.block_lt_of_cell? w _ hx152_0)).trans hx152_0
                        replace hx152_1 := (HB.out.cell (World.block_lt_of_cell? w _ hx152_1)).trans hx152_1
                        replace hx152_2 := (HB.out.cell (World.block_lt_of_cell? w _ hx152_2)).trans hx152_2
                        replace hx152_3 := (HB.out.cell (World.block_lt_of_cell? w _ hx152_3)).trans hx152_3
                        have HR152_3 := Aside0.mk hi152_3
                        have HC152_3 := Aside0.mk hl152_3
                        clear hi152_3 hl152_3
                        replace p152 := eq_true p152
                        replace q152 := eq_true q152
                        go_wp2_with (first | ((with_reducible refine gate_dst (N := 4) rfl ?_); (try (refine gate_guard (by rfl) ?_; dsimp only)); refine box_event ?hg (N := 4) ?hd (cs := #[.int .i64 0, .int .i64 0, .int .i64 0, .slice none 0 0]) (t := 29) ?hr ?_; (case hd => rfl); (case hg => rfl); (case hr => first | (go_simp; done) | (go_simp; rfl)); intro gb153 hg w32 hbox hb; have n0_ := Aside0.mk (blk_below (g := gb151) (o := .cells #[.slice (some ad152) l0_0.length c0_0, .int .i64 a0_1, .int .i64 a0_2] 24 (0, 0)) (by (with_reducible repeat (first | refine blk_drewN ?_ _ | refine blk_drew ?_ | refine blk_alloc ?_ _)); exact BK151.out) hb); have n1_ := Aside0.mk (below_step (by repeat (first | (with_reducible first | exact HB.out | apply below_alloc | apply pw_below_drewN | apply below_drew1 | refine below_set ?_ GE151.out) | exact HB.out)) hb); have n2_ := Aside0.mk (hbox); have n3_ := Aside0.mk ((by rw [hg]; exact (below_size (by repeat (first | (with_reducible first | exact HB.out | apply below_alloc | apply pw_below_drewN | apply below_drew1 | refine below_set ?_ GE151.out) | exact HB.out))) : w.heap.size ≤ gb153)); have n4_ := Aside0.mk ((by rw [hg]; exact (below_size (by repeat (first | (with_reducible first | exact HB.out | apply below_alloc | apply pw_below_drewN | apply below_drew1 | refine below_set ?_ GE151.out) | exact HB.out))) : w.heap.size ≤ gb153)); have n5_ := Aside0.mk ((by rw [hg]; exact Nat.ne_of_lt (blk_lt (g := gb151) (o := .cells #[.slice (some ad152) l0_0.length c0_0, .int .i64 a0_1, .int .i64 a0_2] 24 (0, 0)) (by (with_reducible repeat (first | refine blk_drewN ?_ _ | refine blk_drew ?_ | refine blk_alloc ?_ _)); exact BK151.out)) : gb151 ≠ gb153)); have n6_ := Aside0.mk ((by rw [hg]; exact Nat.ne_of_gt (blk_lt (g := gb151) (o := .cells #[.slice (some ad152) l0_0.length c0_0, .int .i64 a0_1, .int .i64 a0_2] 24 (0, 0)) (by (with_reducible repeat (first | refine blk_drewN ?_ _ | refine blk_drew ?_ | refine blk_alloc ?_ _)); exact BK151.out)) : gb153 ≠ gb151)); clear BK151; clear HB; have BK151 := n0_; have HB := n1_; have BK153 := n2_; have GW153 := n3_; have GE153 := n4_; have NB151_153 := n5_; have NB153_151 := n6_; clear n0_ n1_ n2_ n3_ n4_ n5_ n6_; clear hb hbox hg; have hnb33 := NB153_151.out; have hnc33 := NB151_153.out; have hcz34_0 : w32.cell? ⟨gb153, 0, none⟩ = some (.int .i64 0) := (blk_cell BK153.out 0).trans rfl; have hcz34_1 : w32.cell? ⟨gb153, 1, none⟩ = some (.int .i64 0) := (blk_cell BK153.out 1).trans rfl; have hcz34_2 : w32.cell? ⟨gb153, 2, none⟩ = some (.int .i64 0) := (blk_cell BK153.out 2).trans rfl; have hcz34_3 : w32.cell? ⟨gb153, 3, none⟩ = some (.slice none 0 0) := (blk_cell BK153.out 3).trans rfl; have hfz34_0 := blk_frozen BK153.out 0; have hfz34_1 := blk_frozen BK153.out 1; have hfz34_2 := blk_frozen BK153.out 2; have hfz34_3 := blk_frozen BK153.out 3; have p156 : 0 ≤ (0 : Int) := (by omega); have q156 : 0 < (((rd_T29 l0_0 x8_1).f3).length : Int) := of_decide_eq_true (by first | (with_reducible assumption) | assumption); obtain ⟨ad156, e156, hx156_0⟩ := Kd.at_int HR152_3.out 0 p156 q156; cases e156; have qi156 : (0 < ((rd_T29 l0_0 x8_1).f3).length) = True := eq_true (by omega); (try rw [show ((0 : Int)).toNat = 0 from rfl] at hx156_0); (try rw [Addr.add_zero'] at hx156_0); have hn156_0 : ad156.block ≠ gb153 := Nat.ne_of_lt (Nat.lt_of_lt_of_le (by have := World.block_lt_of_cell? _ _ hx156_0; first | rwa [add_block] at this | exact this) GW153.out); have hn156_1 : ad156.block ≠ gb153 := Nat.ne_of_lt (Nat.lt_of_lt_of_le (by have := World.block_lt_of_cell? _ _ hx156_0; first | rwa [add_block] at this | exact this) GW153.out); have hn156_2 : ad156.block ≠ gb153 := Nat.ne_of_lt (Nat.lt_of_lt_of_le (by have := World.block_lt_of_cell? _ _ hx156_0; first | rwa [add_block] at this | exact this) GW153.out); have hn156_3 : ad156.block ≠ gb153 := Nat.ne_of_lt (Nat.lt_of_lt_of_le (by have := World.block_lt_of_cell? _ _ hx156_0; first | rwa [add_block] at this | exact this) GW153.out); replace hx156_0 := (HB.out.cell (World.block_lt_of_cell? w _ hx156_0)).trans hx156_0; replace hx156_0 := (cell_far (p := ⟨gb153, 0, none⟩) (by first | (rw [add_block]; exact hn156_0) | (show (Addr.add _ _).block ≠ _; rw [add_block]; exact hn156_0) | exact hn156_0) (.int .i64 ((rd_T29 l0_0 x8_1).f0))).trans hx156_0; replace hx156_0 := (cell_far (p := ⟨gb153, 1, none⟩) (by first | (rw [add_block]; exact hn156_1) | (show (Addr.add _ _).block ≠ _; rw [add_block]; exact hn156_1) | exact hn156_1) (.int .i64 ((rd_T29 l0_0 x8_1).f1))).trans hx156_0; replace hx156_0 := (cell_far (p := ⟨gb153, 2, none⟩) (by first | (rw [add_block]; exact hn156_2) | (show (Addr.add _ _).block ≠ _; rw [add_block]; exact hn156_2) | exact hn156_2) (.int .i64 ((rd_T29 l0_0 x8_1).f2))).trans hx156_0; replace hx156_0 := (cell_far (p := ⟨gb153, 3, none⟩) (by first | (rw [add_block]; exact hn156_3) | (show (Addr.add _ _).block ≠ _; rw [add_block]; exact hn156_3) | exact hn156_3) (.slice (some ad156) ((rd_T29 l0_0 x8_1).f3).length c152_3)).trans hx156_0; clear hn156_0; clear hn156_1; clear hn156_2; clear hn156_3; replace p156 := eq_true p156; replace q156 := eq_true q156))
                        go_roundg k1
                        case measure => have := HK1.out; omega
                        case rel => exact ⟨(wrap64 (x8_1 + 1)), (by first | rfl | (simp; done) | (simp [*]; done)), H', ⟨by have := HK1.out; omega⟩, ⟨by (with_reducible repeat (first | refine blk_drewN ?_ _ | refine blk_drew ?_ | refine blk_alloc ?_ _)); refine blk_far ?_ NB151_153.out _; (with_reducible repeat (first | refine blk_drewN ?_ _ | refine blk_drew ?_ | refine blk_alloc ?_ _)); refine blk_far ?_ NB151_153.out _; (with_reducible repeat (first | refine blk_drewN ?_ _ | refine blk_drew ?_ | refine blk_alloc ?_ _)); refine blk_far ?_ NB151_153.out _; (with_reducible repeat (first | refine blk_drewN ?_ _ | refine blk_drew ?_ | refine blk_alloc ?_ _)); refine blk_far ?_ NB151_153.out _; (with_reducible repeat (first | refine blk_drewN ?_ _ | refine blk_drew ?_ | refine blk_alloc ?_ _)); exact BK151.out⟩, ⟨by repeat (first | (with_reducible first | exact HB.out | apply below_alloc | apply pw_below_drewN | apply below_drew1 | refine below_set ?_ GE151.out | refine below_set ?_ GE153.out) | exact HB.out)⟩⟩
                    · rw [if_neg c23] at H
                      exact absurd H (by simp)
                  · rw [if_neg c22] at H
                    have c22b0 : ((((rd_T29 l0_0 x8_1).f3).length : Int) == 1) = false := beq_eq_false_iff_ne.mpr c22
                    have c22b1 : ((((rd_T29 l0_0 x8_1).f3).length : Int) != 1) = true := bne_iff_ne.mpr c22
                    have H' := Aside0.mk H
                    clear H
                    have p152 : 0 ≤ (x8_1 : Int) := of_decide_eq_true (by first | (with_reducible assumption) | assumption)
                    have q152 : x8_1 < (l0_0.length : Int) := of_decide_eq_true (by first | (with_reducible assumption) | assumption)
                    obtain ⟨ad152, A152_3, c152_3, e152, hx152_0, hx152_1, hx152_2, hx152_3, hl152_3, hi152_3⟩ := at_T29 HR0_0.out x8_1 p152 q152
                    cases e152
                    replace hx152_0 := (HB.out.cell (World.block_lt_of_cell? w _ hx152_0)).trans hx152_0
                    replace hx152_1 := (HB.out.cell (World.block_lt_of_cell? w _ hx152_1)).trans hx152_1
                    replace hx152_2 := (HB.out.cell (World.block_lt_of_cell? w _ hx152_2)).trans hx152_2
                    replace hx152_3 := (HB.out.cell (World.block_lt_of_cell? w _ hx152_3)).trans hx152_3
                    have HR152_3 := Aside0.mk hi152_3
                    have HC152_3 := Aside0.mk hl152_3
                    clear hi152_3 hl152_3
                    replace p152 := eq_true p152
                    replace q152 := eq_true q152
                    go_wp2_with (first | ((with_reducible refine gate_dst (N := 4) rfl ?_); (try (refine gate_guard (by rfl) ?_; dsimp only)); refine box_event ?hg (N := 4) ?hd (cs := #[.int .i64 0, .int .i64 0, .int .i64 0, .slice none 0 0]) (t := 29) ?hr ?_; (case hd => rfl); (case hg => rfl); (case hr => first | (go_simp; done) | (go_simp; rfl)); intro gb153 hg w35 hbox hb; have n0_ := Aside0.mk (blk_below (g := gb151) (o := .cells #[.slice (some ad152) l0_0.length c0_0, .int .i64 a0_1, .int .i64 a0_2] 24 (0, 0)) (by (with_reducible repeat (first | refine blk_drewN ?_ _ | refine blk_drew ?_ | refine blk_alloc ?_ _)); exact BK151.out) hb); have n1_ := Aside0.mk (below_step (by repeat (first | (with_reducible first | exact HB.out | apply below_alloc | apply pw_below_drewN | apply below_drew1 | refine below_set ?_ GE151.out) | exact HB.out)) hb); have n2_ := Aside0.mk (hbox); have n3_ := Aside0.mk ((by rw [hg]; exact (below_size (by repeat (first | (with_reducible first | exact HB.out | apply below_alloc | apply pw_below_drewN | apply below_drew1 | refine below_set ?_ GE151.out) | exact HB.out))) : w.heap.size ≤ gb153)); have n4_ := Aside0.mk ((by rw [hg]; exact (below_size (by repeat (first | (with_reducible first | exact HB.out | apply below_alloc | apply pw_below_drewN | apply below_drew1 | refine below_set ?_ GE151.out) | exact HB.out))) : w.heap.size ≤ gb153)); have n5_ := Aside0.mk ((by rw [hg]; exact Nat.ne_of_lt (blk_lt (g := gb151) (o := .cells #[.slice (some ad152) l0_0.length c0_0, .int .i64 a0_1, .int .i64 a0_2] 24 (0, 0)) (by (with_reducible repeat (first | refine blk_drewN ?_ _ | refine blk_drew ?_ | refine blk_alloc ?_ _)); exact BK151.out)) : gb151 ≠ gb153)); have n6_ := Aside0.mk ((by rw [hg]; exact Nat.ne_of_gt (blk_lt (g := gb151) (o := .cells #[.slice (some ad152) l0_0.length c0_0, .int .i64 a0_1, .int .i64 a0_2] 24 (0, 0)) (by (with_reducible repeat (first | refine blk_drewN ?_ _ | refine blk_drew ?_ | refine blk_alloc ?_ _)); exact BK151.out)) : gb153 ≠ gb151)); clear BK151; clear HB; have BK151 := n0_; have HB := n1_; have BK153 := n2_; have GW153 := n3_; have GE153 := n4_; have NB151_153 := n5_; have NB153_151 := n6_; clear n0_ n1_ n2_ n3_ n4_ n5_ n6_; clear hb hbox hg; have hnb36 := NB153_151.out; have hnc36 := NB151_153.out; have hcz37_0 : w35.cell? ⟨gb153, 0, none⟩ = some (.int .i64 0) := (blk_cell BK153.out 0).trans rfl; have hcz37_1 : w35.cell? ⟨gb153, 1, none⟩ = some (.int .i64 0) := (blk_cell BK153.out 1).trans rfl; have hcz37_2 : w35.cell? ⟨gb153, 2, none⟩ = some (.int .i64 0) := (blk_cell BK153.out 2).trans rfl; have hcz37_3 : w35.cell? ⟨gb153, 3, none⟩ = some (.slice none 0 0) := (blk_cell BK153.out 3).trans rfl; have hfz37_0 := blk_frozen BK153.out 0; have hfz37_1 := blk_frozen BK153.out 1; have hfz37_2 := blk_frozen BK153.out 2; have hfz37_3 := blk_frozen BK153.out 3))
                    go_roundg k1
                    case measure => have := HK1.out; omega
                    case rel => exact ⟨(wrap64 (x8_1 + 1)), (by first | rfl | (simp; done) | (simp [*]; done)), H', ⟨by have := HK1.out; omega⟩, ⟨by (with_reducible repeat (first | refine blk_drewN ?_ _ | refine blk_drew ?_ | refine blk_alloc ?_ _)); refine blk_far ?_ NB151_153.out _; (with_reducible repeat (first | refine blk_drewN ?_ _ | refine blk_drew ?_ | refine blk_alloc ?_ _)); refine blk_far ?_ NB151_153.out _; (with_reducible repeat (first | refine blk_drewN ?_ _ | refine blk_drew ?_ | refine blk_alloc ?_ _)); refine blk_far ?_ NB151_153.out _; (with_reducible repeat (first | refine blk_drewN ?_ _ | refine blk_drew ?_ | refine blk_alloc ?_ _)); refine blk_far ?_ NB151_153.out _; (with_reducible repeat (first | refine blk_drewN ?_ _ | refine blk_drew ?_ | refine blk_alloc ?_ _)); exact BK151.out⟩, ⟨by repeat (first | (with_reducible first | exact HB.out | apply below_alloc | apply pw_below_drewN | apply below_drew1 | refine below_set ?_ GE151.out | refine below_set ?_ GE153.out) | exact HB.out)⟩⟩
                · rw [if_neg c21] at H
                  have c21b0 : (((rd_T29 l0_0 x8_1).f0) == 7) = false := beq_eq_false_iff_ne.mpr c21
                  have c21b1 : (((rd_T29 l0_0 x8_1).f0) != 7) = true := bne_iff_ne.mpr c21
                  have H' := Aside0.mk H
                  clear H
                  have p152 : 0 ≤ (x8_1 : Int) := of_decide_eq_true (by first | (with_reducible assumption) | assumption)
                  have q152 : x8_1 < (l0_0.length : Int) := of_decide_eq_true (by first | (with_reducible assumption) | assumption)
                  obtain ⟨ad152, A152_3, c152_3, e152, hx152_0, hx152_1, hx152_2, hx152_3, hl152_3, hi152_3⟩ := at_T29 HR0_0.out x8_1 p152 q152
                  cases e152
                  replace hx152_0 := (HB.out.cell (World.block_lt_of_cell? w _ hx152_0)).trans hx152_0
                  replace hx152_1 := (HB.out.cell (World.block_lt_of_cell? w _ hx152_1)).trans hx152_1
                  replace hx152_2 := (HB.out.cell (World.block_lt_of_cell? w _ hx152_2)).trans hx152_2
                  replace hx152_3 := (HB.out.cell (World.block_lt_of_cell? w _ hx152_3)).trans hx152_3
                  have HR152_3 := Aside0.mk hi152_3
                  have HC152_3 := Aside0.mk hl152_3
                  clear hi152_3 hl152_3
                  replace p152 := eq_true p152
                  replace q152 := eq_true q152
                  go_wp2_with (first | ((with_reducible refine gate_dst (N := 4) rfl ?_); (try (refine gate_guard (by rfl) ?_; dsimp only)); refine box_event ?hg (N := 4) ?hd (cs := #[.int .i64 0, .int .i64 0, .int .i64 0, .slice none 0 0]) (t := 29) ?hr ?_; (case hd => rfl); (case hg => rfl); (case hr => first | (go_simp; done) | (go_simp; rfl)); intro gb153 hg w38 hbox hb; have n0_ := Aside0.mk (blk_below (g := gb151) (o := .cells #[.slice (some ad152) l0_0.length c0_0, .int .i64 a0_1, .int .i64 a0_2] 24 (0, 0)) (by (with_reducible repeat (first | refine blk_drewN ?_ _ | refine blk_drew ?_ | refine blk_alloc ?_ _)); exact BK151.out) hb); have n1_ := Aside0.mk (below_step (by repeat (first | (with_reducible first | exact HB.out | apply below_alloc | apply pw_below_drewN | apply below_drew1 | refine below_set ?_ GE151.out) | exact HB.out)) hb); have n2_ := Aside0.mk (hbox); have n3_ := Aside0.mk ((by rw [hg]; exact (below_size (by repeat (first | (with_reducible first | exact HB.out | apply below_alloc | apply pw_below_drewN | apply below_drew1 | refine below_set ?_ GE151.out) | exact HB.out))) : w.heap.size ≤ gb153)); have n4_ := Aside0.mk ((by rw [hg]; exact (below_size (by repeat (first | (with_reducible first | exact HB.out | apply below_alloc | apply pw_below_drewN | apply below_drew1 | refine below_set ?_ GE151.out) | exact HB.out))) : w.heap.size ≤ gb153)); have n5_ := Aside0.mk ((by rw [hg]; exact Nat.ne_of_lt (blk_lt (g := gb151) (o := .cells #[.slice (some ad152) l0_0.length c0_0, .int .i64 a0_1, .int .i64 a0_2] 24 (0, 0)) (by (with_reducible repeat (first | refine blk_drewN ?_ _ | refine blk_drew ?_ | refine blk_alloc ?_ _)); exact BK151.out)) : gb151 ≠ gb153)); have n6_ := Aside0.mk ((by rw [hg]; exact Nat.ne_of_gt (blk_lt (g := gb151) (o := .cells #[.slice (some ad152) l0_0.length c0_0, .int .i64 a0_1, .int .i64 a0_2] 24 (0, 0)) (by (with_reducible repeat (first | refine blk_drewN ?_ _ | refine blk_drew ?_ | refine blk_alloc ?_ _)); exact BK151.out)) : gb153 ≠ gb151)); clear BK151; clear HB; have BK151 := n0_; have HB := n1_; have BK153 := n2_; have GW153 := n3_; have GE153 := n4_; have NB151_153 := n5_; have NB153_151 := n6_; clear n0_ n1_ n2_ n3_ n4_ n5_ n6_; clear hb hbox hg; have hnb39 := NB153_151.out; have hnc39 := NB151_153.out; have hcz40_0 : w38.cell? ⟨gb153, 0, none⟩ = some (.int .i64 0) := (blk_cell BK153.out 0).trans rfl; have hcz40_1 : w38.cell? ⟨gb153, 1, none⟩ = some (.int .i64 0) := (blk_cell BK153.out 1).trans rfl; have hcz40_2 : w38.cell? ⟨gb153, 2, none⟩ = some (.int .i64 0) := (blk_cell BK153.out 2).trans rfl; have hcz40_3 : w38.cell? ⟨gb153, 3, none⟩ = some (.slice none 0 0) := (blk_cell BK153.out 3).trans rfl; have hfz40_0 := blk_frozen BK153.out 0; have hfz40_1 := blk_frozen BK153.out 1; have hfz40_2 := blk_frozen BK153.out 2; have hfz40_3 := blk_frozen BK153.out 3))
                  go_roundg k1
                  case measure => have := HK1.out; omega
                  case rel => exact ⟨(wrap64 (x8_1 + 1)), (by first | rfl | (simp; done) | (simp [*]; done)), H', ⟨by have := HK1.out; omega⟩, ⟨by (with_reducible repeat (first | refine blk_drewN ?_ _ | refine blk_drew ?_ | refine blk_alloc ?_ _)); refine blk_far ?_ NB151_153.out _; (with_reducible repeat (first | refine blk_drewN ?_ _ | refine blk_drew ?_ | refine blk_alloc ?_ _)); refine blk_far ?_ NB151_153.out _; (with_reducible repeat (first | refine blk_drewN ?_ _ | refine blk_drew ?_ | refine blk_alloc ?_ _)); refine blk_far ?_ NB151_153.out _; (with_reducible repeat (first | refine blk_drewN ?_ _ | refine blk_drew ?_ | refine blk_alloc ?_ _)); refine blk_far ?_ NB151_153.out _; (with_reducible repeat (first | refine blk_drewN ?_ _ | refine blk_drew ?_ | refine blk_alloc ?_ _)); exact BK151.out⟩, ⟨by repeat (first | (with_reducible first | exact HB.out | apply below_alloc | apply pw_below_drewN | apply below_drew1 | refine below_set ?_ GE151.out | refine below_set ?_ GE153.out) | exact HB.out)⟩⟩
            · rw [if_neg c7] at H
              have c7b0 : decide (0 < (((rd_T29 l0_0 x8_1).f3).length : Int)) = false := decide_eq_false c7
              have c7b1 : decide (0 < ((rd_T29 l0_0 x8_1).f3).length) = false := decide_eq_false (by omega)
              clear c7
              have H' := Aside0.mk H
              clear H
              have p152 : 0 ≤ (x8_1 : Int) := of_decide_eq_true (by first | (with_reducible assumption) | assumption)
              have q152 : x8_1 < (l0_0.length : Int) := of_decide_eq_true (by first | (with_reducible assumption) | assumption)
              obtain ⟨ad152, A152_3, c152_3, e152, hx152_0, hx152_1, hx152_2, hx152_3, hl152_3, hi152_3⟩ := at_T29 HR0_0.out x8_1 p152 q152
              cases e152
              replace hx152_0 := (HB.out.cell (World.block_lt_of_cell? w _ hx152_0)).trans hx152_0
              replace hx152_1 := (HB.out.cell (World.block_lt_of_cell? w _ hx152_1)).trans hx152_1
              replace hx152_2 := (HB.out.cell (World.block_lt_of_cell? w _ hx152_2)).trans hx152_2
              replace hx152_3 := (HB.out.cell (World.block_lt_of_cell? w _ hx152_3)).trans hx152_3
              have HR152_3 := Aside0.mk hi152_3
              have HC152_3 := Aside0.mk hl152_3
              clear hi152_3 hl152_3
              replace p152 := eq_true p152
              replace q152 := eq_true q152
              go_wp2_with (first | ((with_reducible refine gate_dst (N := 4) rfl ?_); (try (refine gate_guard (by rfl) ?_; dsimp only)); refine box_event ?hg (N := 4) ?hd (cs := #[.int .i64 0, .int .i64 0, .int .i64 0, .slice none 0 0]) (t := 29) ?hr ?_; (case hd => rfl); (case hg => rfl); (case hr => first | (go_simp; done) | (go_simp; rfl)); intro gb153 hg w41 hbox hb; have n0_ := Aside0.mk (blk_below (g := gb151) (o := .cells #[.slice (some ad152) l0_0.length c0_0, .int .i64 a0_1, .int .i64 a0_2] 24 (0, 0)) (by (with_reducible repeat (first | refine blk_drewN ?_ _ | refine blk_drew ?_ | refine blk_alloc ?_ _)); exact BK151.out) hb); have n1_ := Aside0.mk (below_step (by repeat (first | (with_reducible first | exact HB.out | apply below_alloc | apply pw_below_drewN | apply below_drew1 | refine below_set ?_ GE151.out) | exact HB.out)) hb); have n2_ := Aside0.mk (hbox); have n3_ := Aside0.mk ((by rw [hg]; exact (below_size (by repeat (first | (with_reducible first | exact HB.out | apply below_alloc | apply pw_below_drewN | apply below_drew1 | refine below_set ?_ GE151.out) | exact HB.out))) : w.heap.size ≤ gb153)); have n4_ := Aside0.mk ((by rw [hg]; exact (below_size (by repeat (first | (with_reducible first | exact HB.out | apply below_alloc | apply pw_below_drewN | apply below_drew1 | refine below_set ?_ GE151.out) | exact HB.out))) : w.heap.size ≤ gb153)); have n5_ := Aside0.mk ((by rw [hg]; exact Nat.ne_of_lt (blk_lt (g := gb151) (o := .cells #[.slice (some ad152) l0_0.length c0_0, .int .i64 a0_1, .int .i64 a0_2] 24 (0, 0)) (by (with_reducible repeat (first | refine blk_drewN ?_ _ | refine blk_drew ?_ | refine blk_alloc ?_ _)); exact BK151.out)) : gb151 ≠ gb153)); have n6_ := Aside0.mk ((by rw [hg]; exact Nat.ne_of_gt (blk_lt (g := gb151) (o := .cells #[.slice (some ad152) l0_0.length c0_0, .int .i64 a0_1, .int .i64 a0_2] 24 (0, 0)) (by (with_reducible repeat (first | refine blk_drewN ?_ _ | refine blk_drew ?_ | refine blk_alloc ?_ _)); exact BK151.out)) : gb153 ≠ gb151)); clear BK151; clear HB; have BK151 := n0_; have HB := n1_; have BK153 := n2_; have GW153 := n3_; have GE153 := n4_; have NB151_153 := n5_; have NB153_151 := n6_; clear n0_ n1_ n2_ n3_ n4_ n5_ n6_; clear hb hbox hg; have hnb42 := NB153_151.out; have hnc42 := NB151_153.out; have hcz43_0 : w41.cell? ⟨gb153, 0, none⟩ = some (.int .i64 0) := (blk_cell BK153.out 0).trans rfl; have hcz43_1 : w41.cell? ⟨gb153, 1, none⟩ = some (.int .i64 0) := (blk_cell BK153.out 1).trans rfl; have hcz43_2 : w41.cell? ⟨gb153, 2, none⟩ = some (.int .i64 0) := (blk_cell BK153.out 2).trans rfl; have hcz43_3 : w41.cell? ⟨gb153, 3, none⟩ = some (.slice none 0 0) := (blk_cell BK153.out 3).trans rfl; have hfz43_0 := blk_frozen BK153.out 0; have hfz43_1 := blk_frozen BK153.out 1; have hfz43_2 := blk_frozen BK153.out 2; have hfz43_3 := blk_frozen BK153.out 3))
              go_roundg k1
              case measure => have := HK1.out; omega
              case rel => exact ⟨(wrap64 (x8_1 + 1)), (by first | rfl | (simp; done) | (simp [*]; done)), H', ⟨by have := HK1.out; omega⟩, ⟨by (with_reducible repeat (first | refine blk_drewN ?_ _ | refine blk_drew ?_ | refine blk_alloc ?_ _)); refine blk_far ?_ NB151_153.out _; (with_reducible repeat (first | refine blk_drewN ?_ _ | refine blk_drew ?_ | refine blk_alloc ?_ _)); refine blk_far ?_ NB151_153.out _; (with_reducible repeat (first | refine blk_drewN ?_ _ | refine blk_drew ?_ | refine blk_alloc ?_ _)); refine blk_far ?_ NB151_153.out _; (with_reducible repeat (first | refine blk_drewN ?_ _ | refine blk_drew ?_ | refine blk_alloc ?_ _)); refine blk_far ?_ NB151_153.out _; (with_reducible repeat (first | refine blk_drewN ?_ _ | refine blk_drew ?_ | refine blk_alloc ?_ _)); exact BK151.out⟩, ⟨by repeat (first | (with_reducible first | exact HB.out | apply below_alloc | apply pw_below_drewN | apply below_drew1 | refine below_set ?_ GE151.out | refine below_set ?_ GE153.out) | exact HB.out)⟩⟩
          · rw [if_neg c6] at H
            exact absurd H (by simp)
        · rw [if_neg c5] at H
          exact absurd H (by simp)
      · rw [if_neg c4] at H
        have c4b0 : decide (x8_1 < (l0_0.length : Int)) = false := decide_eq_false c4
        clear c4
        obtain rfl := Option.some.inj H
        go_wp2
        go_ret
        exact ⟨by first | rfl | (simp [errW_none, errW_some] <;> rfl) | (simp [*, errW_none, errW_some] <;> rfl), by repeat (first | (with_reducible first | exact HB.out | apply below_alloc | apply pw_below_drewN | apply below_drew1 | refine below_set ?_ GE151.out) | exact HB.out)⟩

/-! ### impl_characters: function 66 -/
def impl_characters.l0 : Nat → List Int → Int → Int → Option (Bool)
  | 0, _, _, _ => none
  | k + 1, x5, x6, x7 => if x7 < x6 then (if 0 ≤ x7 then (if x7 < (x5.length : Int) then (if (rd x5 x7) < 0 then (some false) else (if (rd x5 x7) > 1114111 then (some false) else (impl_characters.l0 k x5 x6 (wrap64 (x7 + 1))))) else (none)) else (none)) else (some true)
def impl_characters.f (k : Nat) (l0 : List Int) : Option (Bool) := impl_characters.l0 k l0 (l0.length : Int) 0
theorem impl_characters.mono_l : ∀ k, (∀ y0 y1 y2, LeO (impl_characters.l0 k y0 y1 y2) (impl_characters.l0 (k + 1) y0 y1 y2))
  | 0 => fun _ _ _ r h => by simp [impl_characters.l0] at h
  | k + 1 => by
    have ih0 := impl_characters.mono_l k
    · intro y0 y1 y2
      unfold impl_characters.l0
      repeat' first
      | (with_reducible exact ih0 _ _ _)
      | (with_reducible exact LeO.refl _)
      | (with_reducible exact LeO.none _)
      | (with_reducible refine LeO.ite ?_ ?_)
      | (with_reducible refine LeO.bind ?_ (fun _ => ?_))
      | exact ih0 _ _ _
      | exact LeO.none _
      | refine LeO.ite ?_ ?_
      | refine LeO.bind ?_ (fun _ => ?_)
theorem impl_characters.mono : ∀ a0 k, LeO (impl_characters.f k a0) (impl_characters.f (k + 1) a0) := by
  intro a0 k
  have ih0 := impl_characters.mono_l k
  unfold impl_characters.f
  repeat' first
      | (with_reducible exact ih0 _ _ _)
      | (with_reducible exact LeO.refl _)
      | (with_reducible exact LeO.none _)
      | (with_reducible refine LeO.ite ?_ ?_)
      | (with_reducible refine LeO.bind ?_ (fun _ => ?_))
      | exact ih0 _ _ _
      | exact LeO.none _
      | refine LeO.ite ?_ ?_
      | refine LeO.bind ?_ (fun _ => ?_)
set_option maxHeartbeats 8000000 in
set_option maxRecDepth 100000 in
theorem impl_characters.calls (k : Nat) (A0 : Option Addr) (c0 : Nat) (l0 : List Int) (r : Bool) (w : World) (hr0 : Kd.C (Kd.int .i32) w A0 l0.length l0) (hc0 : l0.length ≤ c0) (h : impl_characters.f k l0 = some r) :
    Calls Tryd.prog 66 #[.slice A0 l0.length c0] w fun e w' => e = .returned (.bool r) ∧ Drawn0 w w' := by
  have HR0 := Aside0.mk hr0
  have HC0 := Aside0.mk hc0
  clear hr0 hc0
  have H : (impl_characters.l0 k l0 (l0.length : Int) 0) = some r := h
  clear h
  have H' := Aside0.mk H
  clear H
  go_enter Tryd.func66, Tryd.ntmps66
  go_wp2
  go_loopg [7] k (fun kq v7 w' => ∃ (x7_1 : Int), v7 = .int .i64 x7_1 ∧ Aside0 (impl_characters.l0 kq l0 (l0.length : Int) x7_1 = some r) ∧ Aside0 (kq ≤ k) ∧ Drawn0 w w')
  case atStart => exact ⟨(0), (by first | rfl | (simp; done) | (simp [*]; done)), H', ⟨Nat.le_refl _⟩, by repeat (first | exact Drawn0.refl _ | apply Drawn0.step)⟩
  case round =>
    clear H'
    obtain ⟨x7_1, rfl, HA, HK1, ⟨m1, rfl⟩⟩ := hrel
    cases gk with
    | zero => exact absurd HA.out (by simp [impl_characters.l0])
    | succ k1 =>
      have H := HA.out
      clear HA
      simp only [impl_characters.l0] at H
      by_cases c2 : x7_1 < (l0.length : Int)
      · rw [if_pos c2] at H
        have c2b0 : decide (x7_1 < (l0.length : Int)) = true := decide_eq_true c2
        clear c2
        by_cases c3 : 0 ≤ x7_1
        · rw [if_pos c3] at H
          have c3b0 : decide (0 ≤ x7_1) = true := decide_eq_true c3
          clear c3
          by_cases c4 : x7_1 < (l0.length : Int)
          · rw [if_pos c4] at H
            have c4b0 : decide (x7_1 < (l0.length : Int)) = true := decide_eq_true c4
            clear c4
            by_cases c5 : (rd l0 x7_1) < 0
            · rw [if_pos c5] at H
              have c5b0 : decide ((rd l0 x7_1) < 0) = true := decide_eq_true c5
              clear c5
              obtain rfl := Option.some.inj H
              have p158 : 0 ≤ (x7_1 : Int) := of_decide_eq_true (by first | (with_reducible assumption) | assumption)
              have q158 : x7_1 < (l0.length : Int) := of_decide_eq_true (by first | (with_reducible assumption) | assumption)
              obtain ⟨ad158, e158, hx158_0⟩ := Kd.at_int HR0.out x7_1 p158 q158
              cases e158
              replace p158 := eq_true p158
              replace q158 := eq_true q158
              go_wp2
              go_ret
              exact ⟨by first | rfl | (simp; done) | (simp [*]; done), by repeat (first | exact Drawn0.refl _ | apply Drawn0.step)⟩
            · rw [if_neg c5] at H
              have c5b0 : decide ((rd l0 x7_1) < 0) = false := decide_eq_false c5
              clear c5
              by_cases c6 : (rd l0 x7_1) > 1114111
              · rw [if_pos c6] at H
                have c6b0 : decide (1114111 < (rd l0 x7_1)) = true := decide_eq_true c6
                clear c6
                obtain rfl := Option.some.inj H
                have p158 : 0 ≤ (x7_1 : Int) := of_decide_eq_true (by first | (with_reducible assumption) | assumption)
                have q158 : x7_1 < (l0.length : Int) := of_decide_eq_true (by first | (with_reducible assumption) | assumption)
                obtain ⟨ad158, e158, hx158_0⟩ := Kd.at_int HR0.out x7_1 p158 q158
                cases e158
                replace p158 := eq_true p158
                replace q158 := eq_true q158
                go_wp2
                go_ret
                exact ⟨by first | rfl | (simp; done) | (simp [*]; done), by repeat (first | exact Drawn0.refl _ | apply Drawn0.step)⟩
              · rw [if_neg c6] at H
                have c6b0 : decide (1114111 < (rd l0 x7_1)) = false := decide_eq_false c6
                clear c6
                have H' := Aside0.mk H
                clear H
                have p158 : 0 ≤ (x7_1 : Int) := of_decide_eq_true (by first | (with_reducible assumption) | assumption)
                have q158 : x7_1 < (l0.length : Int) := of_decide_eq_true (by first | (with_reducible assumption) | assumption)
                obtain ⟨ad158, e158, hx158_0⟩ := Kd.at_int HR0.out x7_1 p158 q158
                cases e158
                replace p158 := eq_true p158
                replace q158 := eq_true q158
                go_wp2
                go_roundg k1
                case measure => have := HK1.out; omega
                case rel => exact ⟨(wrap64 (x7_1 + 1)), (by first | rfl | (simp; done) | (simp [*]; done)), H', ⟨by have := HK1.out; omega⟩, by repeat (first | exact Drawn0.refl _ | apply Drawn0.step)⟩
          · rw [if_neg c4] at H
            exact absurd H (by simp)
        · rw [if_neg c3] at H
          exact absurd H (by simp)
      · rw [if_neg c2] at H
        have c2b0 : decide (x7_1 < (l0.length : Int)) = false := decide_eq_false c2
        clear c2
        obtain rfl := Option.some.inj H
        go_wp2
        go_ret
        exact ⟨by first | rfl | (simp; done) | (simp [*]; done), by repeat (first | exact Drawn0.refl _ | apply Drawn0.step)⟩

/-! ### impl_pairs: function 67 -/
def impl_pairs.l0 : Nat → List Int → Int → Int → Option (Bool)
  | 0, _, _, _ => none
  | k + 1, x0, x3, x4 => if x4 < (x0.length : Int) then (if (wrap64 (x4 + 1)) = (x0.length : Int) then (some false) else (if 0 ≤ x4 then (if (rd x0 x4) ≤ x3 then (some false) else (if 0 ≤ (wrap64 (x4 + 1)) then (if (wrap64 (x4 + 1)) < (x0.length : Int) then (if (rd x0 (wrap64 (x4 + 1))) < (rd x0 x4) then (some false) else (if (rd x0 (wrap64 (x4 + 1))) > 1114111 then (some false) else (impl_pairs.l0 k x0 (rd x0 (wrap64 (x4 + 1))) (wrap64 (x4 + 2))))) else (none)) else (none))) else (none))) else (some true)
def impl_pairs.f (k : Nat) (l0 : List Int) : Option (Bool) := impl_pairs.l0 k l0 (-1) 0
theorem impl_pairs.mono_l : ∀ k, (∀ y0 y1 y2, LeO (impl_pairs.l0 k y0 y1 y2) (impl_pairs.l0 (k + 1) y0 y1 y2))
  | 0 => fun _ _ _ r h => by simp [impl_pairs.l0] at h
  | k + 1 => by
    have ih0 := impl_pairs.mono_l k
    · intro y0 y1 y2
      unfold impl_pairs.l0
      repeat' first
      | (with_reducible exact ih0 _ _ _)
      | (with_reducible exact LeO.refl _)
      | (with_reducible exact LeO.none _)
      | (with_reducible refine LeO.ite ?_ ?_)
      | (with_reducible refine LeO.bind ?_ (fun _ => ?_))
      | exact ih0 _ _ _
      | exact LeO.none _
      | refine LeO.ite ?_ ?_
      | refine LeO.bind ?_ (fun _ => ?_)
theorem impl_pairs.mono : ∀ a0 k, LeO (impl_pairs.f k a0) (impl_pairs.f (k + 1) a0) := by
  intro a0 k
  have ih0 := impl_pairs.mono_l k
  unfold impl_pairs.f
  repeat' first
      | (with_reducible exact ih0 _ _ _)
      | (with_reducible exact LeO.refl _)
      | (with_reducible exact LeO.none _)
      | (with_reducible refine LeO.ite ?_ ?_)
      | (with_reducible refine LeO.bind ?_ (fun _ => ?_))
      | exact ih0 _ _ _
      | exact LeO.none _
      | refine LeO.ite ?_ ?_
      | refine LeO.bind ?_ (fun _ => ?_)
set_option maxHeartbeats 8000000 in
set_option maxRecDepth 100000 in
theorem impl_pairs.calls (k : Nat) (A0 : Option Addr) (c0 : Nat) (l0 : List Int) (r : Bool) (w : World) (hr0 : Kd.C (Kd.int .i32) w A0 l0.length l0) (hc0 : l0.length ≤ c0) (h : impl_pairs.f k l0 = some r) :
    Calls Tryd.prog 67 #[.slice A0 l0.length c0] w fun e w' => e = .returned (.bool r) ∧ Drawn0 w w' := by
  have HR0 := Aside0.mk hr0
  have HC0 := Aside0.mk hc0
  clear hr0 hc0
  have H : (impl_pairs.l0 k l0 (-1) 0) = some r := h
  clear h
  have H' := Aside0.mk H
  clear H
  go_enter Tryd.func67, Tryd.ntmps67
  go_wp2
  repeat (go_quiet (fail); try go_wp2)
  go_loopg [3, 4] k (fun kq v3 v4 w' => ∃ (x3_1 : Int) (x4_1 : Int), v3 = .int .i32 x3_1 ∧ v4 = .int .i64 x4_1 ∧ Aside0 (impl_pairs.l0 kq l0 x3_1 x4_1 = some r) ∧ Aside0 (kq ≤ k) ∧ Drawn0 w w')
  case atStart => exact ⟨((-1)), (0), (by first | rfl | (simp; done) | (simp [*]; done)), (by first | rfl | (simp; done) | (simp [*]; done)), H', ⟨Nat.le_refl _⟩, by repeat (first | exact Drawn0.refl _ | apply Drawn0.step)⟩
  case round =>
    clear H'
    obtain ⟨x3_1, x4_1, rfl, rfl, HA, HK1, ⟨m1, rfl⟩⟩ := hrel
    cases gk with
    | zero => exact absurd HA.out (by simp [impl_pairs.l0])
    | succ k1 =>
      have H := HA.out
      clear HA
      simp only [impl_pairs.l0] at H
      by_cases c2 : x4_1 < (l0.length : Int)
      · rw [if_pos c2] at H
        have c2b0 : decide (x4_1 < (l0.length : Int)) = true := decide_eq_true c2
        clear c2
        by_cases c3 : (wrap64 (x4_1 + 1)) = (l0.length : Int)
        · rw [if_pos c3] at H
          have c3b0 : ((wrap64 (x4_1 + 1)) == (l0.length : Int)) = true := beq_iff_eq.mpr c3
          have c3b1 : ((wrap64 (x4_1 + 1)) != (l0.length : Int)) = false := bne_eq_false_iff_eq.mpr c3
          clear c3
          obtain rfl := Option.some.inj H
          go_wp2
          repeat (go_quiet (fail); try go_wp2)
          go_ret
          exact ⟨by first | rfl | (simp; done) | (simp [*]; done), by repeat (first | exact Drawn0.refl _ | apply Drawn0.step)⟩
        · rw [if_neg c3] at H
          have c3b0 : ((wrap64 (x4_1 + 1)) == (l0.length : Int)) = false := beq_eq_false_iff_ne.mpr c3
          have c3b1 : ((wrap64 (x4_1 + 1)) != (l0.length : Int)) = true := bne_iff_ne.mpr c3
          by_cases c4 : 0 ≤ x4_1
          · rw [if_pos c4] at H
            have c4b0 : decide (0 ≤ x4_1) = true := decide_eq_true c4
            clear c4
            by_cases c5 : (rd l0 x4_1) ≤ x3_1
            · rw [if_pos c5] at H
              have c5b0 : decide ((rd l0 x4_1) ≤ x3_1) = true := decide_eq_true c5
              clear c5
              obtain rfl := Option.some.inj H
              have p159 : 0 ≤ (x4_1 : Int) := of_decide_eq_true (by first | (with_reducible assumption) | assumption)
              have q159 : x4_1 < (l0.length : Int) := of_decide_eq_true (by first | (with_reducible assumption) | assumption)
              obtain ⟨ad159, e159, hx159_0⟩ := Kd.at_int HR0.out x4_1 p159 q159
              cases e159
              replace p159 := eq_true p159
              replace q159 := eq_true q159
              go_wp2
              repeat (go_quiet (fail); try go_wp2)
              go_ret
              exact ⟨by first | rfl | (simp; done) | (simp [*]; done), by repeat (first | exact Drawn0.refl _ | apply Drawn0.step)⟩
            · rw [if_neg c5] at H
              have c5b0 : decide ((rd l0 x4_1) ≤ x3_1) = false := decide_eq_false c5
              clear c5
              obtain ⟨ji6, hji6⟩ : ∃ j_ : Int, (wrap64 (x4_1 + 1)) = j_ := ⟨_, rfl⟩
              replace H : (if 0 ≤ (ji6) then (if (ji6) < (l0.length : Int) then (if (rd l0 (ji6)) < (rd l0 x4_1) then (some false) else (if (rd l0 (ji6)) > 1114111 then (some false) else (impl_pairs.l0 k1 l0 (rd l0 (ji6)) (wrap64 (x4_1 + 2))))) else (none)) else (none)) = some r := by first | (rw [hji6] at H; exact H) | (simp only [hji6] at H ⊢; exact H)
              (try rw [hji6] at c3b0)
              (try rw [hji6] at c3b1)
              have hji6w : (IntKind.i64.wrap (x4_1 + 1)) = ji6 := (i64_w _).trans hji6
              by_cases c7 : 0 ≤ (ji6)
              · rw [if_pos c7] at H
                have c7b0 : decide (0 ≤ (ji6)) = true := decide_eq_true c7
                clear c7
                by_cases c8 : (ji6) < (l0.length : Int)
                · rw [if_pos c8] at H
                  have c8b0 : decide ((ji6) < (l0.length : Int)) = true := decide_eq_true c8
                  clear c8
                  by_cases c9 : (rd l0 (ji6)) < (rd l0 x4_1)
                  · rw [if_pos c9] at H
                    have c9b0 : decide ((rd l0 (ji6)) < (rd l0 x4_1)) = true := decide_eq_true c9
                    clear c9
                    obtain rfl := Option.some.inj H
                    have p159 : 0 ≤ (x4_1 : Int) := of_decide_eq_true (by first | (with_reducible assumption) | assumption)
                    have q159 : x4_1 < (l0.length : Int) := of_decide_eq_true (by first | (with_reducible assumption) | assumption)
                    obtain ⟨ad159, e159, hx159_0⟩ := Kd.at_int HR0.out x4_1 p159 q159
                    cases e159
                    replace p159 := eq_true p159
                    replace q159 := eq_true q159
                    have p160 : 0 ≤ ((ji6) : Int) := of_decide_eq_true (by first | (with_reducible assumption) | assumption)
                    have q160 : (ji6) < (l0.length : Int) := of_decide_eq_true (by first | (with_reducible assumption) | assumption)
                    obtain ⟨ad160, e160, hx160_0⟩ := Kd.at_int HR0.out (ji6) p160 q160
                    obtain rfl : ad159 = ad160 := (by injection e160)
                    replace p160 := eq_true p160
                    replace q160 := eq_true q160
                    have p161 : 0 ≤ (x4_1 : Int) := of_decide_eq_true (by first | (with_reducible assumption) | assumption)
                    have q161 : x4_1 < (l0.length : Int) := of_decide_eq_true (by first | (with_reducible assumption) | assumption)
                    obtain ⟨ad161, e161, hx161_0⟩ := Kd.at_int HR0.out x4_1 p161 q161
                    obtain rfl : ad159 = ad161 := (by injection e161)
                    replace p161 := eq_true p161
                    replace q161 := eq_true q161
                    go_wp2
                    repeat (go_quiet (fail); try go_wp2)
                    go_ret
                    exact ⟨by first | rfl | (simp; done) | (simp only [← hji6] <;> (first | rfl | simp)) | (simp [*]; done), by repeat (first | exact Drawn0.refl _ | apply Drawn0.step)⟩
                  · rw [if_neg c9] at H
                    have c9b0 : decide ((rd l0 (ji6)) < (rd l0 x4_1)) = false := decide_eq_false c9
                    clear c9
                    by_cases c10 : (rd l0 (ji6)) > 1114111
                    · rw [if_pos c10] at H
                      have c10b0 : decide (1114111 < (rd l0 (ji6))) = true := decide_eq_true c10
                      clear c10
                      obtain rfl := Option.some.inj H
                      have p159 : 0 ≤ (x4_1 : Int) := of_decide_eq_true (by first | (with_reducible assumption) | assumption)
                      have q159 : x4_1 < (l0.length : Int) := of_decide_eq_true (by first | (with_reducible assumption) | assumption)
                      obtain ⟨ad159, e159, hx159_0⟩ := Kd.at_int HR0.out x4_1 p159 q159
                      cases e159
                      replace p159 := eq_true p159
                      replace q159 := eq_true q159
                      have p160 : 0 ≤ ((ji6) : Int) := of_decide_eq_true (by first | (with_reducible assumption) | assumption)
                      have q160 : (ji6) < (l0.length : Int) := of_decide_eq_true (by first | (with_reducible assumption) | assumption)
                      obtain ⟨ad160, e160, hx160_0⟩ := Kd.at_int HR0.out (ji6) p160 q160
                      obtain rfl : ad159 = ad160 := (by injection e160)
                      replace p160 := eq_true p160
                      replace q160 := eq_true q160
                      have p161 : 0 ≤ (x4_1 : Int) := of_decide_eq_true (by first | (with_reducible assumption) | assumption)
                      have q161 : x4_1 < (l0.length : Int) := of_decide_eq_true (by first | (with_reducible assumption) | assumption)
                      obtain ⟨ad161, e161, hx161_0⟩ := Kd.at_int HR0.out x4_1 p161 q161
                      obtain rfl : ad159 = ad161 := (by injection e161)
                      replace p161 := eq_true p161
                      replace q161 := eq_true q161
                      have p162 : 0 ≤ ((ji6) : Int) := of_decide_eq_true (by first | (with_reducible assumption) | assumption)
                      have q162 : (ji6) < (l0.length : Int) := of_decide_eq_true (by first | (with_reducible assumption) | assumption)
                      obtain ⟨ad162, e162, hx162_0⟩ := Kd.at_int HR0.out (ji6) p162 q162
                      obtain rfl : ad159 = ad162 := (by injection e162)
                      replace p162 := eq_true p162
                      replace q162 := eq_true q162
                      go_wp2
                      repeat (go_quiet (fail); try go_wp2)
                      go_ret
                      exact ⟨by first | rfl | (simp; done) | (simp only [← hji6] <;> (first | rfl | simp)) | (simp [*]; done), by repeat (first | exact Drawn0.refl _ | apply Drawn0.step)⟩
                    · rw [if_neg c10] at H
                      have c10b0 : decide (1114111 < (rd l0 (ji6))) = false := decide_eq_false c10
                      clear c10
                      have H' := Aside0.mk H
                      clear H
                      have p159 : 0 ≤ (x4_1 : Int) := of_decide_eq_true (by first | (with_reducible assumption) | assumption)
                      have q159 : x4_1 < (l0.length : Int) := of_decide_eq_true (by first | (with_reducible assumption) | assumption)
                      obtain ⟨ad159, e159, hx159_0⟩ := Kd.at_int HR0.out x4_1 p159 q159
                      cases e159
                      replace p159 := eq_true p159
                      replace q159 := eq_true q159
                      have p160 : 0 ≤ ((ji6) : Int) := of_decide_eq_true (by first | (with_reducible assumption) | assumption)
                      have q160 : (ji6) < (l0.length : Int) := of_decide_eq_true (by first | (with_reducible assumption) | assumption)
                      obtain ⟨ad160, e160, hx160_0⟩ := Kd.at_int HR0.out (ji6) p160 q160
                      obtain rfl : ad159 = ad160 := (by injection e160)
                      replace p160 := eq_true p160
                      replace q160 := eq_true q160
                      have p161 : 0 ≤ (x4_1 : Int) := of_decide_eq_true (by first | (with_reducible assumption) | assumption)
                      have q161 : x4_1 < (l0.length : Int) := of_decide_eq_true (by first | (with_reducible assumption) | assumption)
                      obtain ⟨ad161, e161, hx161_0⟩ := Kd.at_int HR0.out x4_1 p161 q161
                      obtain rfl : ad159 = ad161 := (by injection e161)
                      replace p161 := eq_true p161
                      replace q161 := eq_true q161
                      have p162 : 0 ≤ ((ji6) : Int) := of_decide_eq_true (by first | (with_reducible assumption) | assumption)
                      have q162 : (ji6) < (l0.length : Int) := of_decide_eq_true (by first | (with_reducible assumption) | assumption)
                      obtain ⟨ad162, e162, hx162_0⟩ := Kd.at_int HR0.out (ji6) p162 q162
                      obtain rfl : ad159 = ad162 := (by injection e162)
                      replace p162 := eq_true p162
                      replace q162 := eq_true q162
                      have p163 : 0 ≤ ((ji6) : Int) := of_decide_eq_true (by first | (with_reducible assumption) | assumption)
                      have q163 : (ji6) < (l0.length : Int) := of_decide_eq_true (by first | (with_reducible assumption) | assumption)
                      obtain ⟨ad163, e163, hx163_0⟩ := Kd.at_int HR0.out (ji6) p163 q163
                      obtain rfl : ad159 = ad163 := (by injection e163)
                      replace p163 := eq_true p163
                      replace q163 := eq_true q163
                      go_wp2
                      repeat (go_quiet (fail); try go_wp2)
                      go_roundg k1
                      case measure => have := HK1.out; omega
                      case rel => exact ⟨(rd l0 (ji6)), (wrap64 (x4_1 + 2)), (by first | rfl | (simp; done) | (simp only [← hji6] <;> (first | rfl | simp)) | (simp [*]; done)), (by first | rfl | (simp; done) | (simp [*]; done)), H', ⟨by have := HK1.out; omega⟩, by repeat (first | exact Drawn0.refl _ | apply Drawn0.step)⟩
                · rw [if_neg c8] at H
                  exact absurd H (by simp)
              · rw [if_neg c7] at H
                exact absurd H (by simp)
          · rw [if_neg c4] at H
            exact absurd H (by simp)
      · rw [if_neg c2] at H
        have c2b0 : decide (x4_1 < (l0.length : Int)) = false := decide_eq_false c2
        clear c2
        obtain rfl := Option.some.inj H
        go_wp2
        repeat (go_quiet (fail); try go_wp2)
        go_ret
        exact ⟨by first | rfl | (simp; done) | (simp [*]; done), by repeat (first | exact Drawn0.refl _ | apply Drawn0.step)⟩

end Go.Proofs.YteoljppcafakpaaDoor.PFnPgOnePrefix
