/- Machine-made: walks of functions of the program, out of the print's own lines. -/
import Derived.Test.YtofkpinikkfmeaaDoorPFnMtLeasty0
import Derived.Test.YtofkpinikkfmeaaDoorPFnMtLeasty3
namespace Go.Proofs.YtofkpinikkfmeaaDoor.PFnMtLeast
open Go.RowKit Go.Proofs.YtofkpinikkfmeaaDoorW.PrintWords Go.Proofs.YtofkpinikkfmeaaDoorW.PrintLast Go.Proofs.YtofkpinikkfmeaaDoorW.PrintMore
attribute [local go_sem] max2_int min2_int max_two min_two max_three min_three max_four min_four   -- for this text's walks alone
set_option linter.unusedVariables false
set_option linter.unusedSimpArgs false

/-! ### spec_ReSize: function 17 -/
mutual
def spec_ReSize.l0 : Nat → Int → Int → List (S25) → Int → Int → Int → Int → List Int → Int → Int → Int → ByteArray → List (S25) → Option (Int)
  | 0, _, _, _, _, _, _, _, _, _, _, _, _, _ => none
  | k + 1, x1, x5, x9, x10, x11, x122000, x122001, x122002, x122003, x122004, x122005, x122006, x122007 => if x11 < x10 then (if 0 ≤ x11 then (if x11 < (x9.length : Int) then ((spec_ReSize.f k ((rd_T25 x9 x11).f0) ((rd_T25 x9 x11).f1) ((rd_T25 x9 x11).f2) ((rd_T25 x9 x11).f3) ((rd_T25 x9 x11).f4) ((rd_T25 x9 x11).f5) ((rd_T25 x9 x11).f6) ((rd_T25 x9 x11).f7) x1).bind fun t124 => (spec_ReSize.l0 k x1 (mn (wrap64 (x5 + t124)) (wrap64 (x1 + 1))) x9 x10 (wrap64 (x11 + 1)) x122000 x122001 x122002 x122003 x122004 x122005 x122006 x122007)) else (none)) else (none)) else (if x122000 = 17 then (some (mn (wrap64 ((mn (wrap64 ((wrap64 (x5 + 1)) * (mx (mx (wrap64 (x122003 + 1)) x122004) 1))) (wrap64 (x1 + 1))) + 2)) (wrap64 (x1 + 1)))) else (if x122000 = 3 then (some (mn (wrap64 ((x122002.length : Int) + 2)) (wrap64 (x1 + 1)))) else (if x122000 = 19 then (some (mn (wrap64 ((wrap64 (x5 + (x122007.length : Int))) + 2)) (wrap64 (x1 + 1)))) else (some (mn (wrap64 (x5 + 2)) (wrap64 (x1 + 1)))))))
def spec_ReSize.f : Nat → Int → Int → List Int → Int → Int → Int → ByteArray → List (S25) → Int → Option (Int)
  | 0, _, _, _, _, _, _, _, _, _ => none
  | k + 1, a0_0, a0_1, l0_2, a0_3, a0_4, a0_5, a0_6, l0_7, a1 => spec_ReSize.l0 k a1 0 l0_7 (l0_7.length : Int) 0 a0_0 a0_1 l0_2 a0_3 a0_4 a0_5 a0_6 l0_7
end
theorem spec_ReSize.mono_l : ∀ k, (∀ y0 y1 y2 y3 y4 y5 y6 y7 y8, LeO (spec_ReSize.f k y0 y1 y2 y3 y4 y5 y6 y7 y8) (spec_ReSize.f (k + 1) y0 y1 y2 y3 y4 y5 y6 y7 y8)) ∧ (∀ y0 y1 y2 y3 y4 y5 y6 y7 y8 y9 y10 y11 y12, LeO (spec_ReSize.l0 k y0 y1 y2 y3 y4 y5 y6 y7 y8 y9 y10 y11 y12) (spec_ReSize.l0 (k + 1) y0 y1 y2 y3 y4 y5 y6 y7 y8 y9 y10 y11 y12))
  | 0 => ⟨fun _ _ _ _ _ _ _ _ _ r h => by simp [spec_ReSize.f] at h, fun _ _ _ _ _ _ _ _ _ _ _ _ _ r h => by simp [spec_ReSize.l0] at h⟩
  | k + 1 => by
    obtain ⟨ih0, ih1⟩ := spec_ReSize.mono_l k
    refine ⟨?_, ?_⟩
    · intro y0 y1 y2 y3 y4 y5 y6 y7 y8
      unfold spec_ReSize.f
      repeat' first
      | (with_reducible exact ih0 _ _ _ _ _ _ _ _ _)
      | (with_reducible exact ih1 _ _ _ _ _ _ _ _ _ _ _ _ _)
      | (with_reducible exact LeO.refl _)
      | (with_reducible exact LeO.none _)
      | (with_reducible refine LeO.ite ?_ ?_)
      | (with_reducible refine LeO.bind ?_ (fun _ => ?_))
      | exact ih0 _ _ _ _ _ _ _ _ _
      | exact ih1 _ _ _ _ _ _ _ _ _ _ _ _ _
      | exact LeO.none _
      | refine LeO.ite ?_ ?_
      | refine LeO.bind ?_ (fun _ => ?_)
    · intro y0 y1 y2 y3 y4 y5 y6 y7 y8 y9 y10 y11 y12
      unfold spec_ReSize.l0
      repeat' first
      | (with_reducible exact ih0 _ _ _ _ _ _ _ _ _)
      | (with_reducible exact ih1 _ _ _ _ _ _ _ _ _ _ _ _ _)
      | (with_reducible exact LeO.refl _)
      | (with_reducible exact LeO.none _)
      | (with_reducible refine LeO.ite ?_ ?_)
      | (with_reducible refine LeO.bind ?_ (fun _ => ?_))
      | exact ih0 _ _ _ _ _ _ _ _ _
      | exact ih1 _ _ _ _ _ _ _ _ _ _ _ _ _
      | exact LeO.none _
      | refine LeO.ite ?_ ?_
      | refine LeO.bind ?_ (fun _ => ?_)
theorem spec_ReSize.mono : ∀ a0 a1 a2 a3 a4 a5 a6 a7 a8 k, LeO (spec_ReSize.f k a0 a1 a2 a3 a4 a5 a6 a7 a8) (spec_ReSize.f (k + 1) a0 a1 a2 a3 a4 a5 a6 a7 a8) := by
  intro a0 a1 a2 a3 a4 a5 a6 a7 a8 k
  obtain ⟨ih0, ih1⟩ := spec_ReSize.mono_l k
  exact ih0 a0 a1 a2 a3 a4 a5 a6 a7 a8
set_option maxHeartbeats 8000000 in
set_option maxRecDepth 100000 in
theorem spec_ReSize.calls (k : Nat) : ∀ (a0_0 : Int) (a0_1 : Int) (A0_2 : Option Addr) (c0_2 : Nat) (l0_2 : List Int) (a0_3 : Int) (a0_4 : Int) (a0_5 : Int) (a0_6 : ByteArray) (A0_7 : Option Addr) (c0_7 : Nat) (l0_7 : List (S25)) (a1 : Int) (r : Int) (w : World) (hr0_2 : Kd.C (Kd.int .i32) w A0_2 l0_2.length l0_2) (hc0_2 : l0_2.length ≤ c0_2) (hr0_7 : Kd.C k25 w A0_7 l0_7.length l0_7) (hc0_7 : l0_7.length ≤ c0_7) (h : spec_ReSize.f k a0_0 a0_1 l0_2 a0_3 a0_4 a0_5 a0_6 l0_7 a1 = some r),
    Calls Tryd.prog 17 #[.agg #[.int .i64 a0_0, .int .i64 a0_1, .slice A0_2 l0_2.length c0_2, .int .i64 a0_3, .int .i64 a0_4, .int .i64 a0_5, .string a0_6, .slice A0_7 l0_7.length c0_7], .int .i64 a1] w fun e w' => e = .returned (.int .i64 r) ∧ Below w.heap.size w w' := by
  induction k using Nat.strongRecOn with
  | _ k ih =>
  intro a0_0 a0_1 A0_2 c0_2 l0_2 a0_3 a0_4 a0_5 a0_6 A0_7 c0_7 l0_7 a1 r w hr0_2 hc0_2 hr0_7 hc0_7 h
  cases k with
  | zero => exact absurd h (by simp [spec_ReSize.f])
  | succ k =>
  simp only [spec_ReSize.f] at h
  have hu25 := Tryd.underlying25
  have HR0_2 := Aside0.mk hr0_2
  have HC0_2 := Aside0.mk hc0_2
  clear hr0_2 hc0_2
  have HR0_7 := Aside0.mk hr0_7
  have HC0_7 := Aside0.mk hc0_7
  clear hr0_7 hc0_7
  have HB := Aside0.mk (Below.refl w.heap.size w)
  have H : (spec_ReSize.l0 k a1 0 l0_7 (l0_7.length : Int) 0 a0_0 a0_1 l0_2 a0_3 a0_4 a0_5 a0_6 l0_7) = some r := h
  clear h
  have H' := Aside0.mk H
  clear H
  go_enter Tryd.func17, Tryd.ntmps17
  go_wp2_with (first | ((with_reducible refine gate_dst (N := 2) rfl ?_); refine box_event ?hg (N := 2) ?hd (cs := #[.int .i64 a0_0, .int .i64 a0_1, .slice A0_2 l0_2.length c0_2, .int .i64 a0_3, .int .i64 a0_4, .int .i64 a0_5, .string a0_6, .slice A0_7 l0_7.length c0_7]) (t := 25) ?hr ?_; (case hd => rfl); (case hg => rfl); (case hr => first | (go_simp; done) | (go_simp; rfl)); intro gb121 hg w3 hbox hb; have n0_ := Aside0.mk (below_step (by repeat (first | (with_reducible first | exact HB.out | apply below_alloc | apply pw_below_drewN | apply below_drew1) | exact HB.out)) hb); have n1_ := Aside0.mk (hbox); have n2_ := Aside0.mk ((by rw [hg]; exact (below_size (by repeat (first | (with_reducible first | exact HB.out | apply below_alloc | apply pw_below_drewN | apply below_drew1) | exact HB.out))) : w.heap.size ≤ gb121)); have n3_ := Aside0.mk ((by rw [hg]; exact (below_size (by repeat (first | (with_reducible first | exact HB.out | apply below_alloc | apply pw_below_drewN | apply below_drew1) | exact HB.out))) : w.heap.size ≤ gb121)); clear HB; have HB := n0_; have BK121 := n1_; have GW121 := n2_; have GE121 := n3_; clear n0_ n1_ n2_ n3_; clear hb hbox hg; have hcz4_0 : w3.cell? ⟨gb121, 0, none⟩ = some (.int .i64 a0_0) := (blk_cell BK121.out 0).trans rfl; have hcz4_1 : w3.cell? ⟨gb121, 1, none⟩ = some (.int .i64 a0_1) := (blk_cell BK121.out 1).trans rfl; have hcz4_2 : w3.cell? ⟨gb121, 2, none⟩ = some (.slice A0_2 l0_2.length c0_2) := (blk_cell BK121.out 2).trans rfl; have hcz4_3 : w3.cell? ⟨gb121, 3, none⟩ = some (.int .i64 a0_3) := (blk_cell BK121.out 3).trans rfl; have hcz4_4 : w3.cell? ⟨gb121, 4, none⟩ = some (.int .i64 a0_4) := (blk_cell BK121.out 4).trans rfl; have hcz4_5 : w3.cell? ⟨gb121, 5, none⟩ = some (.int .i64 a0_5) := (blk_cell BK121.out 5).trans rfl; have hcz4_6 : w3.cell? ⟨gb121, 6, none⟩ = some (.string a0_6) := (blk_cell BK121.out 6).trans rfl; have hcz4_7 : w3.cell? ⟨gb121, 7, none⟩ = some (.slice A0_7 l0_7.length c0_7) := (blk_cell BK121.out 7).trans rfl; have hfz4_0 := blk_frozen BK121.out 0; have hfz4_1 := blk_frozen BK121.out 1; have hfz4_2 := blk_frozen BK121.out 2; have hfz4_3 := blk_frozen BK121.out 3; have hfz4_4 := blk_frozen BK121.out 4; have hfz4_5 := blk_frozen BK121.out 5; have hfz4_6 := blk_frozen BK121.out 6; have hfz4_7 := blk_frozen BK121.out 7))
  go_loopg [5, 11] k (fun kq v5 v11 w' => ∃ (x5_1 : Int) (x11_1 : Int), v5 = .int .i64 x5_1 ∧ v11 = .int .i64 x11_1 ∧ Aside0 (spec_ReSize.l0 kq a1 x5_1 l0_7 (l0_7.length : Int) x11_1 a0_0 a0_1 l0_2 a0_3 a0_4 a0_5 a0_6 l0_7 = some r) ∧ Aside0 (kq ≤ k) ∧ Aside0 (w'.heap[gb121]? = some (.cells #[.int .i64 a0_0, .int .i64 a0_1, (.slice A0_2 l0_2.length c0_2), .int .i64 a0_3, .int .i64 a0_4, .int .i64 a0_5, .string a0_6, (.slice A0_7 l0_7.length c0_7)] 25 (0, 0))) ∧ Aside0 (Below w.heap.size w w'))
  case atStart => exact ⟨(0), (0), (by first | rfl | (simp; done) | (simp [*]; done)), (by first | rfl | (simp; done) | (simp [*]; done)), H', ⟨Nat.le_refl _⟩, ⟨by (with_reducible repeat (first | refine blk_drewN ?_ _ | refine blk_drew ?_ | refine blk_alloc ?_ _)); exact BK121.out⟩, ⟨by repeat (first | (with_reducible first | exact HB.out | apply below_alloc | apply pw_below_drewN | apply below_drew1 | refine below_set ?_ GE121.out) | exact HB.out)⟩⟩
  case round =>
    clear H'
    try clear c1
    try clear p2
    try clear hcz4_0
    try clear hcz4_1
    try clear hcz4_2
    try clear hcz4_3
    try clear hcz4_4
    try clear hcz4_5
    try clear hcz4_6
    try clear hcz4_7
    try clear hfz4_0
    try clear hfz4_1
    try clear hfz4_2
    try clear hfz4_3
    try clear hfz4_4
    try clear hfz4_5
    try clear hfz4_6
    try clear hfz4_7
    obtain ⟨x5_1, x11_1, rfl, rfl, HA, HK1, BK121, HB⟩ := hrel
    cases gk with
    | zero => exact absurd HA.out (by simp [spec_ReSize.l0])
    | succ k1 =>
      have H := HA.out
      clear HA
      simp only [spec_ReSize.l0] at H
      by_cases c5 : x11_1 < (l0_7.length : Int)
      · rw [if_pos c5] at H
        have c5b0 : decide (x11_1 < (l0_7.length : Int)) = true := decide_eq_true c5
        clear c5
        by_cases c6 : 0 ≤ x11_1
        · rw [if_pos c6] at H
          have c6b0 : decide (0 ≤ x11_1) = true := decide_eq_true c6
          clear c6
          by_cases c7 : x11_1 < (l0_7.length : Int)
          · rw [if_pos c7] at H
            have c7b0 : decide (x11_1 < (l0_7.length : Int)) = true := decide_eq_true c7
            clear c7
            replace H := Option.bind_eq_some_iff.mp H
            obtain ⟨t124, A80, H⟩ := H
            replace H : (spec_ReSize.l0 k1 a1 (mn (wrap64 (x5_1 + t124)) (wrap64 (a1 + 1))) l0_7 (l0_7.length : Int) (wrap64 (x11_1 + 1)) a0_0 a0_1 l0_2 a0_3 a0_4 a0_5 a0_6 l0_7) = some r := H
            have A8 := Aside0.mk A80
            clear A80
            obtain ⟨ji9, hji9⟩ : ∃ j_ : Int, (mn (wrap64 (x5_1 + t124)) (wrap64 (a1 + 1))) = j_ := ⟨_, rfl⟩
            replace H : (spec_ReSize.l0 k1 a1 ji9 l0_7 (l0_7.length : Int) (wrap64 (x11_1 + 1)) a0_0 a0_1 l0_2 a0_3 a0_4 a0_5 a0_6 l0_7) = some r := by first | (rw [hji9] at H; exact H) | (simp only [hji9] at H ⊢; exact H)
            (try rw [hji9] at A8)
            have hji9_ : (if (wrap64 (a1 + 1)) < (wrap64 (x5_1 + t124)) then (wrap64 (a1 + 1)) else (wrap64 (x5_1 + t124))) = ji9 := hji9
            have H' := Aside0.mk H
            clear H
            have p122 : 0 ≤ (x11_1 : Int) := of_decide_eq_true (by first | (with_reducible assumption) | assumption)
            have q122 : x11_1 < (l0_7.length : Int) := of_decide_eq_true (by first | (with_reducible assumption) | assumption)
            obtain ⟨ad122, A122_2, c122_2, A122_7, c122_7, e122, hx122_0, hx122_1, hx122_2, hx122_3, hx122_4, hx122_5, hx122_6, hx122_7, hl122_2, hi122_2, hl122_7, hi122_7⟩ := at_T25 HR0_7.out x11_1 p122 q122
            cases e122
            replace hx122_0 := (HB.out.cell (World.block_lt_of_cell? w _ hx122_0)).trans hx122_0
            replace hx122_1 := (HB.out.cell (World.block_lt_of_cell? w _ hx122_1)).trans hx122_1
            replace hx122_2 := (HB.out.cell (World.block_lt_of_cell? w _ hx122_2)).trans hx122_2
            replace hx122_3 := (HB.out.cell (World.block_lt_of_cell? w _ hx122_3)).trans hx122_3
            replace hx122_4 := (HB.out.cell (World.block_lt_of_cell? w _ hx122_4)).trans hx122_4
            replace hx122_5 := (HB.out.cell (World.block_lt_of_cell? w _ hx122_5)).trans hx122_5
            replace hx122_6 := (HB.out.cell (World.block_lt_of_cell? w _ hx122_6)).trans hx122_6
            replace hx122_7 := (HB.out.cell (World.block_lt_of_cell? w _ hx122_7)).trans hx122_7
            have HR122_2 := Aside0.mk hi122_2
            have HC122_2 := Aside0.mk hl122_2
            clear hi122_2 hl122_2
            have HR122_7 := Aside0.mk hi122_7
            have HC122_7 := Aside0.mk hl122_7
            clear hi122_7 hl122_7
            replace p122 := eq_true p122
            replace q122 := eq_true q122
            go_wp2_with (first | ((with_reducible refine gate_dst (N := 7) rfl ?_); refine box_event ?hg (N := 7) ?hd (cs := #[.int .i64 0, .int .i64 0, .slice none 0 0, .int .i64 0, .int .i64 0, .int .i64 0, .string (⟨#[]⟩ : ByteArray), .slice none 0 0]) (t := 25) ?hr ?_; (case hd => rfl); (case hg => rfl); (case hr => first | (go_simp; done) | (go_simp; rfl)); intro gb123 hg w10 hbox hb; have n0_ := Aside0.mk (blk_below (g := gb121) (o := .cells #[.int .i64 a0_0, .int .i64 a0_1, .slice A0_2 l0_2.length c0_2, .int .i64 a0_3, .int .i64 a0_4, .int .i64 a0_5, .string a0_6, .slice (some ad122) l0_7.length c0_7] 25 (0, 0)) (by (with_reducible repeat (first | refine blk_drewN ?_ _ | refine blk_drew ?_ | refine blk_alloc ?_ _)); exact BK121.out) hb); have n1_ := Aside0.mk (below_step (by repeat (first | (with_reducible first | exact HB.out | apply below_alloc | apply pw_below_drewN | apply below_drew1 | refine below_set ?_ GE121.out) | exact HB.out)) hb); have n2_ := Aside0.mk (hbox); have n3_ := Aside0.mk ((by rw [hg]; exact (below_size (by repeat (first | (with_reducible first | exact HB.out | apply below_alloc | apply pw_below_drewN | apply below_drew1 | refine below_set ?_ GE121.out) | exact HB.out))) : w.heap.size ≤ gb123)); have n4_ := Aside0.mk ((by rw [hg]; exact (below_size (by repeat (first | (with_reducible first | exact HB.out | apply below_alloc | apply pw_below_drewN | apply below_drew1 | refine below_set ?_ GE121.out) | exact HB.out))) : w.heap.size ≤ gb123)); have n5_ := Aside0.mk ((by rw [hg]; exact Nat.ne_of_lt (blk_lt (g := gb121) (o := .cells #[.int .i64 a0_0, .int .i64 a0_1, .slice A0_2 l0_2.length c0_2, .int .i64 a0_3, .int .i64 a0_4, .int .i64 a0_5, .string a0_6, .slice (some ad122) l0_7.length c0_7] 25 (0, 0)) (by (with_reducible repeat (first | refine blk_drewN ?_ _ | refine blk_drew ?_ | refine blk_alloc ?_ _)); exact BK121.out)) : gb121 ≠ gb123)); have n6_ := Aside0.mk ((by rw [hg]; exact Nat.ne_of_gt (blk_lt (g := gb121) (o := .cells #[.int .i64 a0_0, .int .i64 a0_1, .slice A0_2 l0_2.length c0_2, .int .i64 a0_3, .int .i64 a0_4, .int .i64 a0_5, .string a0_6, .slice (some ad122) l0_7.length c0_7] 25 (0, 0)) (by (with_reducible repeat (first | refine blk_drewN ?_ _ | refine blk_drew ?_ | refine blk_alloc ?_ _)); exact BK121.out)) : gb123 ≠ gb121)); clear BK121; clear HB; have BK121 := n0_; have HB := n1_; have BK123 := n2_; have GW123 := n3_; have GE123 := n4_; have NB121_123 := n5_; have NB123_121 := n6_; clear n0_ n1_ n2_ n3_ n4_ n5_ n6_; clear hb hbox hg; have hnb11 := NB123_121.out; have hnc11 := NB121_123.out; have hcz12_0 : w10.cell? ⟨gb123, 0, none⟩ = some (.int .i64 0) := (blk_cell BK123.out 0).trans rfl; have hcz12_1 : w10.cell? ⟨gb123, 1, none⟩ = some (.int .i64 0) := (blk_cell BK123.out 1).trans rfl; have hcz12_2 : w10.cell? ⟨gb123, 2, none⟩ = some (.slice none 0 0) := (blk_cell BK123.out 2).trans rfl; have hcz12_3 : w10.cell? ⟨gb123, 3, none⟩ = some (.int .i64 0) := (blk_cell BK123.out 3).trans rfl; have hcz12_4 : w10.cell? ⟨gb123, 4, none⟩ = some (.int .i64 0) := (blk_cell BK123.out 4).trans rfl; have hcz12_5 : w10.cell? ⟨gb123, 5, none⟩ = some (.int .i64 0) := (blk_cell BK123.out 5).trans rfl; have hcz12_6 : w10.cell? ⟨gb123, 6, none⟩ = some (.string (⟨#[]⟩ : ByteArray)) := (blk_cell BK123.out 6).trans rfl; have hcz12_7 : w10.cell? ⟨gb123, 7, none⟩ = some (.slice none 0 0) := (blk_cell BK123.out 7).trans rfl; have hfz12_0 := blk_frozen BK123.out 0; have hfz12_1 := blk_frozen BK123.out 1; have hfz12_2 := blk_frozen BK123.out 2; have hfz12_3 := blk_frozen BK123.out 3; have hfz12_4 := blk_frozen BK123.out 4; have hfz12_5 := blk_frozen BK123.out 5; have hfz12_6 := blk_frozen BK123.out 6; have hfz12_7 := blk_frozen BK123.out 7) | ((with_reducible refine gate_callee (f := 17) rfl ?_); refine goesL_ (some 18) rfl rfl Tryd.func17 (by kernel_rfl) rfl #[.agg #[.int .i64 ((rd_T25 l0_7 x11_1).f0), .int .i64 ((rd_T25 l0_7 x11_1).f1), .slice A122_2 ((rd_T25 l0_7 x11_1).f2).length c122_2, .int .i64 ((rd_T25 l0_7 x11_1).f3), .int .i64 ((rd_T25 l0_7 x11_1).f4), .int .i64 ((rd_T25 l0_7 x11_1).f5), .string ((rd_T25 l0_7 x11_1).f6), .slice A122_7 ((rd_T25 l0_7 x11_1).f7).length c122_7], .int .i64 a1] rfl (by (try simp only [List.map_toArray, List.map_cons, List.map_nil]); first | done | rfl | (simp only [List.length_drop, List.length_take]; rfl)) ?_; (with_reducible refine (ih k1 (by have := HK1.out; omega) ((rd_T25 l0_7 x11_1).f0) ((rd_T25 l0_7 x11_1).f1) _ _ ((rd_T25 l0_7 x11_1).f2) ((rd_T25 l0_7 x11_1).f3) ((rd_T25 l0_7 x11_1).f4) ((rd_T25 l0_7 x11_1).f5) ((rd_T25 l0_7 x11_1).f6) _ _ ((rd_T25 l0_7 x11_1).f7) a1 t124 _ ?side1 ?side2 ?side3 ?side4 A8.out).mono ?_); (case side1 => exact Kd.C_below HR122_2.out (by repeat (first | (with_reducible first | exact HB.out | apply below_alloc | apply pw_below_drewN | apply below_drew1 | refine below_set ?_ GE121.out | refine below_set ?_ GE123.out) | exact HB.out))); (case side2 => exact HC122_2.out); (case side3 => exact Kd.C_below HR122_7.out (by repeat (first | (with_reducible first | exact HB.out | apply below_alloc | apply pw_below_drewN | apply below_drew1 | refine below_set ?_ GE121.out | refine below_set ?_ GE123.out) | exact HB.out))); (case side4 => exact HC122_7.out); rintro e w13 ⟨rfl, hb⟩; refine ⟨_, rfl, ?_⟩; have n0_ := Aside0.mk (blk_below (g := gb121) (o := .cells #[.int .i64 a0_0, .int .i64 a0_1, .slice A0_2 l0_2.length c0_2, .int .i64 a0_3, .int .i64 a0_4, .int .i64 a0_5, .string a0_6, .slice (some ad122) l0_7.length c0_7] 25 (0, 0)) (by (with_reducible repeat (first | refine blk_drewN ?_ _ | refine blk_drew ?_ | refine blk_alloc ?_ _)); refine blk_far ?_ NB121_123.out _; (with_reducible repeat (first | refine blk_drewN ?_ _ | refine blk_drew ?_ | refine blk_alloc ?_ _)); refine blk_far ?_ NB121_123.out _; (with_reducible repeat (first | refine blk_drewN ?_ _ | refine blk_drew ?_ | refine blk_alloc ?_ _)); refine blk_far ?_ NB121_123.out _; (with_reducible repeat (first | refine blk_drewN ?_ _ | refine blk_drew ?_ | refine blk_alloc ?_ _)); refine blk_far ?_ NB121_123.out _; (with_reducible repeat (first | refine blk_drewN ?_ _ | refine blk_drew ?_ | refine blk_alloc ?_ _)); refine blk_far ?_ NB121_123.out _; (with_reducible repeat (first | refine blk_drewN ?_ _ | refine blk_drew ?_ | refine blk_alloc ?_ _)); refine blk_far ?_ NB121_123.out _; (with_reducible repeat (first | refine blk_drewN ?_ _ | refine blk_drew ?_ | refine blk_alloc ?_ _)); refine blk_far ?_ NB121_123.out _; (with_reducible repeat (first | refine blk_drewN ?_ _ | refine blk_drew ?_ | refine blk_alloc ?_ _)); refine blk_far ?_ NB121_123.out _; (with_reducible repeat (first | refine blk_drewN ?_ _ | refine blk_drew ?_ | refine blk_alloc ?_ _)); exact BK121.out) hb); have n1_ := Aside0.mk (blk_below (g := gb123) (o := .cells #[.int .i64 ((rd_T25 l0_7 x11_1).f0), .int .i64 ((rd_T25 l0_7 x11_1).f1), .slice A122_2 ((rd_T25 l0_7 x11_1).f2).length c122_2, .int .i64 ((rd_T25 l0_7 x11_1).f3), .int .i64 ((rd_T25 l0_7 x11_1).f4), .int .i64 ((rd_T25 l0_7 x11_1).f5), .string ((rd_T25 l0_7 x11_1).f6), .slice A122_7 ((rd_T25 l0_7 x11_1).f7).length c122_7] 25 (0, 0)) (by (with_reducible repeat (first | refine blk_drewN ?_ _ | refine blk_drew ?_ | refine blk_alloc ?_ _)); refine blk_put (cs := #[.int .i64 ((rd_T25 l0_7 x11_1).f0), .int .i64 ((rd_T25 l0_7 x11_1).f1), .slice A122_2 ((rd_T25 l0_7 x11_1).f2).length c122_2, .int .i64 ((rd_T25 l0_7 x11_1).f3), .int .i64 ((rd_T25 l0_7 x11_1).f4), .int .i64 ((rd_T25 l0_7 x11_1).f5), .string ((rd_T25 l0_7 x11_1).f6), .slice none 0 0]) ?_ 7 _ rfl; (with_reducible repeat (first | refine blk_drewN ?_ _ | refine blk_drew ?_ | refine blk_alloc ?_ _)); refine blk_put (cs := #[.int .i64 ((rd_T25 l0_7 x11_1).f0), .int .i64 ((rd_T25 l0_7 x11_1).f1), .slice A122_2 ((rd_T25 l0_7 x11_1).f2).length c122_2, .int .i64 ((rd_T25 l0_7 x11_1).f3), .int .i64 ((rd_T25 l0_7 x11_1).f4), .int .i64 ((rd_T25 l0_7 x11_1).f5), .string (⟨#[]⟩ : ByteArray), .slice none 0 0]) ?_ 6 _ rfl; (with_reducible repeat (first | refine blk_drewN ?_ _ | refine blk_drew ?_ | refine blk_alloc ?_ _)); refine blk_put (cs := #[.int .i64 ((rd_T25 l0_7 x11_1).f0), .int .i64 ((rd_T25 l0_7 x11_1).f1), .slice A122_2 ((rd_T25 l0_7 x11_1).f2).length c122_2, .int .i64 ((rd_T25 l0_7 x11_1).f3), .int .i64 ((rd_T25 l0_7 x11_1).f4), .int .i64 0, .string (⟨#[]⟩ : ByteArray), .slice none 0 0]) ?_ 5 _ rfl; (with_reducible repeat (first | refine blk_drewN ?_ _ | refine blk_drew ?_ | refine blk_alloc ?_ _)); refine blk_put (cs := #[.int .i64 ((rd_T25 l0_7 x11_1).f0), .int .i64 ((rd_T25 l0_7 x11_1).f1), .slice A122_2 ((rd_T25 l0_7 x11_1).f2).length c122_2, .int .i64 ((rd_T25 l0_7 x11_1).f3), .int .i64 0, .int .i64 0, .string (⟨#[]⟩ : ByteArray), .slice none 0 0]) ?_ 4 _ rfl; (with_reducible repeat (first | refine blk_drewN ?_ _ | refine blk_drew ?_ | refine blk_alloc ?_ _)); refine blk_put (cs := #[.int .i64 ((rd_T25 l0_7 x11_1).f0), .int .i64 ((rd_T25 l0_7 x11_1).f1), .slice A122_2 ((rd_T25 l0_7 x11_1).f2).length c122_2, .int .i64 0, .int .i64 0, .int .i64 0, .string (⟨#[]⟩ : ByteArray), .slice none 0 0]) ?_ 3 _ rfl; (with_reducible repeat (first | refine blk_drewN ?_ _ | refine blk_drew ?_ | refine blk_alloc ?_ _)); refine blk_put (cs := #[.int .i64 ((rd_T25 l0_7 x11_1).f0), .int .i64 ((rd_T25 l0_7 x11_1).f1), .slice none 0 0, .int .i64 0, .int .i64 0, .int .i64 0, .string (⟨#[]⟩ : ByteArray), .slice none 0 0]) ?_ 2 _ rfl; (with_reducible repeat (first | refine blk_drewN ?_ _ | refine blk_drew ?_ | refine blk_alloc ?_ _)); refine blk_put (cs := #[.int .i64 ((rd_T25 l0_7 x11_1).f0), .int .i64 0, .slice none 0 0, .int .i64 0, .int .i64 0, .int .i64 0, .string (⟨#[]⟩ : ByteArray), .slice none 0 0]) ?_ 1 _ rfl; (with_reducible repeat (first | refine blk_drewN ?_ _ | refine blk_drew ?_ | refine blk_alloc ?_ _)); refine blk_put (cs := #[.int .i64 0, .int .i64 0, .slice none 0 0, .int .i64 0, .int .i64 0, .int .i64 0, .string (⟨#[]⟩ : ByteArray), .slice none 0 0]) ?_ 0 _ rfl; (with_reducible repeat (first | refine blk_drewN ?_ _ | refine blk_drew ?_ | refine blk_alloc ?_ _)); exact BK123.out) hb); have n2_ := Aside0.mk (below_step (by repeat (first | (with_reducible first | exact HB.out | apply below_alloc | apply pw_below_drewN | apply below_drew1 | refine below_set ?_ GE121.out | refine below_set ?_ GE123.out) | exact HB.out)) hb); clear BK121; clear BK123; clear HB; have BK121 := n0_; have BK123 := n1_; have HB := n2_; clear n0_ n1_ n2_; (try clear hb); (try clear hb2); (try clear hk); (try clear hi)))
            go_roundg k1
            case measure => have := HK1.out; omega
            case rel => exact ⟨(ji9), (wrap64 (x11_1 + 1)), (by first | rfl | (simp; done) | (simp only [← hji9] <;> (first | rfl | simp)) | (simp [*]; done)), (by first | rfl | (simp; done) | (simp [*]; done)), H', ⟨by have := HK1.out; omega⟩, ⟨by (with_reducible repeat (first | refine blk_drewN ?_ _ | refine blk_drew ?_ | refine blk_alloc ?_ _)); exact BK121.out⟩, ⟨by repeat (first | (with_reducible first | exact HB.out | apply below_alloc | apply pw_below_drewN | apply below_drew1 | refine below_set ?_ GE121.out | refine below_set ?_ GE123.out) | exact HB.out)⟩⟩
          · rw [if_neg c7] at H
            exact absurd H (by simp)
        · rw [if_neg c6] at H
          exact absurd H (by simp)
      · rw [if_neg c5] at H
        have c5b0 : decide (x11_1 < (l0_7.length : Int)) = false := decide_eq_false c5
        clear c5
        by_cases c14 : a0_0 = 17
        · rw [if_pos c14] at H
          have c14b0 : (a0_0 == 17) = true := beq_iff_eq.mpr c14
          have c14b1 : (a0_0 != 17) = false := bne_eq_false_iff_eq.mpr c14
          clear c14
          obtain ⟨ji15, hji15⟩ : ∃ j_ : Int, (mx (wrap64 (a0_3 + 1)) a0_4) = j_ := ⟨_, rfl⟩
          replace H : (some (mn (wrap64 ((mn (wrap64 ((wrap64 (x5_1 + 1)) * (mx (ji15) 1))) (wrap64 (a1 + 1))) + 2)) (wrap64 (a1 + 1)))) = some r := by first | (rw [hji15] at H; exact H) | (simp only [hji15] at H ⊢; exact H)
          have hji15_ : (if (wrap64 (a0_3 + 1)) < a0_4 then a0_4 else (wrap64 (a0_3 + 1))) = ji15 := hji15
          obtain ⟨ji16, hji16⟩ : ∃ j_ : Int, (mx (ji15) 1) = j_ := ⟨_, rfl⟩
          replace H : (some (mn (wrap64 ((mn (wrap64 ((wrap64 (x5_1 + 1)) * (ji16))) (wrap64 (a1 + 1))) + 2)) (wrap64 (a1 + 1)))) = some r := by first | (rw [hji16] at H; exact H) | (simp only [hji16] at H ⊢; exact H)
          have hji16_ : (if (ji15) < 1 then 1 else (ji15)) = ji16 := hji16
          obtain ⟨ji17, hji17⟩ : ∃ j_ : Int, (mn (wrap64 ((wrap64 (x5_1 + 1)) * (ji16))) (wrap64 (a1 + 1))) = j_ := ⟨_, rfl⟩
          replace H : (some (mn (wrap64 ((ji17) + 2)) (wrap64 (a1 + 1)))) = some r := by first | (rw [hji17] at H; exact H) | (simp only [hji17] at H ⊢; exact H)
          have hji17_ : (if (wrap64 (a1 + 1)) < (wrap64 ((wrap64 (x5_1 + 1)) * (ji16))) then (wrap64 (a1 + 1)) else (wrap64 ((wrap64 (x5_1 + 1)) * (ji16)))) = ji17 := hji17
          obtain ⟨ji18, hji18⟩ : ∃ j_ : Int, (mn (wrap64 ((ji17) + 2)) (wrap64 (a1 + 1))) = j_ := ⟨_, rfl⟩
          replace H : (some ji18) = some r := by first | (rw [hji18] at H; exact H) | (simp only [hji18] at H ⊢; exact H)
          have hji18_ : (if (wrap64 (a1 + 1)) < (wrap64 ((ji17) + 2)) then (wrap64 (a1 + 1)) else (wrap64 ((ji17) + 2))) = ji18 := hji18
          obtain rfl := Option.some.inj H
          have hcz19_0 : wr.cell? ⟨gb121, 0, none⟩ = some (.int .i64 a0_0) := (blk_cell BK121.out 0).trans rfl
          have hcz19_1 : wr.cell? ⟨gb121, 1, none⟩ = some (.int .i64 a0_1) := (blk_cell BK121.out 1).trans rfl
          have hcz19_2 : wr.cell? ⟨gb121, 2, none⟩ = some (.slice A0_2 l0_2.length c0_2) := (blk_cell BK121.out 2).trans rfl
          have hcz19_3 : wr.cell? ⟨gb121, 3, none⟩ = some (.int .i64 a0_3) := (blk_cell BK121.out 3).trans rfl
          have hcz19_4 : wr.cell? ⟨gb121, 4, none⟩ = some (.int .i64 a0_4) := (blk_cell BK121.out 4).trans rfl
          have hcz19_5 : wr.cell? ⟨gb121, 5, none⟩ = some (.int .i64 a0_5) := (blk_cell BK121.out 5).trans rfl
          have hcz19_6 : wr.cell? ⟨gb121, 6, none⟩ = some (.string a0_6) := (blk_cell BK121.out 6).trans rfl
          have hcz19_7 : wr.cell? ⟨gb121, 7, none⟩ = some (.slice A0_7 l0_7.length c0_7) := (blk_cell BK121.out 7).trans rfl
          have hfz19_0 := blk_frozen BK121.out 0
          have hfz19_1 := blk_frozen BK121.out 1
          have hfz19_2 := blk_frozen BK121.out 2
          have hfz19_3 := blk_frozen BK121.out 3
          have hfz19_4 := blk_frozen BK121.out 4
          have hfz19_5 := blk_frozen BK121.out 5
          have hfz19_6 := blk_frozen BK121.out 6
          have hfz19_7 := blk_frozen BK121.out 7
          go_wp2
          go_ret
          exact ⟨by first | rfl | (simp [errW_none, errW_some] <;> rfl) | (simp only [← hji15, ← hji16, ← hji17, ← hji18]; first | rfl | (simp [errW_none, errW_some] <;> rfl)) | (simp [*, errW_none, errW_some] <;> rfl), by repeat (first | (with_reducible first | exact HB.out | apply below_alloc | apply pw_below_drewN | apply below_drew1 | refine below_set ?_ GE121.out) | exact HB.out)⟩
        · rw [if_neg c14] at H
          have c14b0 : (a0_0 == 17) = false := beq_eq_false_iff_ne.mpr c14
          have c14b1 : (a0_0 != 17) = true := bne_iff_ne.mpr c14
          by_cases c20 : a0_0 = 3
          · rw [if_pos c20] at H
            have c20b0 : (a0_0 == 3) = true := beq_iff_eq.mpr c20
            have c20b1 : (a0_0 != 3) = false := bne_eq_false_iff_eq.mpr c20
            clear c20
            obtain ⟨ji21, hji21⟩ : ∃ j_ : Int, (mn (wrap64 ((l0_2.length : Int) + 2)) (wrap64 (a1 + 1))) = j_ := ⟨_, rfl⟩
            replace H : (some ji21) = some r := by first | (rw [hji21] at H; exact H) | (simp only [hji21] at H ⊢; exact H)
            have hji21_ : (if (wrap64 (a1 + 1)) < (wrap64 ((l0_2.length : Int) + 2)) then (wrap64 (a1 + 1)) else (wrap64 ((l0_2.length : Int) + 2))) = ji21 := hji21
            obtain rfl := Option.some.inj H
            have hcz22_0 : wr.cell? ⟨gb121, 0, none⟩ = some (.int .i64 a0_0) := (blk_cell BK121.out 0).trans rfl
            have hcz22_1 : wr.cell? ⟨gb121, 1, none⟩ = some (.int .i64 a0_1) := (blk_cell BK121.out 1).trans rfl
            have hcz22_2 : wr.cell? ⟨gb121, 2, none⟩ = some (.slice A0_2 l0_2.length c0_2) := (blk_cell BK121.out 2).trans rfl
            have hcz22_3 : wr.cell? ⟨gb121, 3, none⟩ = some (.int .i64 a0_3) := (blk_cell BK121.out 3).trans rfl
            have hcz22_4 : wr.cell? ⟨gb121, 4, none⟩ = some (.int .i64 a0_4) := (blk_cell BK121.out 4).trans rfl
            have hcz22_5 : wr.cell? ⟨gb121, 5, none⟩ = some (.int .i64 a0_5) := (blk_cell BK121.out 5).trans rfl
            have hcz22_6 : wr.cell? ⟨gb121, 6, none⟩ = some (.string a0_6) := (blk_cell BK121.out 6).trans rfl
            have hcz22_7 : wr.cell? ⟨gb121, 7, none⟩ = some (.slice A0_7 l0_7.length c0_7) := (blk_cell BK121.out 7).trans rfl
            have hfz22_0 := blk_frozen BK121.out 0
            have hfz22_1 := blk_frozen BK121.out 1
            have hfz22_2 := blk_frozen BK121.out 2
            have hfz22_3 := blk_frozen BK121.out 3
            have hfz22_4 := blk_frozen BK121.out 4
            have hfz22_5 := blk_frozen BK121.out 5
            have hfz22_6 := blk_frozen BK121.out 6
            have hfz22_7 := blk_frozen BK121.out 7
            go_wp2
            go_ret
            exact ⟨by first | rfl | (simp [errW_none, errW_some] <;> rfl) | (simp only [← hji21]; first | rfl | (simp [errW_none, errW_some] <;> rfl)) | (simp [*, errW_none, errW_some] <;> rfl), by repeat (first | (with_reducible first | exact HB.out | apply below_alloc | apply pw_below_drewN | apply below_drew1 | refine below_set ?_ GE121.out) | exact HB.out)⟩
          · rw [if_neg c20] at H
            have c20b0 : (a0_0 == 3) = false := beq_eq_false_iff_ne.mpr c20
            have c20b1 : (a0_0 != 3) = true := bne_iff_ne.mpr c20
            by_cases c23 : a0_0 = 19
            · rw [if_pos c23] at H
              have c23b0 : (a0_0 == 19) = true := beq_iff_eq.mpr c23
              have c23b1 : (a0_0 != 19) = false := bne_eq_false_iff_eq.mpr c23
              clear c23
              obtain ⟨ji24, hji24⟩ : ∃ j_ : Int, (mn (wrap64 ((wrap64 (x5_1 + (l0_7.length : Int))) + 2)) (wrap64 (a1 + 1))) = j_ := ⟨_, rfl⟩
              replace H : (some ji24) = some r := by first | (rw [hji24] at H; exact H) | (simp only [hji24] at H ⊢; exact H)
              have hji24_ : (if (wrap64 (a1 + 1)) < (wrap64 ((wrap64 (x5_1 + (l0_7.length : Int))) + 2)) then (wrap64 (a1 + 1)) else (wrap64 ((wrap64 (x5_1 + (l0_7.length : Int))) + 2))) = ji24 := hji24
              obtain rfl := Option.some.inj H
              have hcz25_0 : wr.cell? ⟨gb121, 0, none⟩ = some (.int .i64 a0_0) := (blk_cell BK121.out 0).trans rfl
              have hcz25_1 : wr.cell? ⟨gb121, 1, none⟩ = some (.int .i64 a0_1) := (blk_cell BK121.out 1).trans rfl
              have hcz25_2 : wr.cell? ⟨gb121, 2, none⟩ = some (.slice A0_2 l0_2.length c0_2) := (blk_cell BK121.out 2).trans rfl
              have hcz25_3 : wr.cell? ⟨gb121, 3, none⟩ = some (.int .i64 a0_3) := (blk_cell BK121.out 3).trans rfl
              have hcz25_4 : wr.cell? ⟨gb121, 4, none⟩ = some (.int .i64 a0_4) := (blk_cell BK121.out 4).trans rfl
              have hcz25_5 : wr.cell? ⟨gb121, 5, none⟩ = some (.int .i64 a0_5) := (blk_cell BK121.out 5).trans rfl
              have hcz25_6 : wr.cell? ⟨gb121, 6, none⟩ = some (.string a0_6) := (blk_cell BK121.out 6).trans rfl
              have hcz25_7 : wr.cell? ⟨gb121, 7, none⟩ = some (.slice A0_7 l0_7.length c0_7) := (blk_cell BK121.out 7).trans rfl
              have hfz25_0 := blk_frozen BK121.out 0
              have hfz25_1 := blk_frozen BK121.out 1
              have hfz25_2 := blk_frozen BK121.out 2
              have hfz25_3 := blk_frozen BK121.out 3
              have hfz25_4 := blk_frozen BK121.out 4
              have hfz25_5 := blk_frozen BK121.out 5
              have hfz25_6 := blk_frozen BK121.out 6
              have hfz25_7 := blk_frozen BK121.out 7
              go_wp2
              go_ret
              exact ⟨by first | rfl | (simp [errW_none, errW_some] <;> rfl) | (simp only [← hji24]; first | rfl | (simp [errW_none, errW_some] <;> rfl)) | (simp [*, errW_none, errW_some] <;> rfl), by repeat (first | (with_reducible first | exact HB.out | apply below_alloc | apply pw_below_drewN | apply below_drew1 | refine below_set ?_ GE121.out) | exact HB.out)⟩
            · rw [if_neg c23] at H
              have c23b0 : (a0_0 == 19) = false := beq_eq_false_iff_ne.mpr c23
              have c23b1 : (a0_0 != 19) = true := bne_iff_ne.mpr c23
              obtain ⟨ji26, hji26⟩ : ∃ j_ : Int, (mn (wrap64 (x5_1 + 2)) (wrap64 (a1 + 1))) = j_ := ⟨_, rfl⟩
              replace H : (some ji26) = some r := by first | (rw [hji26] at H; exact H) | (simp only [hji26] at H ⊢; exact H)
              have hji26_ : (if (wrap64 (a1 + 1)) < (wrap64 (x5_1 + 2)) then (wrap64 (a1 + 1)) else (wrap64 (x5_1 + 2))) = ji26 := hji26
              obtain rfl := Option.some.inj H
              have hcz27_0 : wr.cell? ⟨gb121, 0, none⟩ = some (.int .i64 a0_0) := (blk_cell BK121.out 0).trans rfl
              have hcz27_1 : wr.cell? ⟨gb121, 1, none⟩ = some (.int .i64 a0_1) := (blk_cell BK121.out 1).trans rfl
              have hcz27_2 : wr.cell? ⟨gb121, 2, none⟩ = some (.slice A0_2 l0_2.length c0_2) := (blk_cell BK121.out 2).trans rfl
              have hcz27_3 : wr.cell? ⟨gb121, 3, none⟩ = some (.int .i64 a0_3) := (blk_cell BK121.out 3).trans rfl
              have hcz27_4 : wr.cell? ⟨gb121, 4, none⟩ = some (.int .i64 a0_4) := (blk_cell BK121.out 4).trans rfl
              have hcz27_5 : wr.cell? ⟨gb121, 5, none⟩ = some (.int .i64 a0_5) := (blk_cell BK121.out 5).trans rfl
              have hcz27_6 : wr.cell? ⟨gb121, 6, none⟩ = some (.string a0_6) := (blk_cell BK121.out 6).trans rfl
              have hcz27_7 : wr.cell? ⟨gb121, 7, none⟩ = some (.slice A0_7 l0_7.length c0_7) := (blk_cell BK121.out 7).trans rfl
              have hfz27_0 := blk_frozen BK121.out 0
              have hfz27_1 := blk_frozen BK121.out 1
              have hfz27_2 := blk_frozen BK121.out 2
              have hfz27_3 := blk_frozen BK121.out 3
              have hfz27_4 := blk_frozen BK121.out 4
              have hfz27_5 := blk_frozen BK121.out 5
              have hfz27_6 := blk_frozen BK121.out 6
              have hfz27_7 := blk_frozen BK121.out 7
              go_wp2
              go_ret
              exact ⟨by first | rfl | (simp [errW_none, errW_some] <;> rfl) | (simp only [← hji26]; first | rfl | (simp [errW_none, errW_some] <;> rfl)) | (simp [*, errW_none, errW_some] <;> rfl), by repeat (first | (with_reducible first | exact HB.out | apply below_alloc | apply pw_below_drewN | apply below_drew1 | refine below_set ?_ GE121.out) | exact HB.out)⟩

/-! ### spec_ReSound: function 8 -/
def spec_ReSound.f (k : Nat) (a0_0 : Int) (a0_1 : Int) (l0_2 : List Int) (a0_3 : Int) (a0_4 : Int) (a0_5 : Int) (a0_6 : ByteArray) (l0_7 : List (S25)) (a1 : Int) : Option (Bool) := (spec_reSounds.f k a0_0 a0_1 l0_2 a0_3 a0_4 a0_5 a0_6 l0_7 100).bind fun t126 => (if t126 = true then ((spec_reCaps.f k a0_0 a0_1 l0_2 a0_3 a0_4 a0_5 a0_6 l0_7 1).bind fun t127 => (if t127 > 0 then ((spec_ReSize.f k a0_0 a0_1 l0_2 a0_3 a0_4 a0_5 a0_6 l0_7 a1).bind fun t128 => (some (decide (t128 ≤ a1)))) else (some false))) else (some false))
theorem spec_ReSound.mono : ∀ a0 a1 a2 a3 a4 a5 a6 a7 a8 k, LeO (spec_ReSound.f k a0 a1 a2 a3 a4 a5 a6 a7 a8) (spec_ReSound.f (k + 1) a0 a1 a2 a3 a4 a5 a6 a7 a8) := by
  intro a0 a1 a2 a3 a4 a5 a6 a7 a8 k
  unfold spec_ReSound.f
  repeat' first
      | (with_reducible exact spec_ReSize.mono _ _ _ _ _ _ _ _ _ _)
      | (with_reducible exact spec_reCaps.mono _ _ _ _ _ _ _ _ _ _)
      | (with_reducible exact spec_reSounds.mono _ _ _ _ _ _ _ _ _ _)
      | (with_reducible exact LeO.refl _)
      | (with_reducible exact LeO.none _)
      | (with_reducible refine LeO.ite ?_ ?_)
      | (with_reducible refine LeO.bind ?_ (fun _ => ?_))
      | exact spec_ReSize.mono _ _ _ _ _ _ _ _ _ _
      | exact spec_reCaps.mono _ _ _ _ _ _ _ _ _ _
      | exact spec_reSounds.mono _ _ _ _ _ _ _ _ _ _
      | exact LeO.none _
      | refine LeO.ite ?_ ?_
      | refine LeO.bind ?_ (fun _ => ?_)
set_option maxHeartbeats 8000000 in
set_option maxRecDepth 100000 in
theorem spec_ReSound.calls (k : Nat) (a0_0 : Int) (a0_1 : Int) (A0_2 : Option Addr) (c0_2 : Nat) (l0_2 : List Int) (a0_3 : Int) (a0_4 : Int) (a0_5 : Int) (a0_6 : ByteArray) (A0_7 : Option Addr) (c0_7 : Nat) (l0_7 : List (S25)) (a1 : Int) (r : Bool) (w : World) (hr0_2 : Kd.C (Kd.int .i32) w A0_2 l0_2.length l0_2) (hc0_2 : l0_2.length ≤ c0_2) (hr0_7 : Kd.C k25 w A0_7 l0_7.length l0_7) (hc0_7 : l0_7.length ≤ c0_7) (h : spec_ReSound.f k a0_0 a0_1 l0_2 a0_3 a0_4 a0_5 a0_6 l0_7 a1 = some r) :
    Calls Tryd.prog 8 #[.agg #[.int .i64 a0_0, .int .i64 a0_1, .slice A0_2 l0_2.length c0_2, .int .i64 a0_3, .int .i64 a0_4, .int .i64 a0_5, .string a0_6, .slice A0_7 l0_7.length c0_7], .int .i64 a1] w fun e w' => e = .returned (.bool r) ∧ Below w.heap.size w w' := by
  have hu25 := Tryd.underlying25
  have HR0_2 := Aside0.mk hr0_2
  have HC0_2 := Aside0.mk hc0_2
  clear hr0_2 hc0_2
  have HR0_7 := Aside0.mk hr0_7
  have HC0_7 := Aside0.mk hc0_7
  clear hr0_7 hc0_7
  have HB := Aside0.mk (Below.refl w.heap.size w)
  have H : ((spec_reSounds.f k a0_0 a0_1 l0_2 a0_3 a0_4 a0_5 a0_6 l0_7 100).bind fun t126 => (if t126 = true then ((spec_reCaps.f k a0_0 a0_1 l0_2 a0_3 a0_4 a0_5 a0_6 l0_7 1).bind fun t127 => (if t127 > 0 then ((spec_ReSize.f k a0_0 a0_1 l0_2 a0_3 a0_4 a0_5 a0_6 l0_7 a1).bind fun t128 => (some (decide (t128 ≤ a1)))) else (some false))) else (some false))) = some r := h
  clear h
  replace H := Option.bind_eq_some_iff.mp H
  obtain ⟨t126, A30, H⟩ := H
  replace H : (if t126 = true then ((spec_reCaps.f k a0_0 a0_1 l0_2 a0_3 a0_4 a0_5 a0_6 l0_7 1).bind fun t127 => (if t127 > 0 then ((spec_ReSize.f k a0_0 a0_1 l0_2 a0_3 a0_4 a0_5 a0_6 l0_7 a1).bind fun t128 => (some (decide (t128 ≤ a1)))) else (some false))) else (some false)) = some r := H
  have A3 := Aside0.mk A30
  clear A30
  by_cases c4 : t126 = true
  · subst c4
    have H1 : ((spec_reCaps.f k a0_0 a0_1 l0_2 a0_3 a0_4 a0_5 a0_6 l0_7 1).bind fun t127 => (if t127 > 0 then ((spec_ReSize.f k a0_0 a0_1 l0_2 a0_3 a0_4 a0_5 a0_6 l0_7 a1).bind fun t128 => (some (decide (t128 ≤ a1)))) else (some false))) = some r := by rw [if_pos rfl] at H; exact H
    clear H
    have H := H1
    clear H1
    replace H := Option.bind_eq_some_iff.mp H
    obtain ⟨t127, A50, H⟩ := H
    replace H : (if t127 > 0 then ((spec_ReSize.f k a0_0 a0_1 l0_2 a0_3 a0_4 a0_5 a0_6 l0_7 a1).bind fun t128 => (some (decide (t128 ≤ a1)))) else (some false)) = some r := H
    have A5 := Aside0.mk A50
    clear A50
    by_cases c6 : t127 > 0
    · rw [if_pos c6] at H
      have c6b0 : decide (0 < t127) = true := decide_eq_true c6
      clear c6
      replace H := Option.bind_eq_some_iff.mp H
      obtain ⟨t128, A70, H⟩ := H
      replace H : (some (decide (t128 ≤ a1))) = some r := H
      have A7 := Aside0.mk A70
      clear A70
      obtain rfl := Option.some.inj H
      go_enter Tryd.func8, Tryd.ntmps8
      go_wp2_with (first | ((with_reducible refine gate_dst (N := 2) rfl ?_); refine box_event ?hg (N := 2) ?hd (cs := #[.int .i64 a0_0, .int .i64 a0_1, .slice A0_2 l0_2.length c0_2, .int .i64 a0_3, .int .i64 a0_4, .int .i64 a0_5, .string a0_6, .slice A0_7 l0_7.length c0_7]) (t := 25) ?hr ?_; (case hd => rfl); (case hg => rfl); (case hr => first | (go_simp; done) | (go_simp; rfl)); intro gb125 hg w8 hbox hb; have n0_ := Aside0.mk (below_step (by repeat (first | (with_reducible first | exact HB.out | apply below_alloc | apply pw_below_drewN | apply below_drew1) | exact HB.out)) hb); have n1_ := Aside0.mk (hbox); have n2_ := Aside0.mk ((by rw [hg]; exact (below_size (by repeat (first | (with_reducible first | exact HB.out | apply below_alloc | apply pw_below_drewN | apply below_drew1) | exact HB.out))) : w.heap.size ≤ gb125)); have n3_ := Aside0.mk ((by rw [hg]; exact (below_size (by repeat (first | (with_reducible first | exact HB.out | apply below_alloc | apply pw_below_drewN | apply below_drew1) | exact HB.out))) : w.heap.size ≤ gb125)); clear HB; have HB := n0_; have BK125 := n1_; have GW125 := n2_; have GE125 := n3_; clear n0_ n1_ n2_ n3_; clear hb hbox hg; have hcz9_0 : w8.cell? ⟨gb125, 0, none⟩ = some (.int .i64 a0_0) := (blk_cell BK125.out 0).trans rfl; have hcz9_1 : w8.cell? ⟨gb125, 1, none⟩ = some (.int .i64 a0_1) := (blk_cell BK125.out 1).trans rfl; have hcz9_2 : w8.cell? ⟨gb125, 2, none⟩ = some (.slice A0_2 l0_2.length c0_2) := (blk_cell BK125.out 2).trans rfl; have hcz9_3 : w8.cell? ⟨gb125, 3, none⟩ = some (.int .i64 a0_3) := (blk_cell BK125.out 3).trans rfl; have hcz9_4 : w8.cell? ⟨gb125, 4, none⟩ = some (.int .i64 a0_4) := (blk_cell BK125.out 4).trans rfl; have hcz9_5 : w8.cell? ⟨gb125, 5, none⟩ = some (.int .i64 a0_5) := (blk_cell BK125.out 5).trans rfl; have hcz9_6 : w8.cell? ⟨gb125, 6, none⟩ = some (.string a0_6) := (blk_cell BK125.out 6).trans rfl; have hcz9_7 : w8.cell? ⟨gb125, 7, none⟩ = some (.slice A0_7 l0_7.length c0_7) := (blk_cell BK125.out 7).trans rfl; have hfz9_0 := blk_frozen BK125.out 0; have hfz9_1 := blk_frozen BK125.out 1; have hfz9_2 := blk_frozen BK125.out 2; have hfz9_3 := blk_frozen BK125.out 3; have hfz9_4 := blk_frozen BK125.out 4; have hfz9_5 := blk_frozen BK125.out 5; have hfz9_6 := blk_frozen BK125.out 6; have hfz9_7 := blk_frozen BK125.out 7) | ((with_reducible refine gate_callee (f := 15) rfl ?_); refine goesL_ (some 6) rfl rfl Tryd.func15 (by kernel_rfl) rfl #[.agg #[.int .i64 a0_0, .int .i64 a0_1, .slice A0_2 l0_2.length c0_2, .int .i64 a0_3, .int .i64 a0_4, .int .i64 a0_5, .string a0_6, .slice A0_7 l0_7.length c0_7], .int .i64 100] rfl (by (try simp only [List.map_toArray, List.map_cons, List.map_nil]); first | done | rfl | (simp only [List.length_drop, List.length_take]; rfl)) ?_; (with_reducible refine (spec_reSounds.calls k a0_0 a0_1 _ _ l0_2 a0_3 a0_4 a0_5 a0_6 _ _ l0_7 100 true _ ?side1 ?side2 ?side3 ?side4 A3.out).mono ?_); (case side1 => repeat (first | exact (Kd.C_below HR0_2.out HB.out) | (with_reducible refine Kd.C_alloc ?_ _) | (with_reducible refine Kd.C_drewN ?_ _) | (with_reducible refine Kd.C_drew ?_))); (case side2 => exact HC0_2.out); (case side3 => repeat (first | exact (Kd.C_below HR0_7.out HB.out) | (with_reducible refine Kd.C_alloc ?_ _) | (with_reducible refine Kd.C_drewN ?_ _) | (with_reducible refine Kd.C_drew ?_))); (case side4 => exact HC0_7.out); rintro e w10 ⟨rfl, hb⟩; refine ⟨_, rfl, ?_⟩; have n0_ := Aside0.mk (blk_below (g := gb125) (o := .cells #[.int .i64 a0_0, .int .i64 a0_1, .slice A0_2 l0_2.length c0_2, .int .i64 a0_3, .int .i64 a0_4, .int .i64 a0_5, .string a0_6, .slice A0_7 l0_7.length c0_7] 25 (0, 0)) (by (with_reducible repeat (first | refine blk_drewN ?_ _ | refine blk_drew ?_ | refine blk_alloc ?_ _)); exact BK125.out) hb); have n1_ := Aside0.mk (below_step (by repeat (first | (with_reducible first | exact HB.out | apply below_alloc | apply pw_below_drewN | apply below_drew1 | refine below_set ?_ GE125.out) | exact HB.out)) hb); clear BK125; clear HB; have BK125 := n0_; have HB := n1_; clear n0_ n1_; (try clear hb); (try clear hb2); (try clear hk); (try clear hi); have hcz11_0 : w10.cell? ⟨gb125, 0, none⟩ = some (.int .i64 a0_0) := (blk_cell BK125.out 0).trans rfl; have hcz11_1 : w10.cell? ⟨gb125, 1, none⟩ = some (.int .i64 a0_1) := (blk_cell BK125.out 1).trans rfl; have hcz11_2 : w10.cell? ⟨gb125, 2, none⟩ = some (.slice A0_2 l0_2.length c0_2) := (blk_cell BK125.out 2).trans rfl; have hcz11_3 : w10.cell? ⟨gb125, 3, none⟩ = some (.int .i64 a0_3) := (blk_cell BK125.out 3).trans rfl; have hcz11_4 : w10.cell? ⟨gb125, 4, none⟩ = some (.int .i64 a0_4) := (blk_cell BK125.out 4).trans rfl; have hcz11_5 : w10.cell? ⟨gb125, 5, none⟩ = some (.int .i64 a0_5) := (blk_cell BK125.out 5).trans rfl; have hcz11_6 : w10.cell? ⟨gb125, 6, none⟩ = some (.string a0_6) := (blk_cell BK125.out 6).trans rfl; have hcz11_7 : w10.cell? ⟨gb125, 7, none⟩ = some (.slice A0_7 l0_7.length c0_7) := (blk_cell BK125.out 7).trans rfl; have hfz11_0 := blk_frozen BK125.out 0; have hfz11_1 := blk_frozen BK125.out 1; have hfz11_2 := blk_frozen BK125.out 2; have hfz11_3 := blk_frozen BK125.out 3; have hfz11_4 := blk_frozen BK125.out 4; have hfz11_5 := blk_frozen BK125.out 5; have hfz11_6 := blk_frozen BK125.out 6; have hfz11_7 := blk_frozen BK125.out 7) | (go_at_call 16; (with_reducible refine (spec_reCaps.calls k a0_0 a0_1 _ _ l0_2 a0_3 a0_4 a0_5 a0_6 _ _ l0_7 1 t127 _ ?side1 ?side2 ?side3 ?side4 A5.out).mono ?_); (case side1 => repeat (first | exact (Kd.C_below HR0_2.out HB.out) | (with_reducible refine Kd.C_alloc ?_ _) | (with_reducible refine Kd.C_drewN ?_ _) | (with_reducible refine Kd.C_drew ?_))); (case side2 => exact HC0_2.out); (case side3 => repeat (first | exact (Kd.C_below HR0_7.out HB.out) | (with_reducible refine Kd.C_alloc ?_ _) | (with_reducible refine Kd.C_drewN ?_ _) | (with_reducible refine Kd.C_drew ?_))); (case side4 => exact HC0_7.out); rintro e w12 ⟨rfl, hb⟩; have n0_ := Aside0.mk (blk_below (g := gb125) (o := .cells #[.int .i64 a0_0, .int .i64 a0_1, .slice A0_2 l0_2.length c0_2, .int .i64 a0_3, .int .i64 a0_4, .int .i64 a0_5, .string a0_6, .slice A0_7 l0_7.length c0_7] 25 (0, 0)) (by (with_reducible repeat (first | refine blk_drewN ?_ _ | refine blk_drew ?_ | refine blk_alloc ?_ _)); exact BK125.out) hb); have n1_ := Aside0.mk (below_step (by repeat (first | (with_reducible first | exact HB.out | apply below_alloc | apply pw_below_drewN | apply below_drew1 | refine below_set ?_ GE125.out) | exact HB.out)) hb); clear BK125; clear HB; have BK125 := n0_; have HB := n1_; clear n0_ n1_; (try clear hb); (try clear hb2); (try clear hk); (try clear hi); have hcz13_0 : w12.cell? ⟨gb125, 0, none⟩ = some (.int .i64 a0_0) := (blk_cell BK125.out 0).trans rfl; have hcz13_1 : w12.cell? ⟨gb125, 1, none⟩ = some (.int .i64 a0_1) := (blk_cell BK125.out 1).trans rfl; have hcz13_2 : w12.cell? ⟨gb125, 2, none⟩ = some (.slice A0_2 l0_2.length c0_2) := (blk_cell BK125.out 2).trans rfl; have hcz13_3 : w12.cell? ⟨gb125, 3, none⟩ = some (.int .i64 a0_3) := (blk_cell BK125.out 3).trans rfl; have hcz13_4 : w12.cell? ⟨gb125, 4, none⟩ = some (.int .i64 a0_4) := (blk_cell BK125.out 4).trans rfl; have hcz13_5 : w12.cell? ⟨gb125, 5, none⟩ = some (.int .i64 a0_5) := (blk_cell BK125.out 5).trans rfl; have hcz13_6 : w12.cell? ⟨gb125, 6, none⟩ = some (.string a0_6) := (blk_cell BK125.out 6).trans rfl; have hcz13_7 : w12.cell? ⟨gb125, 7, none⟩ = some (.slice A0_7 l0_7.length c0_7) := (blk_cell BK125.out 7).trans rfl; have hfz13_0 := blk_frozen BK125.out 0; have hfz13_1 := blk_frozen BK125.out 1; have hfz13_2 := blk_frozen BK125.out 2; have hfz13_3 := blk_frozen BK125.out 3; have hfz13_4 := blk_frozen BK125.out 4; have hfz13_5 := blk_frozen BK125.out 5; have hfz13_6 := blk_frozen BK125.out 6; have hfz13_7 := blk_frozen BK125.out 7) | (go_at_call 17; (with_reducible refine (spec_ReSize.calls k a0_0 a0_1 _ _ l0_2 a0_3 a0_4 a0_5 a0_6 _ _ l0_7 a1 t128 _ ?side1 ?side2 ?side3 ?side4 A7.out).mono ?_); (case side1 => repeat (first | exact (Kd.C_below HR0_2.out HB.out) | (with_reducible refine Kd.C_alloc ?_ _) | (with_reducible refine Kd.C_drewN ?_ _) | (with_reducible refine Kd.C_drew ?_))); (case side2 => exact HC0_2.out); (case side3 => repeat (first | exact (Kd.C_below HR0_7.out HB.out) | (with_reducible refine Kd.C_alloc ?_ _) | (with_reducible refine Kd.C_drewN ?_ _) | (with_reducible refine Kd.C_drew ?_))); (case side4 => exact HC0_7.out); rintro e w14 ⟨rfl, hb⟩; have n0_ := Aside0.mk (blk_below (g := gb125) (o := .cells #[.int .i64 a0_0, .int .i64 a0_1, .slice A0_2 l0_2.length c0_2, .int .i64 a0_3, .int .i64 a0_4, .int .i64 a0_5, .string a0_6, .slice A0_7 l0_7.length c0_7] 25 (0, 0)) (by (with_reducible repeat (first | refine blk_drewN ?_ _ | refine blk_drew ?_ | refine blk_alloc ?_ _)); exact BK125.out) hb); have n1_ := Aside0.mk (below_step (by repeat (first | (with_reducible first | exact HB.out | apply below_alloc | apply pw_below_drewN | apply below_drew1 | refine below_set ?_ GE125.out) | exact HB.out)) hb); clear BK125; clear HB; have BK125 := n0_; have HB := n1_; clear n0_ n1_; (try clear hb); (try clear hb2); (try clear hk); (try clear hi)))
      go_ret
      exact ⟨by first | rfl | (simp [errW_none, errW_some] <;> rfl) | (simp [*, errW_none, errW_some] <;> rfl), by repeat (first | (with_reducible first | exact HB.out | apply below_alloc | apply pw_below_drewN | apply below_drew1 | refine below_set ?_ GE125.out) | exact HB.out)⟩
    · rw [if_neg c6] at H
      have c6b0 : decide (0 < t127) = false := decide_eq_false c6
      clear c6
      obtain rfl := Option.some.inj H
      go_enter Tryd.func8, Tryd.ntmps8
      go_wp2_with (first | ((with_reducible refine gate_dst (N := 2) rfl ?_); refine box_event ?hg (N := 2) ?hd (cs := #[.int .i64 a0_0, .int .i64 a0_1, .slice A0_2 l0_2.length c0_2, .int .i64 a0_3, .int .i64 a0_4, .int .i64 a0_5, .string a0_6, .slice A0_7 l0_7.length c0_7]) (t := 25) ?hr ?_; (case hd => rfl); (case hg => rfl); (case hr => first | (go_simp; done) | (go_simp; rfl)); intro gb125 hg w15 hbox hb; have n0_ := Aside0.mk (below_step (by repeat (first | (with_reducible first | exact HB.out | apply below_alloc | apply pw_below_drewN | apply below_drew1) | exact HB.out)) hb); have n1_ := Aside0.mk (hbox); have n2_ := Aside0.mk ((by rw [hg]; exact (below_size (by repeat (first | (with_reducible first | exact HB.out | apply below_alloc | apply pw_below_drewN | apply below_drew1) | exact HB.out))) : w.heap.size ≤ gb125)); have n3_ := Aside0.mk ((by rw [hg]; exact (below_size (by repeat (first | (with_reducible first | exact HB.out | apply below_alloc | apply pw_below_drewN | apply below_drew1) | exact HB.out))) : w.heap.size ≤ gb125)); clear HB; have HB := n0_; have BK125 := n1_; have GW125 := n2_; have GE125 := n3_; clear n0_ n1_ n2_ n3_; clear hb hbox hg; have hcz16_0 : w15.cell? ⟨gb125, 0, none⟩ = some (.int .i64 a0_0) := (blk_cell BK125.out 0).trans rfl; have hcz16_1 : w15.cell? ⟨gb125, 1, none⟩ = some (.int .i64 a0_1) := (blk_cell BK125.out 1).trans rfl; have hcz16_2 : w15.cell? ⟨gb125, 2, none⟩ = some (.slice A0_2 l0_2.length c0_2) := (blk_cell BK125.out 2).trans rfl; have hcz16_3 : w15.cell? ⟨gb125, 3, none⟩ = some (.int .i64 a0_3) := (blk_cell BK125.out 3).trans rfl; have hcz16_4 : w15.cell? ⟨gb125, 4, none⟩ = some (.int .i64 a0_4) := (blk_cell BK125.out 4).trans rfl; have hcz16_5 : w15.cell? ⟨gb125, 5, none⟩ = some (.int .i64 a0_5) := (blk_cell BK125.out 5).trans rfl; have hcz16_6 : w15.cell? ⟨gb125, 6, none⟩ = some (.string a0_6) := (blk_cell BK125.out 6).trans rfl; have hcz16_7 : w15.cell? ⟨gb125, 7, none⟩ = some (.slice A0_7 l0_7.length c0_7) := (blk_cell BK125.out 7).trans rfl; have hfz16_0 := blk_frozen BK125.out 0; have hfz16_1 := blk_frozen BK125.out 1; have hfz16_2 := blk_frozen BK125.out 2; have hfz16_3 := blk_frozen BK125.out 3; have hfz16_4 := blk_frozen BK125.out 4; have hfz16_5 := blk_frozen BK125.out 5; have hfz16_6 := blk_frozen BK125.out 6; have hfz16_7 := blk_frozen BK125.out 7) | ((with_reducible refine gate_callee (f := 15) rfl ?_); refine goesL_ (some 6) rfl rfl Tryd.func15 (by kernel_rfl) rfl #[.agg #[.int .i64 a0_0, .int .i64 a0_1, .slice A0_2 l0_2.length c0_2, .int .i64 a0_3, .int .i64 a0_4, .int .i64 a0_5, .string a0_6, .slice A0_7 l0_7.length c0_7], .int .i64 100] rfl (by (try simp only [List.map_toArray, List.map_cons, List.map_nil]); first | done | rfl | (simp only [List.length_drop, List.length_take]; rfl)) ?_; (with_reducible refine (spec_reSounds.calls k a0_0 a0_1 _ _ l0_2 a0_3 a0_4 a0_5 a0_6 _ _ l0_7 100 true _ ?side1 ?side2 ?side3 ?side4 A3.out).mono ?_); (case side1 => repeat (first | exact (Kd.C_below HR0_2.out HB.out) | (with_reducible refine Kd.C_alloc ?_ _) | (with_reducible refine Kd.C_drewN ?_ _) | (with_reducible refine Kd.C_drew ?_))); (case side2 => exact HC0_2.out); (case side3 => repeat (first | exact (Kd.C_below HR0_7.out HB.out) | (with_reducible refine Kd.C_alloc ?_ _) | (with_reducible refine Kd.C_drewN ?_ _) | (with_reducible refine Kd.C_drew ?_))); (case side4 => exact HC0_7.out); rintro e w17 ⟨rfl, hb⟩; refine ⟨_, rfl, ?_⟩; have n0_ := Aside0.mk (blk_below (g := gb125) (o := .cells #[.int .i64 a0_0, .int .i64 a0_1, .slice A0_2 l0_2.length c0_2, .int .i64 a0_3, .int .i64 a0_4, .int .i64 a0_5, .string a0_6, .slice A0_7 l0_7.length c0_7] 25 (0, 0)) (by (with_reducible repeat (first | refine blk_drewN ?_ _ | refine blk_drew ?_ | refine blk_alloc ?_ _)); exact BK125.out) hb); have n1_ := Aside0.mk (below_step (by repeat (first | (with_reducible first | exact HB.out | apply below_alloc | apply pw_below_drewN | apply below_drew1 | refine below_set ?_ GE125.out) | exact HB.out)) hb); clear BK125; clear HB; have BK125 := n0_; have HB := n1_; clear n0_ n1_; (try clear hb); (try clear hb2); (try clear hk); (try clear hi); have hcz18_0 : w17.cell? ⟨gb125, 0, none⟩ = some (.int .i64 a0_0) := (blk_cell BK125.out 0).trans rfl; have hcz18_1 : w17.cell? ⟨gb125, 1, none⟩ = some (.int .i64 a0_1) := (blk_cell BK125.out 1).trans rfl; have hcz18_2 : w17.cell? ⟨gb125, 2, none⟩ = some (.slice A0_2 l0_2.length c0_2) := (blk_cell BK125.out 2).trans rfl; have hcz18_3 : w17.cell? ⟨gb125, 3, none⟩ = some (.int .i64 a0_3) := (blk_cell BK125.out 3).trans rfl; have hcz18_4 : w17.cell? ⟨gb125, 4, none⟩ = some (.int .i64 a0_4) := (blk_cell BK125.out 4).trans rfl; have hcz18_5 : w17.cell? ⟨gb125, 5, none⟩ = some (.int .i64 a0_5) := (blk_cell BK125.out 5).trans rfl; have hcz18_6 : w17.cell? ⟨gb125, 6, none⟩ = some (.string a0_6) := (blk_cell BK125.out 6).trans rfl; have hcz18_7 : w17.cell? ⟨gb125, 7, none⟩ = some (.slice A0_7 l0_7.length c0_7) := (blk_cell BK125.out 7).trans rfl; have hfz18_0 := blk_frozen BK125.out 0; have hfz18_1 := blk_frozen BK125.out 1; have hfz18_2 := blk_frozen BK125.out 2; have hfz18_3 := blk_frozen BK125.out 3; have hfz18_4 := blk_frozen BK125.out 4; have hfz18_5 := blk_frozen BK125.out 5; have hfz18_6 := blk_frozen BK125.out 6; have hfz18_7 := blk_frozen BK125.out 7) | (go_at_call 16; (with_reducible refine (spec_reCaps.calls k a0_0 a0_1 _ _ l0_2 a0_3 a0_4 a0_5 a0_6 _ _ l0_7 1 t127 _ ?side1 ?side2 ?side3 ?side4 A5.out).mono ?_); (case side1 => repeat (first | exact (Kd.C_below HR0_2.out HB.out) | (with_reducible refine Kd.C_alloc ?_ _) | (with_reducible refine Kd.C_drewN ?_ _) | (with_reducible refine Kd.C_drew ?_))); (case side2 => exact HC0_2.out); (case side3 => repeat (first | exact (Kd.C_below HR0_7.out HB.out) | (with_reducible refine Kd.C_alloc ?_ _) | (with_reducible refine Kd.C_drewN ?_ _) | (with_reducible refine Kd.C_drew ?_))); (case side4 => exact HC0_7.out); rintro e w19 ⟨rfl, hb⟩; have n0_ := Aside0.mk (blk_below (g := gb125) (o := .cells #[.int .i64 a0_0, .int .i64 a0_1, .slice A0_2 l0_2.length c0_2, .int .i64 a0_3, .int .i64 a0_4, .int .i64 a0_5, .string a0_6, .slice A0_7 l0_7.length c0_7] 25 (0, 0)) (by (with_reducible repeat (first | refine blk_drewN ?_ _ | refine blk_drew ?_ | refine blk_alloc ?_ _)); exact BK125.out) hb); have n1_ := Aside0.mk (below_step (by repeat (first | (with_reducible first | exact HB.out | apply below_alloc | apply pw_below_drewN | apply below_drew1 | refine below_set ?_ GE125.out) | exact HB.out)) hb); clear BK125; clear HB; have BK125 := n0_; have HB := n1_; clear n0_ n1_; (try clear hb); (try clear hb2); (try clear hk); (try clear hi)))
      go_ret
      exact ⟨by first | rfl | (simp [errW_none, errW_some] <;> rfl) | (simp [*, errW_none, errW_some] <;> rfl), by repeat (first | (with_reducible first | exact HB.out | apply below_alloc | apply pw_below_drewN | apply below_drew1 | refine below_set ?_ GE125.out) | exact HB.out)⟩
  · replace c4 := Bool.eq_false_iff.mpr c4
    subst c4
    have H1 : (some false) = some r := by rw [if_neg (show ¬ (false = true) by decide)] at H; exact H
    clear H
    have H := H1
    clear H1
    obtain rfl := Option.some.inj H
    go_enter Tryd.func8, Tryd.ntmps8
    go_wp2_with (first | ((with_reducible refine gate_dst (N := 2) rfl ?_); refine box_event ?hg (N := 2) ?hd (cs := #[.int .i64 a0_0, .int .i64 a0_1, .slice A0_2 l0_2.length c0_2, .int .i64 a0_3, .int .i64 a0_4, .int .i64 a0_5, .string a0_6, .slice A0_7 l0_7.length c0_7]) (t := 25) ?hr ?_; (case hd => rfl); (case hg => rfl); (case hr => first | (go_simp; done) | (go_simp; rfl)); intro gb125 hg w20 hbox hb; have n0_ := Aside0.mk (below_step (by repeat (first | (with_reducible first | exact HB.out | apply below_alloc | apply pw_below_drewN | apply below_drew1) | exact HB.out)) hb); have n1_ := Aside0.mk (hbox); have n2_ := Aside0.mk ((by rw [hg]; exact (below_size (by repeat (first | (with_reducible first | exact HB.out | apply below_alloc | apply pw_below_drewN | apply below_drew1) | exact HB.out))) : w.heap.size ≤ gb125)); have n3_ := Aside0.mk ((by rw [hg]; exact (below_size (by repeat (first | (with_reducible first | exact HB.out | apply below_alloc | apply pw_below_drewN | apply below_drew1) | exact HB.out))) : w.heap.size ≤ gb125)); clear HB; have HB := n0_; have BK125 := n1_; have GW125 := n2_; have GE125 := n3_; clear n0_ n1_ n2_ n3_; clear hb hbox hg; have hcz21_0 : w20.cell? ⟨gb125, 0, none⟩ = some (.int .i64 a0_0) := (blk_cell BK125.out 0).trans rfl; have hcz21_1 : w20.cell? ⟨gb125, 1, none⟩ = some (.int .i64 a0_1) := (blk_cell BK125.out 1).trans rfl; have hcz21_2 : w20.cell? ⟨gb125, 2, none⟩ = some (.slice A0_2 l0_2.length c0_2) := (blk_cell BK125.out 2).trans rfl; have hcz21_3 : w20.cell? ⟨gb125, 3, none⟩ = some (.int .i64 a0_3) := (blk_cell BK125.out 3).trans rfl; have hcz21_4 : w20.cell? ⟨gb125, 4, none⟩ = some (.int .i64 a0_4) := (blk_cell BK125.out 4).trans rfl; have hcz21_5 : w20.cell? ⟨gb125, 5, none⟩ = some (.int .i64 a0_5) := (blk_cell BK125.out 5).trans rfl; have hcz21_6 : w20.cell? ⟨gb125, 6, none⟩ = some (.string a0_6) := (blk_cell BK125.out 6).trans rfl; have hcz21_7 : w20.cell? ⟨gb125, 7, none⟩ = some (.slice A0_7 l0_7.length c0_7) := (blk_cell BK125.out 7).trans rfl; have hfz21_0 := blk_frozen BK125.out 0; have hfz21_1 := blk_frozen BK125.out 1; have hfz21_2 := blk_frozen BK125.out 2; have hfz21_3 := blk_frozen BK125.out 3; have hfz21_4 := blk_frozen BK125.out 4; have hfz21_5 := blk_frozen BK125.out 5; have hfz21_6 := blk_frozen BK125.out 6; have hfz21_7 := blk_frozen BK125.out 7) | ((with_reducible refine gate_callee (f := 15) rfl ?_); refine goesL_ (some 6) rfl rfl Tryd.func15 (by kernel_rfl) rfl #[.agg #[.int .i64 a0_0, .int .i64 a0_1, .slice A0_2 l0_2.length c0_2, .int .i64 a0_3, .int .i64 a0_4, .int .i64 a0_5, .string a0_6, .slice A0_7 l0_7.length c0_7], .int .i64 100] rfl (by (try simp only [List.map_toArray, List.map_cons, List.map_nil]); first | done | rfl | (simp only [List.length_drop, List.length_take]; rfl)) ?_; (with_reducible refine (spec_reSounds.calls k a0_0 a0_1 _ _ l0_2 a0_3 a0_4 a0_5 a0_6 _ _ l0_7 100 false _ ?side1 ?side2 ?side3 ?side4 A3.out).mono ?_); (case side1 => repeat (first | exact (Kd.C_below HR0_2.out HB.out) | (with_reducible refine Kd.C_alloc ?_ _) | (with_reducible refine Kd.C_drewN ?_ _) | (with_reducible refine Kd.C_drew ?_))); (case side2 => exact HC0_2.out); (case side3 => repeat (first | exact (Kd.C_below HR0_7.out HB.out) | (with_reducible refine Kd.C_alloc ?_ _) | (with_reducible refine Kd.C_drewN ?_ _) | (with_reducible refine Kd.C_drew ?_))); (case side4 => exact HC0_7.out); rintro e w22 ⟨rfl, hb⟩; refine ⟨_, rfl, ?_⟩; have n0_ := Aside0.mk (blk_below (g := gb125) (o := .cells #[.int .i64 a0_0, .int .i64 a0_1, .slice A0_2 l0_2.length c0_2, .int .i64 a0_3, .int .i64 a0_4, .int .i64 a0_5, .string a0_6, .slice A0_7 l0_7.length c0_7] 25 (0, 0)) (by (with_reducible repeat (first | refine blk_drewN ?_ _ | refine blk_drew ?_ | refine blk_alloc ?_ _)); exact BK125.out) hb); have n1_ := Aside0.mk (below_step (by repeat (first | (with_reducible first | exact HB.out | apply below_alloc | apply pw_below_drewN | apply below_drew1 | refine below_set ?_ GE125.out) | exact HB.out)) hb); clear BK125; clear HB; have BK125 := n0_; have HB := n1_; clear n0_ n1_; (try clear hb); (try clear hb2); (try clear hk); (try clear hi)))
    go_ret
    exact ⟨by first | rfl | (simp [errW_none, errW_some] <;> rfl) | (simp [*, errW_none, errW_some] <;> rfl), by repeat (first | (with_reducible first | exact HB.out | apply below_alloc | apply pw_below_drewN | apply below_drew1 | refine below_set ?_ GE125.out) | exact HB.out)⟩

/-! ### utf8_ValidRune: function 26 -/
def utf8_ValidRune.j0 : Nat → Int → Bool → Option (Bool)
  | 0, _, _ => none
  | k + 1, x0, x3 => if x3 = true then (some true) else (if 57343 < x0 then (if x0 ≤ 1114111 then (some true) else (some false)) else (some false))
def utf8_ValidRune.f (k : Nat) (a0 : Int) : Option (Bool) := if 0 ≤ a0 then (utf8_ValidRune.j0 k a0 (decide (a0 < 55296))) else (utf8_ValidRune.j0 k a0 false)
theorem utf8_ValidRune.mono_l : ∀ k, (∀ y0 y1, LeO (utf8_ValidRune.j0 k y0 y1) (utf8_ValidRune.j0 (k + 1) y0 y1))
  | 0 => fun _ _ r h => by simp [utf8_ValidRune.j0] at h
  | k + 1 => by
    have ih0 := utf8_ValidRune.mono_l k
    · intro y0 y1
      unfold utf8_ValidRune.j0
      repeat' first
      | (with_reducible exact ih0 _ _)
      | (with_reducible exact LeO.refl _)
      | (with_reducible exact LeO.none _)
      | (with_reducible refine LeO.ite ?_ ?_)
      | (with_reducible refine LeO.bind ?_ (fun _ => ?_))
      | exact ih0 _ _
      | exact LeO.none _
      | refine LeO.ite ?_ ?_
      | refine LeO.bind ?_ (fun _ => ?_)
theorem utf8_ValidRune.mono : ∀ a0 k, LeO (utf8_ValidRune.f k a0) (utf8_ValidRune.f (k + 1) a0) := by
  intro a0 k
  have ih0 := utf8_ValidRune.mono_l k
  unfold utf8_ValidRune.f
  repeat' first
      | (with_reducible exact ih0 _ _)
      | (with_reducible exact LeO.refl _)
      | (with_reducible exact LeO.none _)
      | (with_reducible refine LeO.ite ?_ ?_)
      | (with_reducible refine LeO.bind ?_ (fun _ => ?_))
      | exact ih0 _ _
      | exact LeO.none _
      | refine LeO.ite ?_ ?_
      | refine LeO.bind ?_ (fun _ => ?_)
set_option maxHeartbeats 8000000 in
set_option maxRecDepth 100000 in
theorem utf8_ValidRune.calls (k : Nat) (a0 : Int) (r : Bool) (w : World) (h : utf8_ValidRune.f k a0 = some r) :
    Calls Tryd.prog 26 #[.int .i32 a0] w fun e w' => e = .returned (.bool r) ∧ Drawn0 w w' := by
  have H : (if 0 ≤ a0 then (utf8_ValidRune.j0 k a0 (decide (a0 < 55296))) else (utf8_ValidRune.j0 k a0 false)) = some r := h
  clear h
  have HC2 := Aside0.mk H
  clear H
  go_enter Tryd.func26, Tryd.ntmps26
  go_upto_region 1 with (fail)
  go_cut [3] (fun v3 wc => ∃ (kq : Nat) (x3_1 : Bool), v3 = .bool x3_1 ∧ Aside0 (utf8_ValidRune.j0 kq a0 x3_1 = some r) ∧ Aside0 (kq ≤ k) ∧ Drawn0 w wc)
  case first =>
    have H := HC2.out
    clear HC2
    by_cases c3 : 0 ≤ a0
    · rw [if_pos c3] at H
      have c3b0 : decide (0 ≤ a0) = true := decide_eq_true c3
      clear c3
      (first | rw [c3b0] | (simp only [i64_w, i32_w]; rw [c3b0]) | skip)
      have H' := Aside0.mk H
      clear H
      go_wp2
      go_meet
      case rel => exact ⟨_, (decide (a0 < 55296)), (by first | rfl | (simp; done) | (simp [*]; done)), H', ⟨by first | omega | exact Nat.le_refl _⟩, by repeat (first | exact Drawn0.refl _ | apply Drawn0.step)⟩
    · rw [if_neg c3] at H
      have c3b0 : decide (0 ≤ a0) = false := decide_eq_false c3
      clear c3
      (first | rw [c3b0] | (simp only [i64_w, i32_w]; rw [c3b0]) | skip)
      have H' := Aside0.mk H
      clear H
      go_wp2
      go_meet
      case rel => exact ⟨_, (false), (by first | rfl | (simp; done) | (simp [*]; done)), H', ⟨by first | omega | exact Nat.le_refl _⟩, by repeat (first | exact Drawn0.refl _ | apply Drawn0.step)⟩
  case rest =>
    clear HC2
    try clear c2
    try clear p2
    try clear c3
    try clear c3b0
    obtain ⟨kq, x3_1, rfl, HA, HJ1, ⟨mc1, rfl⟩⟩ := hcut
    cases kq with
    | zero => exact absurd HA.out (by simp [utf8_ValidRune.j0])
    | succ kj1 =>
      have H := HA.out
      clear HA
      simp only [utf8_ValidRune.j0] at H
      by_cases c4 : x3_1 = true
      · subst c4
        have H1 : (some true) = some r := by rw [if_pos rfl] at H; exact H
        clear H
        have H := H1
        clear H1
        obtain rfl := Option.some.inj H
        go_wp2
        go_ret
        exact ⟨by first | rfl | (simp; done) | (simp [*]; done), by repeat (first | exact Drawn0.refl _ | apply Drawn0.step)⟩
      · replace c4 := Bool.eq_false_iff.mpr c4
        subst c4
        have H1 : (if 57343 < a0 then (if a0 ≤ 1114111 then (some true) else (some false)) else (some false)) = some r := by rw [if_neg (show ¬ (false = true) by decide)] at H; exact H
        clear H
        have H := H1
        clear H1
        by_cases c5 : 57343 < a0
        · rw [if_pos c5] at H
          have c5b0 : decide (57343 < a0) = true := decide_eq_true c5
          clear c5
          by_cases c6 : a0 ≤ 1114111
          · rw [if_pos c6] at H
            have c6b0 : decide (a0 ≤ 1114111) = true := decide_eq_true c6
            clear c6
            obtain rfl := Option.some.inj H
            go_wp2
            go_ret
            exact ⟨by first | rfl | (simp; done) | (simp [*]; done), by repeat (first | exact Drawn0.refl _ | apply Drawn0.step)⟩
          · rw [if_neg c6] at H
            have c6b0 : decide (a0 ≤ 1114111) = false := decide_eq_false c6
            clear c6
            obtain rfl := Option.some.inj H
            go_wp2
            go_ret
            exact ⟨by first | rfl | (simp; done) | (simp [*]; done), by repeat (first | exact Drawn0.refl _ | apply Drawn0.step)⟩
        · rw [if_neg c5] at H
          have c5b0 : decide (57343 < a0) = false := decide_eq_false c5
          clear c5
          obtain rfl := Option.some.inj H
          go_wp2
          go_ret
          exact ⟨by first | rfl | (simp; done) | (simp [*]; done), by repeat (first | exact Drawn0.refl _ | apply Drawn0.step)⟩

-- NOT PRINTED: function 45 (unicode_lookupCaseRange)

-- NOT PRINTED: function 46 (unicode_convertCase)

-- NOT PRINTED: function 39 (unicode_SimpleFold)

-- NOT PRINTED: function 27 (spec_ReLeast)

-- NOT PRINTED: function 18 (spec_ReChars)

-- NOT PRINTED: function 9 (spec_ReUsual)

/-! ### spec_ReBarren: function 10 -/
mutual
def spec_ReBarren.l0 : Nat → List (S25) → Int → Int → Option (Bool)
  | 0, _, _, _ => none
  | k + 1, x9, x10, x11 => if x11 < x10 then (if 0 ≤ x11 then (if x11 < (x9.length : Int) then ((spec_ReBarren.f k ((rd_T25 x9 x11).f0) ((rd_T25 x9 x11).f1) ((rd_T25 x9 x11).f2) ((rd_T25 x9 x11).f3) ((rd_T25 x9 x11).f4) ((rd_T25 x9 x11).f5) ((rd_T25 x9 x11).f6) ((rd_T25 x9 x11).f7)).bind fun t135 => (if t135 = true then (some true) else (spec_ReBarren.l0 k x9 x10 (wrap64 (x11 + 1))))) else (none)) else (none)) else (some false)
def spec_ReBarren.f : Nat → Int → Int → List Int → Int → Int → Int → ByteArray → List (S25) → Option (Bool)
  | 0, _, _, _, _, _, _, _, _ => none
  | k + 1, a0_0, a0_1, l0_2, a0_3, a0_4, a0_5, a0_6, l0_7 => if a0_0 = 1 then (some true) else (spec_ReBarren.l0 k l0_7 (l0_7.length : Int) 0)
end
theorem spec_ReBarren.mono_l : ∀ k, (∀ y0 y1 y2 y3 y4 y5 y6 y7, LeO (spec_ReBarren.f k y0 y1 y2 y3 y4 y5 y6 y7) (spec_ReBarren.f (k + 1) y0 y1 y2 y3 y4 y5 y6 y7)) ∧ (∀ y0 y1 y2, LeO (spec_ReBarren.l0 k y0 y1 y2) (spec_ReBarren.l0 (k + 1) y0 y1 y2))
  | 0 => ⟨fun _ _ _ _ _ _ _ _ r h => by simp [spec_ReBarren.f] at h, fun _ _ _ r h => by simp [spec_ReBarren.l0] at h⟩
  | k + 1 => by
    obtain ⟨ih0, ih1⟩ := spec_ReBarren.mono_l k
    refine ⟨?_, ?_⟩
    · intro y0 y1 y2 y3 y4 y5 y6 y7
      unfold spec_ReBarren.f
      repeat' first
      | (with_reducible exact ih0 _ _ _ _ _ _ _ _)
      | (with_reducible exact ih1 _ _ _)
      | (with_reducible exact LeO.refl _)
      | (with_reducible exact LeO.none _)
      | (with_reducible refine LeO.ite ?_ ?_)
      | (with_reducible refine LeO.bind ?_ (fun _ => ?_))
      | exact ih0 _ _ _ _ _ _ _ _
      | exact ih1 _ _ _
      | exact LeO.none _
      | refine LeO.ite ?_ ?_
      | refine LeO.bind ?_ (fun _ => ?_)
    · intro y0 y1 y2
      unfold spec_ReBarren.l0
      repeat' first
      | (with_reducible exact ih0 _ _ _ _ _ _ _ _)
      | (with_reducible exact ih1 _ _ _)
      | (with_reducible exact LeO.refl _)
      | (with_reducible exact LeO.none _)
      | (with_reducible refine LeO.ite ?_ ?_)
      | (with_reducible refine LeO.bind ?_ (fun _ => ?_))
      | exact ih0 _ _ _ _ _ _ _ _
      | exact ih1 _ _ _
      | exact LeO.none _
      | refine LeO.ite ?_ ?_
      | refine LeO.bind ?_ (fun _ => ?_)
theorem spec_ReBarren.mono : ∀ a0 a1 a2 a3 a4 a5 a6 a7 k, LeO (spec_ReBarren.f k a0 a1 a2 a3 a4 a5 a6 a7) (spec_ReBarren.f (k + 1) a0 a1 a2 a3 a4 a5 a6 a7) := by
  intro a0 a1 a2 a3 a4 a5 a6 a7 k
  obtain ⟨ih0, ih1⟩ := spec_ReBarren.mono_l k
  exact ih0 a0 a1 a2 a3 a4 a5 a6 a7
set_option maxHeartbeats 8000000 in
set_option maxRecDepth 100000 in
theorem spec_ReBarren.calls (k : Nat) : ∀ (a0_0 : Int) (a0_1 : Int) (A0_2 : Option Addr) (c0_2 : Nat) (l0_2 : List Int) (a0_3 : Int) (a0_4 : Int) (a0_5 : Int) (a0_6 : ByteArray) (A0_7 : Option Addr) (c0_7 : Nat) (l0_7 : List (S25)) (r : Bool) (w : World) (hr0_2 : Kd.C (Kd.int .i32) w A0_2 l0_2.length l0_2) (hc0_2 : l0_2.length ≤ c0_2) (hr0_7 : Kd.C k25 w A0_7 l0_7.length l0_7) (hc0_7 : l0_7.length ≤ c0_7) (h : spec_ReBarren.f k a0_0 a0_1 l0_2 a0_3 a0_4 a0_5 a0_6 l0_7 = some r),
    Calls Tryd.prog 10 #[.agg #[.int .i64 a0_0, .int .i64 a0_1, .slice A0_2 l0_2.length c0_2, .int .i64 a0_3, .int .i64 a0_4, .int .i64 a0_5, .string a0_6, .slice A0_7 l0_7.length c0_7]] w fun e w' => e = .returned (.bool r) ∧ Below w.heap.size w w' := by
  induction k using Nat.strongRecOn with
  | _ k ih =>
  intro a0_0 a0_1 A0_2 c0_2 l0_2 a0_3 a0_4 a0_5 a0_6 A0_7 c0_7 l0_7 r w hr0_2 hc0_2 hr0_7 hc0_7 h
  cases k with
  | zero => exact absurd h (by simp [spec_ReBarren.f])
  | succ k =>
  simp only [spec_ReBarren.f] at h
  have hu25 := Tryd.underlying25
  have HR0_2 := Aside0.mk hr0_2
  have HC0_2 := Aside0.mk hc0_2
  clear hr0_2 hc0_2
  have HR0_7 := Aside0.mk hr0_7
  have HC0_7 := Aside0.mk hc0_7
  clear hr0_7 hc0_7
  have HB := Aside0.mk (Below.refl w.heap.size w)
  have H : (if a0_0 = 1 then (some true) else (spec_ReBarren.l0 k l0_7 (l0_7.length : Int) 0)) = some r := h
  clear h
  by_cases c2 : a0_0 = 1
  · rw [if_pos c2] at H
    have c2b0 : (a0_0 == 1) = true := beq_iff_eq.mpr c2
    have c2b1 : (a0_0 != 1) = false := bne_eq_false_iff_eq.mpr c2
    clear c2
    obtain rfl := Option.some.inj H
    go_enter Tryd.func10, Tryd.ntmps10
    go_wp2_with (first | ((with_reducible refine gate_dst (N := 1) rfl ?_); refine box_event ?hg (N := 1) ?hd (cs := #[.int .i64 a0_0, .int .i64 a0_1, .slice A0_2 l0_2.length c0_2, .int .i64 a0_3, .int .i64 a0_4, .int .i64 a0_5, .string a0_6, .slice A0_7 l0_7.length c0_7]) (t := 25) ?hr ?_; (case hd => rfl); (case hg => rfl); (case hr => first | (go_simp; done) | (go_simp; rfl)); intro gb132 hg w3 hbox hb; have n0_ := Aside0.mk (below_step (by repeat (first | (with_reducible first | exact HB.out | apply below_alloc | apply pw_below_drewN | apply below_drew1) | exact HB.out)) hb); have n1_ := Aside0.mk (hbox); have n2_ := Aside0.mk ((by rw [hg]; exact (below_size (by repeat (first | (with_reducible first | exact HB.out | apply below_alloc | apply pw_below_drewN | apply below_drew1) | exact HB.out))) : w.heap.size ≤ gb132)); have n3_ := Aside0.mk ((by rw [hg]; exact (below_size (by repeat (first | (with_reducible first | exact HB.out | apply below_alloc | apply pw_below_drewN | apply below_drew1) | exact HB.out))) : w.heap.size ≤ gb132)); clear HB; have HB := n0_; have BK132 := n1_; have GW132 := n2_; have GE132 := n3_; clear n0_ n1_ n2_ n3_; clear hb hbox hg; have hcz4_0 : w3.cell? ⟨gb132, 0, none⟩ = some (.int .i64 a0_0) := (blk_cell BK132.out 0).trans rfl; have hcz4_1 : w3.cell? ⟨gb132, 1, none⟩ = some (.int .i64 a0_1) := (blk_cell BK132.out 1).trans rfl; have hcz4_2 : w3.cell? ⟨gb132, 2, none⟩ = some (.slice A0_2 l0_2.length c0_2) := (blk_cell BK132.out 2).trans rfl; have hcz4_3 : w3.cell? ⟨gb132, 3, none⟩ = some (.int .i64 a0_3) := (blk_cell BK132.out 3).trans rfl; have hcz4_4 : w3.cell? ⟨gb132, 4, none⟩ = some (.int .i64 a0_4) := (blk_cell BK132.out 4).trans rfl; have hcz4_5 : w3.cell? ⟨gb132, 5, none⟩ = some (.int .i64 a0_5) := (blk_cell BK132.out 5).trans rfl; have hcz4_6 : w3.cell? ⟨gb132, 6, none⟩ = some (.string a0_6) := (blk_cell BK132.out 6).trans rfl; have hcz4_7 : w3.cell? ⟨gb132, 7, none⟩ = some (.slice A0_7 l0_7.length c0_7) := (blk_cell BK132.out 7).trans rfl; have hfz4_0 := blk_frozen BK132.out 0; have hfz4_1 := blk_frozen BK132.out 1; have hfz4_2 := blk_frozen BK132.out 2; have hfz4_3 := blk_frozen BK132.out 3; have hfz4_4 := blk_frozen BK132.out 4; have hfz4_5 := blk_frozen BK132.out 5; have hfz4_6 := blk_frozen BK132.out 6; have hfz4_7 := blk_frozen BK132.out 7))
    go_ret
    exact ⟨by first | rfl | (simp [errW_none, errW_some] <;> rfl) | (simp [*, errW_none, errW_some] <;> rfl), by repeat (first | (with_reducible first | exact HB.out | apply below_alloc | apply pw_below_drewN | apply below_drew1 | refine below_set ?_ GE132.out) | exact HB.out)⟩
  · rw [if_neg c2] at H
    have c2b0 : (a0_0 == 1) = false := beq_eq_false_iff_ne.mpr c2
    have c2b1 : (a0_0 != 1) = true := bne_iff_ne.mpr c2
    have H' := Aside0.mk H
    clear H
    go_enter Tryd.func10, Tryd.ntmps10
    go_wp2_with (first | ((with_reducible refine gate_dst (N := 1) rfl ?_); refine box_event ?hg (N := 1) ?hd (cs := #[.int .i64 a0_0, .int .i64 a0_1, .slice A0_2 l0_2.length c0_2, .int .i64 a0_3, .int .i64 a0_4, .int .i64 a0_5, .string a0_6, .slice A0_7 l0_7.length c0_7]) (t := 25) ?hr ?_; (case hd => rfl); (case hg => rfl); (case hr => first | (go_simp; done) | (go_simp; rfl)); intro gb132 hg w5 hbox hb; have n0_ := Aside0.mk (below_step (by repeat (first | (with_reducible first | exact HB.out | apply below_alloc | apply pw_below_drewN | apply below_drew1) | exact HB.out)) hb); have n1_ := Aside0.mk (hbox); have n2_ := Aside0.mk ((by rw [hg]; exact (below_size (by repeat (first | (with_reducible first | exact HB.out | apply below_alloc | apply pw_below_drewN | apply below_drew1) | exact HB.out))) : w.heap.size ≤ gb132)); have n3_ := Aside0.mk ((by rw [hg]; exact (below_size (by repeat (first | (with_reducible first | exact HB.out | apply below_alloc | apply pw_below_drewN | apply below_drew1) | exact HB.out))) : w.heap.size ≤ gb132)); clear HB; have HB := n0_; have BK132 := n1_; have GW132 := n2_; have GE132 := n3_; clear n0_ n1_ n2_ n3_; clear hb hbox hg; have hcz6_0 : w5.cell? ⟨gb132, 0, none⟩ = some (.int .i64 a0_0) := (blk_cell BK132.out 0).trans rfl; have hcz6_1 : w5.cell? ⟨gb132, 1, none⟩ = some (.int .i64 a0_1) := (blk_cell BK132.out 1).trans rfl; have hcz6_2 : w5.cell? ⟨gb132, 2, none⟩ = some (.slice A0_2 l0_2.length c0_2) := (blk_cell BK132.out 2).trans rfl; have hcz6_3 : w5.cell? ⟨gb132, 3, none⟩ = some (.int .i64 a0_3) := (blk_cell BK132.out 3).trans rfl; have hcz6_4 : w5.cell? ⟨gb132, 4, none⟩ = some (.int .i64 a0_4) := (blk_cell BK132.out 4).trans rfl; have hcz6_5 : w5.cell? ⟨gb132, 5, none⟩ = some (.int .i64 a0_5) := (blk_cell BK132.out 5).trans rfl; have hcz6_6 : w5.cell? ⟨gb132, 6, none⟩ = some (.string a0_6) := (blk_cell BK132.out 6).trans rfl; have hcz6_7 : w5.cell? ⟨gb132, 7, none⟩ = some (.slice A0_7 l0_7.length c0_7) := (blk_cell BK132.out 7).trans rfl; have hfz6_0 := blk_frozen BK132.out 0; have hfz6_1 := blk_frozen BK132.out 1; have hfz6_2 := blk_frozen BK132.out 2; have hfz6_3 := blk_frozen BK132.out 3; have hfz6_4 := blk_frozen BK132.out 4; have hfz6_5 := blk_frozen BK132.out 5; have hfz6_6 := blk_frozen BK132.out 6; have hfz6_7 := blk_frozen BK132.out 7))
    go_loopg [11] k (fun kq v11 w' => ∃ (x11_1 : Int), v11 = .int .i64 x11_1 ∧ Aside0 (spec_ReBarren.l0 kq l0_7 (l0_7.length : Int) x11_1 = some r) ∧ Aside0 (kq ≤ k) ∧ Aside0 (w'.heap[gb132]? = some (.cells #[.int .i64 a0_0, .int .i64 a0_1, (.slice A0_2 l0_2.length c0_2), .int .i64 a0_3, .int .i64 a0_4, .int .i64 a0_5, .string a0_6, (.slice A0_7 l0_7.length c0_7)] 25 (0, 0))) ∧ Aside0 (Below w.heap.size w w'))
    case atStart => exact ⟨(0), (by first | rfl | (simp; done) | (simp [*]; done)), H', ⟨Nat.le_refl _⟩, ⟨by (with_reducible repeat (first | refine blk_drewN ?_ _ | refine blk_drew ?_ | refine blk_alloc ?_ _)); exact BK132.out⟩, ⟨by repeat (first | (with_reducible first | exact HB.out | apply below_alloc | apply pw_below_drewN | apply below_drew1 | refine below_set ?_ GE132.out) | exact HB.out)⟩⟩
    case round =>
      clear H'
      try clear c1
      try clear c2
      try clear c2b0
      try clear c2b1
      try clear p2
      try clear hcz4_0
      try clear hcz4_1
      try clear hcz4_2
      try clear hcz4_3
      try clear hcz4_4
      try clear hcz4_5
      try clear hcz4_6
      try clear hcz4_7
      try clear hcz6_0
      try clear hcz6_1
      try clear hcz6_2
      try clear hcz6_3
      try clear hcz6_4
      try clear hcz6_5
      try clear hcz6_6
      try clear hcz6_7
      try clear hfz4_0
      try clear hfz4_1
      try clear hfz4_2
      try clear hfz4_3
      try clear hfz4_4
      try clear hfz4_5
      try clear hfz4_6
      try clear hfz4_7
      try clear hfz6_0
      try clear hfz6_1
      try clear hfz6_2
      try clear hfz6_3
      try clear hfz6_4
      try clear hfz6_5
      try clear hfz6_6
      try clear hfz6_7
      obtain ⟨x11_1, rfl, HA, HK1, BK132, HB⟩ := hrel
      cases gk with
      | zero => exact absurd HA.out (by simp [spec_ReBarren.l0])
      | succ k1 =>
        have H := HA.out
        clear HA
        simp only [spec_ReBarren.l0] at H
        by_cases c7 : x11_1 < (l0_7.length : Int)
        · rw [if_pos c7] at H
          have c7b0 : decide (x11_1 < (l0_7.length : Int)) = true := decide_eq_true c7
          clear c7
          by_cases c8 : 0 ≤ x11_1
          · rw [if_pos c8] at H
            have c8b0 : decide (0 ≤ x11_1) = true := decide_eq_true c8
            clear c8
            by_cases c9 : x11_1 < (l0_7.length : Int)
            · rw [if_pos c9] at H
              have c9b0 : decide (x11_1 < (l0_7.length : Int)) = true := decide_eq_true c9
              clear c9
              replace H := Option.bind_eq_some_iff.mp H
              obtain ⟨t135, A100, H⟩ := H
              replace H : (if t135 = true then (some true) else (spec_ReBarren.l0 k1 l0_7 (l0_7.length : Int) (wrap64 (x11_1 + 1)))) = some r := H
              have A10 := Aside0.mk A100
              clear A100
              by_cases c11 : t135 = true
              · subst c11
                have H1 : (some true) = some r := by rw [if_pos rfl] at H; exact H
                clear H
                have H := H1
                clear H1
                obtain rfl := Option.some.inj H
                have p133 : 0 ≤ (x11_1 : Int) := of_decide_eq_true (by first | (with_reducible assumption) | assumption)
                have q133 : x11_1 < (l0_7.length : Int) := of_decide_eq_true (by first | (with_reducible assumption) | assumption)
                obtain ⟨ad133, A133_2, c133_2, A133_7, c133_7, e133, hx133_0, hx133_1, hx133_2, hx133_3, hx133_4, hx133_5, hx133_6, hx133_7, hl133_2, hi133_2, hl133_7, hi133_7⟩ := at_T25 HR0_7.out x11_1 p133 q133
                cases e133
                replace hx133_0 := (HB.out.cell (World.block_lt_of_cell? w _ hx133_0)).trans hx133_0
                replace hx133_1 := (HB.out.cell (World.block_lt_of_cell? w _ hx133_1)).trans hx133_1
                replace hx133_2 := (HB.out.cell (World.block_lt_of_cell? w _ hx133_2)).trans hx133_2
                replace hx133_3 := (HB.out.cell (World.block_lt_of_cell? w _ hx133_3)).trans hx133_3
                replace hx133_4 := (HB.out.cell (World.block_lt_of_cell? w _ hx133_4)).trans hx133_4
                replace hx133_5 := (HB.out.cell (World.block_lt_of_cell? w _ hx133_5)).trans hx133_5
                replace hx133_6 := (HB.out.cell (World.block_lt_of_cell? w _ hx133_6)).trans hx133_6
                replace hx133_7 := (HB.out.cell (World.block_lt_of_cell? w _ hx133_7)).trans hx133_7
                have HR133_2 := Aside0.mk hi133_2
                have HC133_2 := Aside0.mk hl133_2
                clear hi133_2 hl133_2
                have HR133_7 := Aside0.mk hi133_7
                have HC133_7 := Aside0.mk hl133_7
                clear hi133_7 hl133_7
                replace p133 := eq_true p133
                replace q133 := eq_true q133
                go_wp2_with (first | ((with_reducible refine gate_dst (N := 4) rfl ?_); refine box_event ?hg (N := 4) ?hd (cs := #[.int .i64 0, .int .i64 0, .slice none 0 0, .int .i64 0, .int .i64 0, .int .i64 0, .string (⟨#[]⟩ : ByteArray), .slice none 0 0]) (t := 25) ?hr ?_; (case hd => rfl); (case hg => rfl); (case hr => first | (go_simp; done) | (go_simp; rfl)); intro gb134 hg w12 hbox hb; have n0_ := Aside0.mk (blk_below (g := gb132) (o := .cells #[.int .i64 a0_0, .int .i64 a0_1, .slice A0_2 l0_2.length c0_2, .int .i64 a0_3, .int .i64 a0_4, .int .i64 a0_5, .string a0_6, .slice (some ad133) l0_7.length c0_7] 25 (0, 0)) (by (with_reducible repeat (first | refine blk_drewN ?_ _ | refine blk_drew ?_ | refine blk_alloc ?_ _)); exact BK132.out) hb); have n1_ := Aside0.mk (below_step (by repeat (first | (with_reducible first | exact HB.out | apply below_alloc | apply pw_below_drewN | apply below_drew1 | refine below_set ?_ GE132.out) | exact HB.out)) hb); have n2_ := Aside0.mk (hbox); have n3_ := Aside0.mk ((by rw [hg]; exact (below_size (by repeat (first | (with_reducible first | exact HB.out | apply below_alloc | apply pw_below_drewN | apply below_drew1 | refine below_set ?_ GE132.out) | exact HB.out))) : w.heap.size ≤ gb134)); have n4_ := Aside0.mk ((by rw [hg]; exact (below_size (by repeat (first | (with_reducible first | exact HB.out | apply below_alloc | apply pw_below_drewN | apply below_drew1 | refine below_set ?_ GE132.out) | exact HB.out))) : w.heap.size ≤ gb134)); have n5_ := Aside0.mk ((by rw [hg]; exact Nat.ne_of_lt (blk_lt (g := gb132) (o := .cells #[.int .i64 a0_0, .int .i64 a0_1, .slice A0_2 l0_2.length c0_2, .int .i64 a0_3, .int .i64 a0_4, .int .i64 a0_5, .string a0_6, .slice (some ad133) l0_7.length c0_7] 25 (0, 0)) (by (with_reducible repeat (first | refine blk_drewN ?_ _ | refine blk_drew ?_ | refine blk_alloc ?_ _)); exact BK132.out)) : gb132 ≠ gb134)); have n6_ := Aside0.mk ((by rw [hg]; exact Nat.ne_of_gt (blk_lt (g := gb132) (o := .cells #[.int .i64 a0_0, .int .i64 a0_1, .slice A0_2 l0_2.length c0_2, .int .i64 a0_3, .int .i64 a0_4, .int .i64 a0_5, .string a0_6, .slice (some ad133) l0_7.length c0_7] 25 (0, 0)) (by (with_reducible repeat (first | refine blk_drewN ?_ _ | refine blk_drew ?_ | refine blk_alloc ?_ _)); exact BK132.out)) : gb134 ≠ gb132)); clear BK132; clear HB; have BK132 := n0_; have HB := n1_; have BK134 := n2_; have GW134 := n3_; have GE134 := n4_; have NB132_134 := n5_; have NB134_132 := n6_; clear n0_ n1_ n2_ n3_ n4_ n5_ n6_; clear hb hbox hg; have hnb13 := NB134_132.out; have hnc13 := NB132_134.out; have hcz14_0 : w12.cell? ⟨gb134, 0, none⟩ = some (.int .i64 0) := (blk_cell BK134.out 0).trans rfl; have hcz14_1 : w12.cell? ⟨gb134, 1, none⟩ = some (.int .i64 0) := (blk_cell BK134.out 1).trans rfl; have hcz14_2 : w12.cell? ⟨gb134, 2, none⟩ = some (.slice none 0 0) := (blk_cell BK134.out 2).trans rfl; have hcz14_3 : w12.cell? ⟨gb134, 3, none⟩ = some (.int .i64 0) := (blk_cell BK134.out 3).trans rfl; have hcz14_4 : w12.cell? ⟨gb134, 4, none⟩ = some (.int .i64 0) := (blk_cell BK134.out 4).trans rfl; have hcz14_5 : w12.cell? ⟨gb134, 5, none⟩ = some (.int .i64 0) := (blk_cell BK134.out 5).trans rfl; have hcz14_6 : w12.cell? ⟨gb134, 6, none⟩ = some (.string (⟨#[]⟩ : ByteArray)) := (blk_cell BK134.out 6).trans rfl; have hcz14_7 : w12.cell? ⟨gb134, 7, none⟩ = some (.slice none 0 0) := (blk_cell BK134.out 7).trans rfl; have hfz14_0 := blk_frozen BK134.out 0; have hfz14_1 := blk_frozen BK134.out 1; have hfz14_2 := blk_frozen BK134.out 2; have hfz14_3 := blk_frozen BK134.out 3; have hfz14_4 := blk_frozen BK134.out 4; have hfz14_5 := blk_frozen BK134.out 5; have hfz14_6 := blk_frozen BK134.out 6; have hfz14_7 := blk_frozen BK134.out 7) | ((with_reducible refine gate_callee (f := 10) rfl ?_); refine goesL_ (some 16) rfl rfl Tryd.func10 (by kernel_rfl) rfl #[.agg #[.int .i64 ((rd_T25 l0_7 x11_1).f0), .int .i64 ((rd_T25 l0_7 x11_1).f1), .slice A133_2 ((rd_T25 l0_7 x11_1).f2).length c133_2, .int .i64 ((rd_T25 l0_7 x11_1).f3), .int .i64 ((rd_T25 l0_7 x11_1).f4), .int .i64 ((rd_T25 l0_7 x11_1).f5), .string ((rd_T25 l0_7 x11_1).f6), .slice A133_7 ((rd_T25 l0_7 x11_1).f7).length c133_7]] rfl (by (try simp only [List.map_toArray, List.map_cons, List.map_nil]); first | done | rfl | (simp only [List.length_drop, List.length_take]; rfl)) ?_; (with_reducible refine (ih k1 (by have := HK1.out; omega) ((rd_T25 l0_7 x11_1).f0) ((rd_T25 l0_7 x11_1).f1) _ _ ((rd_T25 l0_7 x11_1).f2) ((rd_T25 l0_7 x11_1).f3) ((rd_T25 l0_7 x11_1).f4) ((rd_T25 l0_7 x11_1).f5) ((rd_T25 l0_7 x11_1).f6) _ _ ((rd_T25 l0_7 x11_1).f7) true _ ?side1 ?side2 ?side3 ?side4 A10.out).mono ?_); (case side1 => exact Kd.C_below HR133_2.out (by repeat (first | (with_reducible first | exact HB.out | apply below_alloc | apply pw_below_drewN | apply below_drew1 | refine below_set ?_ GE132.out | refine below_set ?_ GE134.out) | exact HB.out))); (case side2 => exact HC133_2.out); (case side3 => exact Kd.C_below HR133_7.out (by repeat (first | (with_reducible first | exact HB.out | apply below_alloc | apply pw_below_drewN | apply below_drew1 | refine below_set ?_ GE132.out | refine below_set ?_ GE134.out) | exact HB.out))); (case side4 => exact HC133_7.out); rintro e w15 ⟨rfl, hb⟩; refine ⟨_, rfl, ?_⟩; have n0_ := Aside0.mk (blk_below (g := gb132) (o := .cells #[.int .i64 a0_0, .int .i64 a0_1, .slice A0_2 l0_2.length c0_2, .int .i64 a0_3, .int .i64 a0_4, .int .i64 a0_5, .string a0_6, .slice (some ad133) l0_7.length c0_7] 25 (0, 0)) (by (with_reducible repeat (first | refine blk_drewN ?_ _ | refine blk_drew ?_ | refine blk_alloc ?_ _)); refine blk_far ?_ NB132_134.out _; (with_reducible repeat (first | refine blk_drewN ?_ _ | refine blk_drew ?_ | refine blk_alloc ?_ _)); refine blk_far ?_ NB132_134.out _; (with_reducible repeat (first | refine blk_drewN ?_ _ | refine blk_drew ?_ | refine blk_alloc ?_ _)); refine blk_far ?_ NB132_134.out _; (with_reducible repeat (first | refine blk_drewN ?_ _ | refine blk_drew ?_ | refine blk_alloc ?_ _)); refine blk_far ?_ NB132_134.out _; (with_reducible repeat (first | refine blk_drewN ?_ _ | refine blk_drew ?_ | refine blk_alloc ?_ _)); refine blk_far ?_ NB132_134.out _; (with_reducible repeat (first | refine blk_drewN ?_ _ | refine blk_drew ?_ | refine blk_alloc ?_ _)); refine blk_far ?_ NB132_134.out _; (with_reducible repeat (first | refine blk_drewN ?_ _ | refine blk_drew ?_ | refine blk_alloc ?_ _)); refine blk_far ?_ NB132_134.out _; (with_reducible repeat (first | refine blk_drewN ?_ _ | refine blk_drew ?_ | refine blk_alloc ?_ _)); refine blk_far ?_ NB132_134.out _; (with_reducible repeat (first | refine blk_drewN ?_ _ | refine blk_drew ?_ | refine blk_alloc ?_ _)); exact BK132.out) hb); have n1_ := Aside0.mk (blk_below (g := gb134) (o := .cells #[.int .i64 ((rd_T25 l0_7 x11_1).f0), .int .i64 ((rd_T25 l0_7 x11_1).f1), .slice A133_2 ((rd_T25 l0_7 x11_1).f2).length c133_2, .int .i64 ((rd_T25 l0_7 x11_1).f3), .int .i64 ((rd_T25 l0_7 x11_1).f4), .int .i64 ((rd_T25 l0_7 x11_1).f5), .string ((rd_T25 l0_7 x11_1).f6), .slice A133_7 ((rd_T25 l0_7 x11_1).f7).length c133_7] 25 (0, 0)) (by (with_reducible repeat (first | refine blk_drewN ?_ _ | refine blk_drew ?_ | refine blk_alloc ?_ _)); refine blk_put (cs := #[.int .i64 ((rd_T25 l0_7 x11_1).f0), .int .i64 ((rd_T25 l0_7 x11_1).f1), .slice A133_2 ((rd_T25 l0_7 x11_1).f2).length c133_2, .int .i64 ((rd_T25 l0_7 x11_1).f3), .int .i64 ((rd_T25 l0_7 x11_1).f4), .int .i64 ((rd_T25 l0_7 x11_1).f5), .string ((rd_T25 l0_7 x11_1).f6), .slice none 0 0]) ?_ 7 _ rfl; (with_reducible repeat (first | refine blk_drewN ?_ _ | refine blk_drew ?_ | refine blk_alloc ?_ _)); refine blk_put (cs := #[.int .i64 ((rd_T25 l0_7 x11_1).f0), .int .i64 ((rd_T25 l0_7 x11_1).f1), .slice A133_2 ((rd_T25 l0_7 x11_1).f2).length c133_2, .int .i64 ((rd_T25 l0_7 x11_1).f3), .int .i64 ((rd_T25 l0_7 x11_1).f4), .int .i64 ((rd_T25 l0_7 x11_1).f5), .string (⟨#[]⟩ : ByteArray), .slice none 0 0]) ?_ 6 _ rfl; (with_reducible repeat (first | refine blk_drewN ?_ _ | refine blk_drew ?_ | refine blk_alloc ?_ _)); refine blk_put (cs := #[.int .i64 ((rd_T25 l0_7 x11_1).f0), .int .i64 ((rd_T25 l0_7 x11_1).f1), .slice A133_2 ((rd_T25 l0_7 x11_1).f2).length c133_2, .int .i64 ((rd_T25 l0_7 x11_1).f3), .int .i64 ((rd_T25 l0_7 x11_1).f4), .int .i64 0, .string (⟨#[]⟩ : ByteArray), .slice none 0 0]) ?_ 5 _ rfl; (with_reducible repeat (first | refine blk_drewN ?_ _ | refine blk_drew ?_ | refine blk_alloc ?_ _)); refine blk_put (cs := #[.int .i64 ((rd_T25 l0_7 x11_1).f0), .int .i64 ((rd_T25 l0_7 x11_1).f1), .slice A133_2 ((rd_T25 l0_7 x11_1).f2).length c133_2, .int .i64 ((rd_T25 l0_7 x11_1).f3), .int .i64 0, .int .i64 0, .string (⟨#[]⟩ : ByteArray), .slice none 0 0]) ?_ 4 _ rfl; (with_reducible repeat (first | refine blk_drewN ?_ _ | refine blk_drew ?_ | refine blk_alloc ?_ _)); refine blk_put (cs := #[.int .i64 ((rd_T25 l0_7 x11_1).f0), .int .i64 ((rd_T25 l0_7 x11_1).f1), .slice A133_2 ((rd_T25 l0_7 x11_1).f2).length c133_2, .int .i64 0, .int .i64 0, .int .i64 0, .string (⟨#[]⟩ : ByteArray), .slice none 0 0]) ?_ 3 _ rfl; (with_reducible repeat (first | refine blk_drewN ?_ _ | refine blk_drew ?_ | refine blk_alloc ?_ _)); refine blk_put (cs := #[.int .i64 ((rd_T25 l0_7 x11_1).f0), .int .i64 ((rd_T25 l0_7 x11_1).f1), .slice none 0 0, .int .i64 0, .int .i64 0, .int .i64 0, .string (⟨#[]⟩ : ByteArray), .slice none 0 0]) ?_ 2 _ rfl; (with_reducible repeat (first | refine blk_drewN ?_ _ | refine blk_drew ?_ | refine blk_alloc ?_ _)); refine blk_put (cs := #[.int .i64 ((rd_T25 l0_7 x11_1).f0), .int .i64 0, .slice none 0 0, .int .i64 0, .int .i64 0, .int .i64 0, .string (⟨#[]⟩ : ByteArray), .slice none 0 0]) ?_ 1 _ rfl; (with_reducible repeat (first | refine blk_drewN ?_ _ | refine blk_drew ?_ | refine blk_alloc ?_ _)); refine blk_put (cs := #[.int .i64 0, .int .i64 0, .slice none 0 0, .int .i64 0, .int .i64 0, .int .i64 0, .string (⟨#[]⟩ : ByteArray), .slice none 0 0]) ?_ 0 _ rfl; (with_reducible repeat (first | refine blk_drewN ?_ _ | refine blk_drew ?_ | refine blk_alloc ?_ _)); exact BK134.out) hb); have n2_ := Aside0.mk (below_step (by repeat (first | (with_reducible first | exact HB.out | apply below_alloc | apply pw_below_drewN | apply below_drew1 | refine below_set ?_ GE132.out | refine below_set ?_ GE134.out) | exact HB.out)) hb); clear BK132; clear BK134; clear HB; have BK132 := n0_; have BK134 := n1_; have HB := n2_; clear n0_ n1_ n2_; (try clear hb); (try clear hb2); (try clear hk); (try clear hi)))
                go_ret
                exact ⟨by first | rfl | (simp [errW_none, errW_some] <;> rfl) | (simp [*, errW_none, errW_some] <;> rfl), by repeat (first | (with_reducible first | exact HB.out | apply below_alloc | apply pw_below_drewN | apply below_drew1 | refine below_set ?_ GE132.out | refine below_set ?_ GE134.out) | exact HB.out)⟩
              · replace c11 := Bool.eq_false_iff.mpr c11
                subst c11
                have H1 : (spec_ReBarren.l0 k1 l0_7 (l0_7.length : Int) (wrap64 (x11_1 + 1))) = some r := by rw [if_neg (show ¬ (false = true) by decide)] at H; exact H
                clear H
                have H := H1
                clear H1
                have H' := Aside0.mk H
                clear H
                have p133 : 0 ≤ (x11_1 : Int) := of_decide_eq_true (by first | (with_reducible assumption) | assumption)
                have q133 : x11_1 < (l0_7.length : Int) := of_decide_eq_true (by first | (with_reducible assumption) | assumption)
                obtain ⟨ad133, A133_2, c133_2, A133_7, c133_7, e133, hx133_0, hx133_1, hx133_2, hx133_3, hx133_4, hx133_5, hx133_6, hx133_7, hl133_2, hi133_2, hl133_7, hi133_7⟩ := at_T25 HR0_7.out x11_1 p133 q133
                cases e133
                replace hx133_0 := (HB.out.cell (World.block_lt_of_cell? w _ hx133_0)).trans hx133_0
                replace hx133_1 := (HB.out.cell (World.block_lt_of_cell? w _ hx133_1)).trans hx133_1
                replace hx133_2 := (HB.out.cell (World.block_lt_of_cell? w _ hx133_2)).trans hx133_2
                replace hx133_3 := (HB.out.cell (World.block_lt_of_cell? w _ hx133_3)).trans hx133_3
                replace hx133_4 := (HB.out.cell (World.block_lt_of_cell? w _ hx133_4)).trans hx133_4
                replace hx133_5 := (HB.out.cell (World.block_lt_of_cell? w _ hx133_5)).trans hx133_5
                replace hx133_6 := (HB.out.cell (World.block_lt_of_cell? w _ hx133_6)).trans hx133_6
                replace hx133_7 := (HB.out.cell (World.block_lt_of_cell? w _ hx133_7)).trans hx133_7
                have HR133_2 := Aside0.mk hi133_2
                have HC133_2 := Aside0.mk hl133_2
                clear hi133_2 hl133_2
                have HR133_7 := Aside0.mk hi133_7
                have HC133_7 := Aside0.mk hl133_7
                clear hi133_7 hl133_7
                replace p133 := eq_true p133
                replace q133 := eq_true q133
                go_wp2_with (first | ((with_reducible refine gate_dst (N := 4) rfl ?_); refine box_event ?hg (N := 4) ?hd (cs := #[.int .i64 0, .int .i64 0, .slice none 0 0, .int .i64 0, .int .i64 0, .int .i64 0, .string (⟨#[]⟩ : ByteArray), .slice none 0 0]) (t := 25) ?hr ?_; (case hd => rfl); (case hg => rfl); (case hr => first | (go_simp; done) | (go_simp; rfl)); intro gb134 hg w16 hbox hb; have n0_ := Aside0.mk (blk_below (g := gb132) (o := .cells #[.int .i64 a0_0, .int .i64 a0_1, .slice A0_2 l0_2.length c0_2, .int .i64 a0_3, .int .i64 a0_4, .int .i64 a0_5, .string a0_6, .slice (some ad133) l0_7.length c0_7] 25 (0, 0)) (by (with_reducible repeat (first | refine blk_drewN ?_ _ | refine blk_drew ?_ | refine blk_alloc ?_ _)); exact BK132.out) hb); have n1_ := Aside0.mk (below_step (by repeat (first | (with_reducible first | exact HB.out | apply below_alloc | apply pw_below_drewN | apply below_drew1 | refine below_set ?_ GE132.out) | exact HB.out)) hb); have n2_ := Aside0.mk (hbox); have n3_ := Aside0.mk ((by rw [hg]; exact (below_size (by repeat (first | (with_reducible first | exact HB.out | apply below_alloc | apply pw_below_drewN | apply below_drew1 | refine below_set ?_ GE132.out) | exact HB.out))) : w.heap.size ≤ gb134)); have n4_ := Aside0.mk ((by rw [hg]; exact (below_size (by repeat (first | (with_reducible first | exact HB.out | apply below_alloc | apply pw_below_drewN | apply below_drew1 | refine below_set ?_ GE132.out) | exact HB.out))) : w.heap.size ≤ gb134)); have n5_ := Aside0.mk ((by rw [hg]; exact Nat.ne_of_lt (blk_lt (g := gb132) (o := .cells #[.int .i64 a0_0, .int .i64 a0_1, .slice A0_2 l0_2.length c0_2, .int .i64 a0_3, .int .i64 a0_4, .int .i64 a0_5, .string a0_6, .slice (some ad133) l0_7.length c0_7] 25 (0, 0)) (by (with_reducible repeat (first | refine blk_drewN ?_ _ | refine blk_drew ?_ | refine blk_alloc ?_ _)); exact BK132.out)) : gb132 ≠ gb134)); have n6_ := Aside0.mk ((by rw [hg]; exact Nat.ne_of_gt (blk_lt (g := gb132) (o := .cells #[.int .i64 a0_0, .int .i64 a0_1, .slice A0_2 l0_2.length c0_2, .int .i64 a0_3, .int .i64 a0_4, .int .i64 a0_5, .string a0_6, .slice (some ad133) l0_7.length c0_7] 25 (0, 0)) (by (with_reducible repeat (first | refine blk_drewN ?_ _ | refine blk_drew ?_ | refine blk_alloc ?_ _)); exact BK132.out)) : gb134 ≠ gb132)); clear BK132; clear HB; have BK132 := n0_; have HB := n1_; have BK134 := n2_; have GW134 := n3_; have GE134 := n4_; have NB132_134 := n5_; have NB134_132 := n6_; clear n0_ n1_ n2_ n3_ n4_ n5_ n6_; clear hb hbox hg; have hnb17 := NB134_132.out; have hnc17 := NB132_134.out; have hcz18_0 : w16.cell? ⟨gb134, 0, none⟩ = some (.int .i64 0) := (blk_cell BK134.out 0).trans rfl; have hcz18_1 : w16.cell? ⟨gb134, 1, none⟩ = some (.int .i64 0) := (blk_cell BK134.out 1).trans rfl; have hcz18_2 : w16.cell? ⟨gb134, 2, none⟩ = some (.slice none 0 0) := (blk_cell BK134.out 2).trans rfl; have hcz18_3 : w16.cell? ⟨gb134, 3, none⟩ = some (.int .i64 0) := (blk_cell BK134.out 3).trans rfl; have hcz18_4 : w16.cell? ⟨gb134, 4, none⟩ = some (.int .i64 0) := (blk_cell BK134.out 4).trans rfl; have hcz18_5 : w16.cell? ⟨gb134, 5, none⟩ = some (.int .i64 0) := (blk_cell BK134.out 5).trans rfl; have hcz18_6 : w16.cell? ⟨gb134, 6, none⟩ = some (.string (⟨#[]⟩ : ByteArray)) := (blk_cell BK134.out 6).trans rfl; have hcz18_7 : w16.cell? ⟨gb134, 7, none⟩ = some (.slice none 0 0) := (blk_cell BK134.out 7).trans rfl; have hfz18_0 := blk_frozen BK134.out 0; have hfz18_1 := blk_frozen BK134.out 1; have hfz18_2 := blk_frozen BK134.out 2; have hfz18_3 := blk_frozen BK134.out 3; have hfz18_4 := blk_frozen BK134.out 4; have hfz18_5 := blk_frozen BK134.out 5; have hfz18_6 := blk_frozen BK134.out 6; have hfz18_7 := blk_frozen BK134.out 7) | ((with_reducible refine gate_callee (f := 10) rfl ?_); refine goesL_ (some 16) rfl rfl Tryd.func10 (by kernel_rfl) rfl #[.agg #[.int .i64 ((rd_T25 l0_7 x11_1).f0), .int .i64 ((rd_T25 l0_7 x11_1).f1), .slice A133_2 ((rd_T25 l0_7 x11_1).f2).length c133_2, .int .i64 ((rd_T25 l0_7 x11_1).f3), .int .i64 ((rd_T25 l0_7 x11_1).f4), .int .i64 ((rd_T25 l0_7 x11_1).f5), .string ((rd_T25 l0_7 x11_1).f6), .slice A133_7 ((rd_T25 l0_7 x11_1).f7).length c133_7]] rfl (by (try simp only [List.map_toArray, List.map_cons, List.map_nil]); first | done | rfl | (simp only [List.length_drop, List.length_take]; rfl)) ?_; (with_reducible refine (ih k1 (by have := HK1.out; omega) ((rd_T25 l0_7 x11_1).f0) ((rd_T25 l0_7 x11_1).f1) _ _ ((rd_T25 l0_7 x11_1).f2) ((rd_T25 l0_7 x11_1).f3) ((rd_T25 l0_7 x11_1).f4) ((rd_T25 l0_7 x11_1).f5) ((rd_T25 l0_7 x11_1).f6) _ _ ((rd_T25 l0_7 x11_1).f7) false _ ?side1 ?side2 ?side3 ?side4 A10.out).mono ?_); (case side1 => exact Kd.C_below HR133_2.out (by repeat (first | (with_reducible first | exact HB.out | apply below_alloc | apply pw_below_drewN | apply below_drew1 | refine below_set ?_ GE132.out | refine below_set ?_ GE134.out) | exact HB.out))); (case side2 => exact HC133_2.out); (case side3 => exact Kd.C_below HR133_7.out (by repeat (first | (with_reducible first | exact HB.out | apply below_alloc | apply pw_below_drewN | apply below_drew1 | refine below_set ?_ GE132.out | refine below_set ?_ GE134.out) | exact HB.out))); (case side4 => exact HC133_7.out); rintro e w19 ⟨rfl, hb⟩; refine ⟨_, rfl, ?_⟩; have n0_ := Aside0.mk (blk_below (g := gb132) (o := .cells #[.int .i64 a0_0, .int .i64 a0_1, .slice A0_2 l0_2.length c0_2, .int .i64 a0_3, .int .i64 a0_4, .int .i64 a0_5, .string a0_6, .slice (some ad133) l0_7.length c0_7] 25 (0, 0)) (by (with_reducible repeat (first | refine blk_drewN ?_ _ | refine blk_drew ?_ | refine blk_alloc ?_ _)); refine blk_far ?_ NB132_134.out _; (with_reducible repeat (first | refine blk_drewN ?_ _ | refine blk_drew ?_ | refine blk_alloc ?_ _)); refine blk_far ?_ NB132_134.out _; (with_reducible repeat (first | refine blk_drewN ?_ _ | refine blk_drew ?_ | refine blk_alloc ?_ _)); refine blk_far ?_ NB132_134.out _; (with_reducible repeat (first | refine blk_drewN ?_ _ | refine blk_drew ?_ | refine blk_alloc ?_ _)); refine blk_far ?_ NB132_134.out _; (with_reducible repeat (first | refine blk_drewN ?_ _ | refine blk_drew ?_ | refine blk_alloc ?_ _)); refine blk_far ?_ NB132_134.out _; (with_reducible repeat (first | refine blk_drewN ?_ _ | refine blk_drew ?_ | refine blk_alloc ?_ _)); refine blk_far ?_ NB132_134.out _; (with_reducible repeat (first | refine blk_drewN ?_ _ | refine blk_drew ?_ | refine blk_alloc ?_ _)); refine blk_far ?_ NB132_134.out _; (with_reducible repeat (first | refine blk_drewN ?_ _ | refine blk_drew ?_ | refine blk_alloc ?_ _)); refine blk_far ?_ NB132_134.out _; (with_reducible repeat (first | refine blk_drewN ?_ _ | refine blk_drew ?_ | refine blk_alloc ?_ _)); exact BK132.out) hb); have n1_ := Aside0.mk (blk_below (g := gb134) (o := .cells #[.int .i64 ((rd_T25 l0_7 x11_1).f0), .int .i64 ((rd_T25 l0_7 x11_1).f1), .slice A133_2 ((rd_T25 l0_7 x11_1).f2).length c133_2, .int .i64 ((rd_T25 l0_7 x11_1).f3), .int .i64 ((rd_T25 l0_7 x11_1).f4), .int .i64 ((rd_T25 l0_7 x11_1).f5), .string ((rd_T25 l0_7 x11_1).f6), .slice A133_7 ((rd_T25 l0_7 x11_1).f7).length c133_7] 25 (0, 0)) (by (with_reducible repeat (first | refine blk_drewN ?_ _ | refine blk_drew ?_ | refine blk_alloc ?_ _)); refine blk_put (cs := #[.int .i64 ((rd_T25 l0_7 x11_1).f0), .int .i64 ((rd_T25 l0_7 x11_1).f1), .slice A133_2 ((rd_T25 l0_7 x11_1).f2).length c133_2, .int .i64 ((rd_T25 l0_7 x11_1).f3), .int .i64 ((rd_T25 l0_7 x11_1).f4), .int .i64 ((rd_T25 l0_7 x11_1).f5), .string ((rd_T25 l0_7 x11_1).f6), .slice none 0 0]) ?_ 7 _ rfl; (with_reducible repeat (first | refine blk_drewN ?_ _ | refine blk_drew ?_ | refine blk_alloc ?_ _)); refine blk_put (cs := #[.int .i64 ((rd_T25 l0_7 x11_1).f0), .int .i64 ((rd_T25 l0_7 x11_1).f1), .slice A133_2 ((rd_T25 l0_7 x11_1).f2).length c133_2, .int .i64 ((rd_T25 l0_7 x11_1).f3), .int .i64 ((rd_T25 l0_7 x11_1).f4), .int .i64 ((rd_T25 l0_7 x11_1).f5), .string (⟨#[]⟩ : ByteArray), .slice none 0 0]) ?_ 6 _ rfl; (with_reducible repeat (first | refine blk_drewN ?_ _ | refine blk_drew ?_ | refine blk_alloc ?_ _)); refine blk_put (cs := #[.int .i64 ((rd_T25 l0_7 x11_1).f0), .int .i64 ((rd_T25 l0_7 x11_1).f1), .slice A133_2 ((rd_T25 l0_7 x11_1).f2).length c133_2, .int .i64 ((rd_T25 l0_7 x11_1).f3), .int .i64 ((rd_T25 l0_7 x11_1).f4), .int .i64 0, .string (⟨#[]⟩ : ByteArray), .slice none 0 0]) ?_ 5 _ rfl; (with_reducible repeat (first | refine blk_drewN ?_ _ | refine blk_drew ?_ | refine blk_alloc ?_ _)); refine blk_put (cs := #[.int .i64 ((rd_T25 l0_7 x11_1).f0), .int .i64 ((rd_T25 l0_7 x11_1).f1), .slice A133_2 ((rd_T25 l0_7 x11_1).f2).length c133_2, .int .i64 ((rd_T25 l0_7 x11_1).f3), .int .i64 0, .int .i64 0, .string (⟨#[]⟩ : ByteArray), .slice none 0 0]) ?_ 4 _ rfl; (with_reducible repeat (first | refine blk_drewN ?_ _ | refine blk_drew ?_ | refine blk_alloc ?_ _)); refine blk_put (cs := #[.int .i64 ((rd_T25 l0_7 x11_1).f0), .int .i64 ((rd_T25 l0_7 x11_1).f1), .slice A133_2 ((rd_T25 l0_7 x11_1).f2).length c133_2, .int .i64 0, .int .i64 0, .int .i64 0, .string (⟨#[]⟩ : ByteArray), .slice none 0 0]) ?_ 3 _ rfl; (with_reducible repeat (first | refine blk_drewN ?_ _ | refine blk_drew ?_ | refine blk_alloc ?_ _)); refine blk_put (cs := #[.int .i64 ((rd_T25 l0_7 x11_1).f0), .int .i64 ((rd_T25 l0_7 x11_1).f1), .slice none 0 0, .int .i64 0, .int .i64 0, .int .i64 0, .string (⟨#[]⟩ : ByteArray), .slice none 0 0]) ?_ 2 _ rfl; (with_reducible repeat (first | refine blk_drewN ?_ _ | refine blk_drew ?_ | refine blk_alloc ?_ _)); refine blk_put (cs := #[.int .i64 ((rd_T25 l0_7 x11_1).f0), .int .i64 0, .slice none 0 0, .int .i64 0, .int .i64 0, .int .i64 0, .string (⟨#[]⟩ : ByteArray), .slice none 0 0]) ?_ 1 _ rfl; (with_reducible repeat (first | refine blk_drewN ?_ _ | refine blk_drew ?_ | refine blk_alloc ?_ _)); refine blk_put (cs := #[.int .i64 0, .int .i64 0, .slice none 0 0, .int .i64 0, .int .i64 0, .int .i64 0, .string (⟨#[]⟩ : ByteArray), .slice none 0 0]) ?_ 0 _ rfl; (with_reducible repeat (first | refine blk_drewN ?_ _ | refine blk_drew ?_ | refine blk_alloc ?_ _)); exact BK134.out) hb); have n2_ := Aside0.mk (below_step (by repeat (first | (with_reducible first | exact HB.out | apply below_alloc | apply pw_below_drewN | apply below_drew1 | refine below_set ?_ GE132.out | refine below_set ?_ GE134.out) | exact HB.out)) hb); clear BK132; clear BK134; clear HB; have BK132 := n0_; have BK134 := n1_; have HB := n2_; clear n0_ n1_ n2_; (try clear hb); (try clear hb2); (try clear hk); (try clear hi)))
                go_roundg k1
                case measure => have := HK1.out; omega
                case rel => exact ⟨(wrap64 (x11_1 + 1)), (by first | rfl | (simp; done) | (simp [*]; done)), H', ⟨by have := HK1.out; omega⟩, ⟨by (with_reducible repeat (first | refine blk_drewN ?_ _ | refine blk_drew ?_ | refine blk_alloc ?_ _)); exact BK132.out⟩, ⟨by repeat (first | (with_reducible first | exact HB.out | apply below_alloc | apply pw_below_drewN | apply below_drew1 | refine below_set ?_ GE132.out | refine below_set ?_ GE134.out) | exact HB.out)⟩⟩
            · rw [if_neg c9] at H
              exact absurd H (by simp)
          · rw [if_neg c8] at H
            exact absurd H (by simp)
        · rw [if_neg c7] at H
          have c7b0 : decide (x11_1 < (l0_7.length : Int)) = false := decide_eq_false c7
          clear c7
          obtain rfl := Option.some.inj H
          go_wp2
          go_ret
          exact ⟨by first | rfl | (simp [errW_none, errW_some] <;> rfl) | (simp [*, errW_none, errW_some] <;> rfl), by repeat (first | (with_reducible first | exact HB.out | apply below_alloc | apply pw_below_drewN | apply below_drew1 | refine below_set ?_ GE132.out) | exact HB.out)⟩

-- NOT PRINTED: function 5 (laws_mtFine)

/-! ### impl_characters: function 40 -/
def impl_characters.l0 : Nat → List Int → Int → Int → Option (Bool)
  | 0, _, _, _ => none
  | k + 1, x5, x6, x7 => if x7 < x6 then (if 0 ≤ x7 then (if x7 < (x5.length : Int) then (if (rd x5 x7) < 0 then (some false) else (if (rd x5 x7) > 1114111 then (some false) else (impl_characters.l0 k x5 x6 (wrap64 (x7 + 1))))) else (none)) else (none)) else (some true)
def impl_characters.f (k : Nat) (l0 : List Int) : Option (Bool) := impl_characters.l0 k l0 (l0.length : Int) 0
theorem impl_characters.mono_l : ∀ k, (∀ y0 y1 y2, LeO (impl_characters.l0 k y0 y1 y2) (impl_characters.l0 (k + 1) y0 y1 y2))
  | 0 => fun _ _ _ r h => by simp [impl_characters.l0] at h
  | k + 1 => by
    have ih0 := impl_characters.mono_l k
    · intro y0 y1 y2
      unfold impl_characters.l0
      repeat' first
      | (with_reducible exact ih0 _ _ _)
      | (with_reducible exact LeO.refl _)
      | (with_reducible exact LeO.none _)
      | (with_reducible refine LeO.ite ?_ ?_)
      | (with_reducible refine LeO.bind ?_ (fun _ => ?_))
      | exact ih0 _ _ _
      | exact LeO.none _
      | refine LeO.ite ?_ ?_
      | refine LeO.bind ?_ (fun _ => ?_)
theorem impl_characters.mono : ∀ a0 k, LeO (impl_characters.f k a0) (impl_characters.f (k + 1) a0) := by
  intro a0 k
  have ih0 := impl_characters.mono_l k
  unfold impl_characters.f
  repeat' first
      | (with_reducible exact ih0 _ _ _)
      | (with_reducible exact LeO.refl _)
      | (with_reducible exact LeO.none _)
      | (with_reducible refine LeO.ite ?_ ?_)
      | (with_reducible refine LeO.bind ?_ (fun _ => ?_))
      | exact ih0 _ _ _
      | exact LeO.none _
      | refine LeO.ite ?_ ?_
      | refine LeO.bind ?_ (fun _ => ?_)
set_option maxHeartbeats 8000000 in
set_option maxRecDepth 100000 in
theorem impl_characters.calls (k : Nat) (A0 : Option Addr) (c0 : Nat) (l0 : List Int) (r : Bool) (w : World) (hr0 : Kd.C (Kd.int .i32) w A0 l0.length l0) (hc0 : l0.length ≤ c0) (h : impl_characters.f k l0 = some r) :
    Calls Tryd.prog 40 #[.slice A0 l0.length c0] w fun e w' => e = .returned (.bool r) ∧ Drawn0 w w' := by
  have HR0 := Aside0.mk hr0
  have HC0 := Aside0.mk hc0
  clear hr0 hc0
  have H : (impl_characters.l0 k l0 (l0.length : Int) 0) = some r := h
  clear h
  have H' := Aside0.mk H
  clear H
  go_enter Tryd.func40, Tryd.ntmps40
  go_wp2
  go_loopg [7] k (fun kq v7 w' => ∃ (x7_1 : Int), v7 = .int .i64 x7_1 ∧ Aside0 (impl_characters.l0 kq l0 (l0.length : Int) x7_1 = some r) ∧ Aside0 (kq ≤ k) ∧ Drawn0 w w')
  case atStart => exact ⟨(0), (by first | rfl | (simp; done) | (simp [*]; done)), H', ⟨Nat.le_refl _⟩, by repeat (first | exact Drawn0.refl _ | apply Drawn0.step)⟩
  case round =>
    clear H'
    obtain ⟨x7_1, rfl, HA, HK1, ⟨m1, rfl⟩⟩ := hrel
    cases gk with
    | zero => exact absurd HA.out (by simp [impl_characters.l0])
    | succ k1 =>
      have H := HA.out
      clear HA
      simp only [impl_characters.l0] at H
      by_cases c2 : x7_1 < (l0.length : Int)
      · rw [if_pos c2] at H
        have c2b0 : decide (x7_1 < (l0.length : Int)) = true := decide_eq_true c2
        clear c2
        by_cases c3 : 0 ≤ x7_1
        · rw [if_pos c3] at H
          have c3b0 : decide (0 ≤ x7_1) = true := decide_eq_true c3
          clear c3
          by_cases c4 : x7_1 < (l0.length : Int)
          · rw [if_pos c4] at H
            have c4b0 : decide (x7_1 < (l0.length : Int)) = true := decide_eq_true c4
            clear c4
            by_cases c5 : (rd l0 x7_1) < 0
            · rw [if_pos c5] at H
              have c5b0 : decide ((rd l0 x7_1) < 0) = true := decide_eq_true c5
              clear c5
              obtain rfl := Option.some.inj H
              have p138 : 0 ≤ (x7_1 : Int) := of_decide_eq_true (by first | (with_reducible assumption) | assumption)
              have q138 : x7_1 < (l0.length : Int) := of_decide_eq_true (by first | (with_reducible assumption) | assumption)
              obtain ⟨ad138, e138, hx138_0⟩ := Kd.at_int HR0.out x7_1 p138 q138
              cases e138
              replace p138 := eq_true p138
              replace q138 := eq_true q138
              go_wp2
              go_ret
              exact ⟨by first | rfl | (simp; done) | (simp [*]; done), by repeat (first | exact Drawn0.refl _ | apply Drawn0.step)⟩
            · rw [if_neg c5] at H
              have c5b0 : decide ((rd l0 x7_1) < 0) = false := decide_eq_false c5
              clear c5
              by_cases c6 : (rd l0 x7_1) > 1114111
              · rw [if_pos c6] at H
                have c6b0 : decide (1114111 < (rd l0 x7_1)) = true := decide_eq_true c6
                clear c6
                obtain rfl := Option.some.inj H
                have p138 : 0 ≤ (x7_1 : Int) := of_decide_eq_true (by first | (with_reducible assumption) | assumption)
                have q138 : x7_1 < (l0.length : Int) := of_decide_eq_true (by first | (with_reducible assumption) | assumption)
                obtain ⟨ad138, e138, hx138_0⟩ := Kd.at_int HR0.out x7_1 p138 q138
                cases e138
                replace p138 := eq_true p138
                replace q138 := eq_true q138
                go_wp2
                go_ret
                exact ⟨by first | rfl | (simp; done) | (simp [*]; done), by repeat (first | exact Drawn0.refl _ | apply Drawn0.step)⟩
              · rw [if_neg c6] at H
                have c6b0 : decide (1114111 < (rd l0 x7_1)) = false := decide_eq_false c6
                clear c6
                have H' := Aside0.mk H
                clear H
                have p138 : 0 ≤ (x7_1 : Int) := of_decide_eq_true (by first | (with_reducible assumption) | assumption)
                have q138 : x7_1 < (l0.length : Int) := of_decide_eq_true (by first | (with_reducible assumption) | assumption)
                obtain ⟨ad138, e138, hx138_0⟩ := Kd.at_int HR0.out x7_1 p138 q138
                cases e138
                replace p138 := eq_true p138
                replace q138 := eq_true q138
                go_wp2
                go_roundg k1
                case measure => have := HK1.out; omega
                case rel => exact ⟨(wrap64 (x7_1 + 1)), (by first | rfl | (simp; done) | (simp [*]; done)), H', ⟨by have := HK1.out; omega⟩, by repeat (first | exact Drawn0.refl _ | apply Drawn0.step)⟩
          · rw [if_neg c4] at H
            exact absurd H (by simp)
        · rw [if_neg c3] at H
          exact absurd H (by simp)
      · rw [if_neg c2] at H
        have c2b0 : decide (x7_1 < (l0.length : Int)) = false := decide_eq_false c2
        clear c2
        obtain rfl := Option.some.inj H
        go_wp2
        go_ret
        exact ⟨by first | rfl | (simp; done) | (simp [*]; done), by repeat (first | exact Drawn0.refl _ | apply Drawn0.step)⟩

end Go.Proofs.YtofkpinikkfmeaaDoor.PFnMtLeast
