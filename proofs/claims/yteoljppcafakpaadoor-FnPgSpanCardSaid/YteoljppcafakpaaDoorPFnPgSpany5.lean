import Derived.Test.YteoljppcafakpaaDoorPFnPgSpany0
namespace Go.Proofs.YteoljppcafakpaaDoor.PFnPgSpan
open Go.RowKit Go.Proofs.YteoljppcafakpaaDoorW.PrintWords Go.Proofs.YteoljppcafakpaaDoorW.PrintLast Go.Proofs.YteoljppcafakpaaDoorW.PrintMore
attribute [local go_sem] max2_int min2_int max_two min_two max_three min_three max_four min_four
set_option linter.unusedVariables false
set_option linter.unusedSimpArgs false
def utf8_RuneStart.f (a0 : Int) : Option (Bool) := some ((Go.bits .and .u8 a0 192) != 128)
set_option maxHeartbeats 8000000 in
set_option maxRecDepth 100000 in
theorem utf8_RuneStart.calls (a0 : Int) (r : Bool) (w : World) (h : utf8_RuneStart.f a0 = some r) :
  Calls Tryd.prog 71 #[.int .u8 a0] w fun e w' => e = .returned (.bool r) ∧ Drawn0 w w' := by
 have H : (some ((Go.bits .and .u8 a0 192) != 128)) = some r := h
 clear h
 obtain rfl := Option.some.inj H
 go_enter Tryd.func71, Tryd.ntmps71
 go_wp2
 go_ret
 exact ⟨by first | rfl | (simp; done) | (simp [*]; done), by repeat (first | exact Drawn0.refl _ | apply Drawn0.step)⟩
def spec_progWaits.f (a0_0 : Int) (a0_1 : Int) (a0_2 : Int) (l0_3 : List Int) : Option (Bool) := if a0_0 = 0 then (some false) else (if a0_0 = 2 then (some false) else (if a0_0 = 6 then (some false) else (if a0_0 = 3 then (some false) else (if a0_0 = 5 then (some false) else (some true)))))
set_option maxHeartbeats 8000000 in
set_option maxRecDepth 100000 in
theorem spec_progWaits.calls (a0_0 : Int) (a0_1 : Int) (a0_2 : Int) (A0_3 : Option Addr) (c0_3 : Nat) (l0_3 : List Int) (r : Bool) (w : World) (hr0_3 : Kd.C (Kd.int .i32) w A0_3 l0_3.length l0_3) (hc0_3 : l0_3.length ≤ c0_3) (h : spec_progWaits.f a0_0 a0_1 a0_2 l0_3 = some r) :
  Calls Tryd.prog 28 #[.agg #[.int .i64 a0_0, .int .i64 a0_1, .int .i64 a0_2, .slice A0_3 l0_3.length c0_3]] w fun e w' => e = .returned (.bool r) ∧ Below w.heap.size w w' := by
 have hu29 := Tryd.underlying29
 have HR0_3 := Aside0.mk hr0_3
 have HC0_3 := Aside0.mk hc0_3
 clear hr0_3 hc0_3
 have HB := Aside0.mk (Below.refl w.heap.size w)
 have H : (if a0_0 = 0 then (some false) else (if a0_0 = 2 then (some false) else (if a0_0 = 6 then (some false) else (if a0_0 = 3 then (some false) else (if a0_0 = 5 then (some false) else (some true)))))) = some r := h
 clear h
 by_cases c2 : a0_0 = 0
 ·rw [if_pos c2] at H
  have c2b0 : (a0_0 == 0) = true := beq_iff_eq.mpr c2
  have c2b1 : (a0_0 != 0) = false := bne_eq_false_iff_eq.mpr c2
  clear c2
  obtain rfl := Option.some.inj H
  go_enter Tryd.func28, Tryd.ntmps28
  go_wp2_with (first | ((with_reducible refine gate_dst (N := 1) rfl ?_); refine box_event ?hg (N := 1) ?hd (cs := #[.int .i64 a0_0, .int .i64 a0_1, .int .i64 a0_2, .slice A0_3 l0_3.length c0_3]) (t := 29) ?hr ?_; (case hd => rfl); (case hg => rfl); (case hr => first | (go_simp; done) | (go_simp; rfl)); intro gb152 hg w3 hbox hb; have n0_ := Aside0.mk (below_step (by repeat (first | (with_reducible first | exact HB.out | apply below_alloc | apply pw_below_drewN | apply below_drew1) | exact HB.out)) hb); have n1_ := Aside0.mk (hbox); have n2_ := Aside0.mk ((by rw [hg]; exact (below_size (by repeat (first | (with_reducible first | exact HB.out | apply below_alloc | apply pw_below_drewN | apply below_drew1) | exact HB.out))) : w.heap.size ≤ gb152)); have n3_ := Aside0.mk ((by rw [hg]; exact (below_size (by repeat (first | (with_reducible first | exact HB.out | apply below_alloc | apply pw_below_drewN | apply below_drew1) | exact HB.out))) : w.heap.size ≤ gb152)); clear HB; have HB := n0_; have BK152 := n1_; have GW152 := n2_; have GE152 := n3_; clear n0_ n1_ n2_ n3_; clear hb hbox hg; have hcz4_0 : w3.cell? ⟨gb152, 0, none⟩ = some (.int .i64 a0_0) := (blk_cell BK152.out 0).trans rfl; have hcz4_1 : w3.cell? ⟨gb152, 1, none⟩ = some (.int .i64 a0_1) := (blk_cell BK152.out 1).trans rfl; have hcz4_2 : w3.cell? ⟨gb152, 2, none⟩ = some (.int .i64 a0_2) := (blk_cell BK152.out 2).trans rfl; have hcz4_3 : w3.cell? ⟨gb152, 3, none⟩ = some (.slice A0_3 l0_3.length c0_3) := (blk_cell BK152.out 3).trans rfl; have hfz4_0 := blk_frozen BK152.out 0; have hfz4_1 := blk_frozen BK152.out 1; have hfz4_2 := blk_frozen BK152.out 2; have hfz4_3 := blk_frozen BK152.out 3))
  go_ret
  exact ⟨by first | rfl | (simp [errW_none, errW_some] <;> rfl) | (simp [*, errW_none, errW_some] <;> rfl), by repeat (first | (with_reducible first | exact HB.out | apply below_alloc | apply pw_below_drewN | apply below_drew1 | refine below_set ?_ GE152.out) | exact HB.out)⟩
 ·rw [if_neg c2] at H
  have c2b0 : (a0_0 == 0) = false := beq_eq_false_iff_ne.mpr c2
  have c2b1 : (a0_0 != 0) = true := bne_iff_ne.mpr c2
  by_cases c5 : a0_0 = 2
  ·rw [if_pos c5] at H
   have c5b0 : (a0_0 == 2) = true := beq_iff_eq.mpr c5
   have c5b1 : (a0_0 != 2) = false := bne_eq_false_iff_eq.mpr c5
   clear c5
   obtain rfl := Option.some.inj H
   go_enter Tryd.func28, Tryd.ntmps28
   go_wp2_with (first | ((with_reducible refine gate_dst (N := 1) rfl ?_); refine box_event ?hg (N := 1) ?hd (cs := #[.int .i64 a0_0, .int .i64 a0_1, .int .i64 a0_2, .slice A0_3 l0_3.length c0_3]) (t := 29) ?hr ?_; (case hd => rfl); (case hg => rfl); (case hr => first | (go_simp; done) | (go_simp; rfl)); intro gb152 hg w6 hbox hb; have n0_ := Aside0.mk (below_step (by repeat (first | (with_reducible first | exact HB.out | apply below_alloc | apply pw_below_drewN | apply below_drew1) | exact HB.out)) hb); have n1_ := Aside0.mk (hbox); have n2_ := Aside0.mk ((by rw [hg]; exact (below_size (by repeat (first | (with_reducible first | exact HB.out | apply below_alloc | apply pw_below_drewN | apply below_drew1) | exact HB.out))) : w.heap.size ≤ gb152)); have n3_ := Aside0.mk ((by rw [hg]; exact (below_size (by repeat (first | (with_reducible first | exact HB.out | apply below_alloc | apply pw_below_drewN | apply below_drew1) | exact HB.out))) : w.heap.size ≤ gb152)); clear HB; have HB := n0_; have BK152 := n1_; have GW152 := n2_; have GE152 := n3_; clear n0_ n1_ n2_ n3_; clear hb hbox hg; have hcz7_0 : w6.cell? ⟨gb152, 0, none⟩ = some (.int .i64 a0_0) := (blk_cell BK152.out 0).trans rfl; have hcz7_1 : w6.cell? ⟨gb152, 1, none⟩ = some (.int .i64 a0_1) := (blk_cell BK152.out 1).trans rfl; have hcz7_2 : w6.cell? ⟨gb152, 2, none⟩ = some (.int .i64 a0_2) := (blk_cell BK152.out 2).trans rfl; have hcz7_3 : w6.cell? ⟨gb152, 3, none⟩ = some (.slice A0_3 l0_3.length c0_3) := (blk_cell BK152.out 3).trans rfl; have hfz7_0 := blk_frozen BK152.out 0; have hfz7_1 := blk_frozen BK152.out 1; have hfz7_2 := blk_frozen BK152.out 2; have hfz7_3 := blk_frozen BK152.out 3))
   go_ret
   exact ⟨by first | rfl | (simp [errW_none, errW_some] <;> rfl) | (simp [*, errW_none, errW_some] <;> rfl), by repeat (first | (with_reducible first | exact HB.out | apply below_alloc | apply pw_below_drewN | apply below_drew1 | refine below_set ?_ GE152.out) | exact HB.out)⟩
  ·rw [if_neg c5] at H
   have c5b0 : (a0_0 == 2) = false := beq_eq_false_iff_ne.mpr c5
   have c5b1 : (a0_0 != 2) = true := bne_iff_ne.mpr c5
   by_cases c8 : a0_0 = 6
   ·rw [if_pos c8] at H
    have c8b0 : (a0_0 == 6) = true := beq_iff_eq.mpr c8
    have c8b1 : (a0_0 != 6) = false := bne_eq_false_iff_eq.mpr c8
    clear c8
    obtain rfl := Option.some.inj H
    go_enter Tryd.func28, Tryd.ntmps28
    go_wp2_with (first | ((with_reducible refine gate_dst (N := 1) rfl ?_); refine box_event ?hg (N := 1) ?hd (cs := #[.int .i64 a0_0, .int .i64 a0_1, .int .i64 a0_2, .slice A0_3 l0_3.length c0_3]) (t := 29) ?hr ?_; (case hd => rfl); (case hg => rfl); (case hr => first | (go_simp; done) | (go_simp; rfl)); intro gb152 hg w9 hbox hb; have n0_ := Aside0.mk (below_step (by repeat (first | (with_reducible first | exact HB.out | apply below_alloc | apply pw_below_drewN | apply below_drew1) | exact HB.out)) hb); have n1_ := Aside0.mk (hbox); have n2_ := Aside0.mk ((by rw [hg]; exact (below_size (by repeat (first | (with_reducible first | exact HB.out | apply below_alloc | apply pw_below_drewN | apply below_drew1) | exact HB.out))) : w.heap.size ≤ gb152)); have n3_ := Aside0.mk ((by rw [hg]; exact (below_size (by repeat (first | (with_reducible first | exact HB.out | apply below_alloc | apply pw_below_drewN | apply below_drew1) | exact HB.out))) : w.heap.size ≤ gb152)); clear HB; have HB := n0_; have BK152 := n1_; have GW152 := n2_; have GE152 := n3_; clear n0_ n1_ n2_ n3_; clear hb hbox hg; have hcz10_0 : w9.cell? ⟨gb152, 0, none⟩ = some (.int .i64 a0_0) := (blk_cell BK152.out 0).trans rfl; have hcz10_1 : w9.cell? ⟨gb152, 1, none⟩ = some (.int .i64 a0_1) := (blk_cell BK152.out 1).trans rfl; have hcz10_2 : w9.cell? ⟨gb152, 2, none⟩ = some (.int .i64 a0_2) := (blk_cell BK152.out 2).trans rfl; have hcz10_3 : w9.cell? ⟨gb152, 3, none⟩ = some (.slice A0_3 l0_3.length c0_3) := (blk_cell BK152.out 3).trans rfl; have hfz10_0 := blk_frozen BK152.out 0; have hfz10_1 := blk_frozen BK152.out 1; have hfz10_2 := blk_frozen BK152.out 2; have hfz10_3 := blk_frozen BK152.out 3))
    go_ret
    exact ⟨by first | rfl | (simp [errW_none, errW_some] <;> rfl) | (simp [*, errW_none, errW_some] <;> rfl), by repeat (first | (with_reducible first | exact HB.out | apply below_alloc | apply pw_below_drewN | apply below_drew1 | refine below_set ?_ GE152.out) | exact HB.out)⟩
   ·rw [if_neg c8] at H
    have c8b0 : (a0_0 == 6) = false := beq_eq_false_iff_ne.mpr c8
    have c8b1 : (a0_0 != 6) = true := bne_iff_ne.mpr c8
    by_cases c11 : a0_0 = 3
    ·rw [if_pos c11] at H
     have c11b0 : (a0_0 == 3) = true := beq_iff_eq.mpr c11
     have c11b1 : (a0_0 != 3) = false := bne_eq_false_iff_eq.mpr c11
     clear c11
     obtain rfl := Option.some.inj H
     go_enter Tryd.func28, Tryd.ntmps28
     go_wp2_with (first | ((with_reducible refine gate_dst (N := 1) rfl ?_); refine box_event ?hg (N := 1) ?hd (cs := #[.int .i64 a0_0, .int .i64 a0_1, .int .i64 a0_2, .slice A0_3 l0_3.length c0_3]) (t := 29) ?hr ?_; (case hd => rfl); (case hg => rfl); (case hr => first | (go_simp; done) | (go_simp; rfl)); intro gb152 hg w12 hbox hb; have n0_ := Aside0.mk (below_step (by repeat (first | (with_reducible first | exact HB.out | apply below_alloc | apply pw_below_drewN | apply below_drew1) | exact HB.out)) hb); have n1_ := Aside0.mk (hbox); have n2_ := Aside0.mk ((by rw [hg]; exact (below_size (by repeat (first | (with_reducible first | exact HB.out | apply below_alloc | apply pw_below_drewN | apply below_drew1) | exact HB.out))) : w.heap.size ≤ gb152)); have n3_ := Aside0.mk ((by rw [hg]; exact (below_size (by repeat (first | (with_reducible first | exact HB.out | apply below_alloc | apply pw_below_drewN | apply below_drew1) | exact HB.out))) : w.heap.size ≤ gb152)); clear HB; have HB := n0_; have BK152 := n1_; have GW152 := n2_; have GE152 := n3_; clear n0_ n1_ n2_ n3_; clear hb hbox hg; have hcz13_0 : w12.cell? ⟨gb152, 0, none⟩ = some (.int .i64 a0_0) := (blk_cell BK152.out 0).trans rfl; have hcz13_1 : w12.cell? ⟨gb152, 1, none⟩ = some (.int .i64 a0_1) := (blk_cell BK152.out 1).trans rfl; have hcz13_2 : w12.cell? ⟨gb152, 2, none⟩ = some (.int .i64 a0_2) := (blk_cell BK152.out 2).trans rfl; have hcz13_3 : w12.cell? ⟨gb152, 3, none⟩ = some (.slice A0_3 l0_3.length c0_3) := (blk_cell BK152.out 3).trans rfl; have hfz13_0 := blk_frozen BK152.out 0; have hfz13_1 := blk_frozen BK152.out 1; have hfz13_2 := blk_frozen BK152.out 2; have hfz13_3 := blk_frozen BK152.out 3))
     go_ret
     exact ⟨by first | rfl | (simp [errW_none, errW_some] <;> rfl) | (simp [*, errW_none, errW_some] <;> rfl), by repeat (first | (with_reducible first | exact HB.out | apply below_alloc | apply pw_below_drewN | apply below_drew1 | refine below_set ?_ GE152.out) | exact HB.out)⟩
    ·rw [if_neg c11] at H
     have c11b0 : (a0_0 == 3) = false := beq_eq_false_iff_ne.mpr c11
     have c11b1 : (a0_0 != 3) = true := bne_iff_ne.mpr c11
     by_cases c14 : a0_0 = 5
     ·rw [if_pos c14] at H
      have c14b0 : (a0_0 == 5) = true := beq_iff_eq.mpr c14
      have c14b1 : (a0_0 != 5) = false := bne_eq_false_iff_eq.mpr c14
      clear c14
      obtain rfl := Option.some.inj H
      go_enter Tryd.func28, Tryd.ntmps28
      go_wp2_with (first | ((with_reducible refine gate_dst (N := 1) rfl ?_); refine box_event ?hg (N := 1) ?hd (cs := #[.int .i64 a0_0, .int .i64 a0_1, .int .i64 a0_2, .slice A0_3 l0_3.length c0_3]) (t := 29) ?hr ?_; (case hd => rfl); (case hg => rfl); (case hr => first | (go_simp; done) | (go_simp; rfl)); intro gb152 hg w15 hbox hb; have n0_ := Aside0.mk (below_step (by repeat (first | (with_reducible first | exact HB.out | apply below_alloc | apply pw_below_drewN | apply below_drew1) | exact HB.out)) hb); have n1_ := Aside0.mk (hbox); have n2_ := Aside0.mk ((by rw [hg]; exact (below_size (by repeat (first | (with_reducible first | exact HB.out | apply below_alloc | apply pw_below_drewN | apply below_drew1) | exact HB.out))) : w.heap.size ≤ gb152)); have n3_ := Aside0.mk ((by rw [hg]; exact (below_size (by repeat (first | (with_reducible first | exact HB.out | apply below_alloc | apply pw_below_drewN | apply below_drew1) | exact HB.out))) : w.heap.size ≤ gb152)); clear HB; have HB := n0_; have BK152 := n1_; have GW152 := n2_; have GE152 := n3_; clear n0_ n1_ n2_ n3_; clear hb hbox hg; have hcz16_0 : w15.cell? ⟨gb152, 0, none⟩ = some (.int .i64 a0_0) := (blk_cell BK152.out 0).trans rfl; have hcz16_1 : w15.cell? ⟨gb152, 1, none⟩ = some (.int .i64 a0_1) := (blk_cell BK152.out 1).trans rfl; have hcz16_2 : w15.cell? ⟨gb152, 2, none⟩ = some (.int .i64 a0_2) := (blk_cell BK152.out 2).trans rfl; have hcz16_3 : w15.cell? ⟨gb152, 3, none⟩ = some (.slice A0_3 l0_3.length c0_3) := (blk_cell BK152.out 3).trans rfl; have hfz16_0 := blk_frozen BK152.out 0; have hfz16_1 := blk_frozen BK152.out 1; have hfz16_2 := blk_frozen BK152.out 2; have hfz16_3 := blk_frozen BK152.out 3))
      go_ret
      exact ⟨by first | rfl | (simp [errW_none, errW_some] <;> rfl) | (simp [*, errW_none, errW_some] <;> rfl), by repeat (first | (with_reducible first | exact HB.out | apply below_alloc | apply pw_below_drewN | apply below_drew1 | refine below_set ?_ GE152.out) | exact HB.out)⟩
     ·rw [if_neg c14] at H
      have c14b0 : (a0_0 == 5) = false := beq_eq_false_iff_ne.mpr c14
      have c14b1 : (a0_0 != 5) = true := bne_iff_ne.mpr c14
      obtain rfl := Option.some.inj H
      go_enter Tryd.func28, Tryd.ntmps28
      go_wp2_with (first | ((with_reducible refine gate_dst (N := 1) rfl ?_); refine box_event ?hg (N := 1) ?hd (cs := #[.int .i64 a0_0, .int .i64 a0_1, .int .i64 a0_2, .slice A0_3 l0_3.length c0_3]) (t := 29) ?hr ?_; (case hd => rfl); (case hg => rfl); (case hr => first | (go_simp; done) | (go_simp; rfl)); intro gb152 hg w17 hbox hb; have n0_ := Aside0.mk (below_step (by repeat (first | (with_reducible first | exact HB.out | apply below_alloc | apply pw_below_drewN | apply below_drew1) | exact HB.out)) hb); have n1_ := Aside0.mk (hbox); have n2_ := Aside0.mk ((by rw [hg]; exact (below_size (by repeat (first | (with_reducible first | exact HB.out | apply below_alloc | apply pw_below_drewN | apply below_drew1) | exact HB.out))) : w.heap.size ≤ gb152)); have n3_ := Aside0.mk ((by rw [hg]; exact (below_size (by repeat (first | (with_reducible first | exact HB.out | apply below_alloc | apply pw_below_drewN | apply below_drew1) | exact HB.out))) : w.heap.size ≤ gb152)); clear HB; have HB := n0_; have BK152 := n1_; have GW152 := n2_; have GE152 := n3_; clear n0_ n1_ n2_ n3_; clear hb hbox hg; have hcz18_0 : w17.cell? ⟨gb152, 0, none⟩ = some (.int .i64 a0_0) := (blk_cell BK152.out 0).trans rfl; have hcz18_1 : w17.cell? ⟨gb152, 1, none⟩ = some (.int .i64 a0_1) := (blk_cell BK152.out 1).trans rfl; have hcz18_2 : w17.cell? ⟨gb152, 2, none⟩ = some (.int .i64 a0_2) := (blk_cell BK152.out 2).trans rfl; have hcz18_3 : w17.cell? ⟨gb152, 3, none⟩ = some (.slice A0_3 l0_3.length c0_3) := (blk_cell BK152.out 3).trans rfl; have hfz18_0 := blk_frozen BK152.out 0; have hfz18_1 := blk_frozen BK152.out 1; have hfz18_2 := blk_frozen BK152.out 2; have hfz18_3 := blk_frozen BK152.out 3))
      go_ret
      exact ⟨by first | rfl | (simp [errW_none, errW_some] <;> rfl) | (simp [*, errW_none, errW_some] <;> rfl), by repeat (first | (with_reducible first | exact HB.out | apply below_alloc | apply pw_below_drewN | apply below_drew1 | refine below_set ?_ GE152.out) | exact HB.out)⟩
def spec_reWord.f (a0 : Int) : Option (Bool) := if 97 ≤ a0 then (if a0 ≤ 122 then (some true) else (if 65 ≤ a0 then (if a0 ≤ 90 then (some true) else (if 48 ≤ a0 then (if a0 ≤ 57 then (some true) else (some (a0 == 95))) else (some (a0 == 95)))) else (if 48 ≤ a0 then (if a0 ≤ 57 then (some true) else (some (a0 == 95))) else (some (a0 == 95))))) else (if 65 ≤ a0 then (if a0 ≤ 90 then (some true) else (if 48 ≤ a0 then (if a0 ≤ 57 then (some true) else (some (a0 == 95))) else (some (a0 == 95)))) else (if 48 ≤ a0 then (if a0 ≤ 57 then (some true) else (some (a0 == 95))) else (some (a0 == 95))))
set_option maxHeartbeats 8000000 in
set_option maxRecDepth 100000 in
theorem spec_reWord.calls (a0 : Int) (r : Bool) (w : World) (h : spec_reWord.f a0 = some r) :
  Calls Tryd.prog 52 #[.int .i32 a0] w fun e w' => e = .returned (.bool r) ∧ Drawn0 w w' := by
 have H : (if 97 ≤ a0 then (if a0 ≤ 122 then (some true) else (if 65 ≤ a0 then (if a0 ≤ 90 then (some true) else (if 48 ≤ a0 then (if a0 ≤ 57 then (some true) else (some (a0 == 95))) else (some (a0 == 95)))) else (if 48 ≤ a0 then (if a0 ≤ 57 then (some true) else (some (a0 == 95))) else (some (a0 == 95))))) else (if 65 ≤ a0 then (if a0 ≤ 90 then (some true) else (if 48 ≤ a0 then (if a0 ≤ 57 then (some true) else (some (a0 == 95))) else (some (a0 == 95)))) else (if 48 ≤ a0 then (if a0 ≤ 57 then (some true) else (some (a0 == 95))) else (some (a0 == 95))))) = some r := h
 clear h
 by_cases c2 : 97 ≤ a0
 ·rw [if_pos c2] at H
  have c2b0 : decide (97 ≤ a0) = true := decide_eq_true c2
  clear c2
  by_cases c3 : a0 ≤ 122
  ·rw [if_pos c3] at H
   have c3b0 : decide (a0 ≤ 122) = true := decide_eq_true c3
   clear c3
   obtain rfl := Option.some.inj H
   go_enter Tryd.func52, Tryd.ntmps52
   go_wp2
   go_ret
   exact ⟨by first | rfl | (simp; done) | (simp [*]; done), by repeat (first | exact Drawn0.refl _ | apply Drawn0.step)⟩
  ·rw [if_neg c3] at H
   have c3b0 : decide (a0 ≤ 122) = false := decide_eq_false c3
   clear c3
   by_cases c4 : 65 ≤ a0
   ·rw [if_pos c4] at H
    have c4b0 : decide (65 ≤ a0) = true := decide_eq_true c4
    clear c4
    by_cases c5 : a0 ≤ 90
    ·rw [if_pos c5] at H
     have c5b0 : decide (a0 ≤ 90) = true := decide_eq_true c5
     clear c5
     obtain rfl := Option.some.inj H
     go_enter Tryd.func52, Tryd.ntmps52
     go_wp2
     go_ret
     exact ⟨by first | rfl | (simp; done) | (simp [*]; done), by repeat (first | exact Drawn0.refl _ | apply Drawn0.step)⟩
    ·rw [if_neg c5] at H
     have c5b0 : decide (a0 ≤ 90) = false := decide_eq_false c5
     clear c5
     by_cases c6 : 48 ≤ a0
     ·rw [if_pos c6] at H
      have c6b0 : decide (48 ≤ a0) = true := decide_eq_true c6
      clear c6
      by_cases c7 : a0 ≤ 57
      ·rw [if_pos c7] at H
       have c7b0 : decide (a0 ≤ 57) = true := decide_eq_true c7
       clear c7
       obtain rfl := Option.some.inj H
       go_enter Tryd.func52, Tryd.ntmps52
       go_wp2
       go_ret
       exact ⟨by first | rfl | (simp; done) | (simp [*]; done), by repeat (first | exact Drawn0.refl _ | apply Drawn0.step)⟩
      ·rw [if_neg c7] at H
       have c7b0 : decide (a0 ≤ 57) = false := decide_eq_false c7
       clear c7
       obtain rfl := Option.some.inj H
       go_enter Tryd.func52, Tryd.ntmps52
       go_wp2
       go_ret
       exact ⟨by first | rfl | (simp; done) | (simp [*]; done), by repeat (first | exact Drawn0.refl _ | apply Drawn0.step)⟩
     ·rw [if_neg c6] at H
      have c6b0 : decide (48 ≤ a0) = false := decide_eq_false c6
      clear c6
      obtain rfl := Option.some.inj H
      go_enter Tryd.func52, Tryd.ntmps52
      go_wp2
      go_ret
      exact ⟨by first | rfl | (simp; done) | (simp [*]; done), by repeat (first | exact Drawn0.refl _ | apply Drawn0.step)⟩
   ·rw [if_neg c4] at H
    have c4b0 : decide (65 ≤ a0) = false := decide_eq_false c4
    clear c4
    by_cases c8 : 48 ≤ a0
    ·rw [if_pos c8] at H
     have c8b0 : decide (48 ≤ a0) = true := decide_eq_true c8
     clear c8
     by_cases c9 : a0 ≤ 57
     ·rw [if_pos c9] at H
      have c9b0 : decide (a0 ≤ 57) = true := decide_eq_true c9
      clear c9
      obtain rfl := Option.some.inj H
      go_enter Tryd.func52, Tryd.ntmps52
      go_wp2
      go_ret
      exact ⟨by first | rfl | (simp; done) | (simp [*]; done), by repeat (first | exact Drawn0.refl _ | apply Drawn0.step)⟩
     ·rw [if_neg c9] at H
      have c9b0 : decide (a0 ≤ 57) = false := decide_eq_false c9
      clear c9
      obtain rfl := Option.some.inj H
      go_enter Tryd.func52, Tryd.ntmps52
      go_wp2
      go_ret
      exact ⟨by first | rfl | (simp; done) | (simp [*]; done), by repeat (first | exact Drawn0.refl _ | apply Drawn0.step)⟩
    ·rw [if_neg c8] at H
     have c8b0 : decide (48 ≤ a0) = false := decide_eq_false c8
     clear c8
     obtain rfl := Option.some.inj H
     go_enter Tryd.func52, Tryd.ntmps52
     go_wp2
     go_ret
     exact ⟨by first | rfl | (simp; done) | (simp [*]; done), by repeat (first | exact Drawn0.refl _ | apply Drawn0.step)⟩
 ·rw [if_neg c2] at H
  have c2b0 : decide (97 ≤ a0) = false := decide_eq_false c2
  clear c2
  by_cases c10 : 65 ≤ a0
  ·rw [if_pos c10] at H
   have c10b0 : decide (65 ≤ a0) = true := decide_eq_true c10
   clear c10
   by_cases c11 : a0 ≤ 90
   ·rw [if_pos c11] at H
    have c11b0 : decide (a0 ≤ 90) = true := decide_eq_true c11
    clear c11
    obtain rfl := Option.some.inj H
    go_enter Tryd.func52, Tryd.ntmps52
    go_wp2
    go_ret
    exact ⟨by first | rfl | (simp; done) | (simp [*]; done), by repeat (first | exact Drawn0.refl _ | apply Drawn0.step)⟩
   ·rw [if_neg c11] at H
    have c11b0 : decide (a0 ≤ 90) = false := decide_eq_false c11
    clear c11
    by_cases c12 : 48 ≤ a0
    ·rw [if_pos c12] at H
     have c12b0 : decide (48 ≤ a0) = true := decide_eq_true c12
     clear c12
     by_cases c13 : a0 ≤ 57
     ·rw [if_pos c13] at H
      have c13b0 : decide (a0 ≤ 57) = true := decide_eq_true c13
      clear c13
      obtain rfl := Option.some.inj H
      go_enter Tryd.func52, Tryd.ntmps52
      go_wp2
      go_ret
      exact ⟨by first | rfl | (simp; done) | (simp [*]; done), by repeat (first | exact Drawn0.refl _ | apply Drawn0.step)⟩
     ·rw [if_neg c13] at H
      have c13b0 : decide (a0 ≤ 57) = false := decide_eq_false c13
      clear c13
      obtain rfl := Option.some.inj H
      go_enter Tryd.func52, Tryd.ntmps52
      go_wp2
      go_ret
      exact ⟨by first | rfl | (simp; done) | (simp [*]; done), by repeat (first | exact Drawn0.refl _ | apply Drawn0.step)⟩
    ·rw [if_neg c12] at H
     have c12b0 : decide (48 ≤ a0) = false := decide_eq_false c12
     clear c12
     obtain rfl := Option.some.inj H
     go_enter Tryd.func52, Tryd.ntmps52
     go_wp2
     go_ret
     exact ⟨by first | rfl | (simp; done) | (simp [*]; done), by repeat (first | exact Drawn0.refl _ | apply Drawn0.step)⟩
  ·rw [if_neg c10] at H
   have c10b0 : decide (65 ≤ a0) = false := decide_eq_false c10
   clear c10
   by_cases c14 : 48 ≤ a0
   ·rw [if_pos c14] at H
    have c14b0 : decide (48 ≤ a0) = true := decide_eq_true c14
    clear c14
    by_cases c15 : a0 ≤ 57
    ·rw [if_pos c15] at H
     have c15b0 : decide (a0 ≤ 57) = true := decide_eq_true c15
     clear c15
     obtain rfl := Option.some.inj H
     go_enter Tryd.func52, Tryd.ntmps52
     go_wp2
     go_ret
     exact ⟨by first | rfl | (simp; done) | (simp [*]; done), by repeat (first | exact Drawn0.refl _ | apply Drawn0.step)⟩
    ·rw [if_neg c15] at H
     have c15b0 : decide (a0 ≤ 57) = false := decide_eq_false c15
     clear c15
     obtain rfl := Option.some.inj H
     go_enter Tryd.func52, Tryd.ntmps52
     go_wp2
     go_ret
     exact ⟨by first | rfl | (simp; done) | (simp [*]; done), by repeat (first | exact Drawn0.refl _ | apply Drawn0.step)⟩
   ·rw [if_neg c14] at H
    have c14b0 : decide (48 ≤ a0) = false := decide_eq_false c14
    clear c14
    obtain rfl := Option.some.inj H
    go_enter Tryd.func52, Tryd.ntmps52
    go_wp2
    go_ret
    exact ⟨by first | rfl | (simp; done) | (simp [*]; done), by repeat (first | exact Drawn0.refl _ | apply Drawn0.step)⟩
mutual
def spec_CondBetween.j0 : Nat → Int → Int → Int → Option (Int)
 | 0, _, _, _ => none
 | k + 1, x0, x1, x5 => if x0 = (-1) then (spec_CondBetween.j1 k x0 x1 x5 true) else (spec_CondBetween.j1 k x0 x1 x5 (x0 == 10))
def spec_CondBetween.j1 : Nat → Int → Int → Int → Bool → Option (Int)
 | 0, _, _, _, _ => none
 | k + 1, x0, x1, x5, x15 => if x15 = true then (spec_CondBetween.j2 k x0 x1 (Go.bits .or .i64 x5 1)) else (spec_CondBetween.j2 k x0 x1 x5)
def spec_CondBetween.j2 : Nat → Int → Int → Int → Option (Int)
 | 0, _, _, _ => none
 | k + 1, x0, x1, x5 => if x1 = (-1) then (spec_CondBetween.j3 k x0 x1 (Go.bits .or .i64 x5 8)) else (spec_CondBetween.j3 k x0 x1 x5)
def spec_CondBetween.j3 : Nat → Int → Int → Int → Option (Int)
 | 0, _, _, _ => none
 | k + 1, x0, x1, x5 => if x1 = (-1) then (spec_CondBetween.j4 k x0 x1 x5 true) else (spec_CondBetween.j4 k x0 x1 x5 (x1 == 10))
def spec_CondBetween.j4 : Nat → Int → Int → Int → Bool → Option (Int)
 | 0, _, _, _, _ => none
 | k + 1, x0, x1, x5, x27 => if x27 = true then (spec_CondBetween.j5 k x0 x1 (Go.bits .or .i64 x5 2)) else (spec_CondBetween.j5 k x0 x1 x5)
def spec_CondBetween.j5 : Nat → Int → Int → Int → Option (Int)
 | 0, _, _, _ => none
 | k + 1, x0, x1, x5 => (spec_reWord.f x0).bind fun t153 => ((spec_reWord.f x1).bind fun t154 => (if (t153 != t154) = true then (some (Go.bits .or .i64 x5 16)) else (some (Go.bits .or .i64 x5 32))))
end
def spec_CondBetween.f (k : Nat) (a0 : Int) (a1 : Int) : Option (Int) := if a0 = (-1) then (spec_CondBetween.j0 k a0 a1 (Go.bits .or .i64 0 4)) else (spec_CondBetween.j0 k a0 a1 0)
theorem spec_CondBetween.mono_l : ∀ k, (∀ y0 y1 y2, LeO (spec_CondBetween.j0 k y0 y1 y2) (spec_CondBetween.j0 (k + 1) y0 y1 y2)) ∧ (∀ y0 y1 y2 y3, LeO (spec_CondBetween.j1 k y0 y1 y2 y3) (spec_CondBetween.j1 (k + 1) y0 y1 y2 y3)) ∧ (∀ y0 y1 y2, LeO (spec_CondBetween.j2 k y0 y1 y2) (spec_CondBetween.j2 (k + 1) y0 y1 y2)) ∧ (∀ y0 y1 y2, LeO (spec_CondBetween.j3 k y0 y1 y2) (spec_CondBetween.j3 (k + 1) y0 y1 y2)) ∧ (∀ y0 y1 y2 y3, LeO (spec_CondBetween.j4 k y0 y1 y2 y3) (spec_CondBetween.j4 (k + 1) y0 y1 y2 y3)) ∧ (∀ y0 y1 y2, LeO (spec_CondBetween.j5 k y0 y1 y2) (spec_CondBetween.j5 (k + 1) y0 y1 y2))
 | 0 => ⟨fun _ _ _ r h => by simp [spec_CondBetween.j0] at h, fun _ _ _ _ r h => by simp [spec_CondBetween.j1] at h, fun _ _ _ r h => by simp [spec_CondBetween.j2] at h, fun _ _ _ r h => by simp [spec_CondBetween.j3] at h, fun _ _ _ _ r h => by simp [spec_CondBetween.j4] at h, fun _ _ _ r h => by simp [spec_CondBetween.j5] at h⟩
 | k + 1 => by
  obtain ⟨ih0, ih1, ih2, ih3, ih4, ih5⟩ := spec_CondBetween.mono_l k
  refine ⟨?_, ?_, ?_, ?_, ?_, ?_⟩
  ·intro y0 y1 y2
   unfold spec_CondBetween.j0
   repeat' first
   | (with_reducible exact ih0 _ _ _)
   | (with_reducible exact ih1 _ _ _ _)
   | (with_reducible exact ih2 _ _ _)
   | (with_reducible exact ih3 _ _ _)
   | (with_reducible exact ih4 _ _ _ _)
   | (with_reducible exact ih5 _ _ _)
   | (with_reducible exact LeO.refl _)
   | (with_reducible exact LeO.none _)
   | (with_reducible refine LeO.ite ?_ ?_)
   | (with_reducible refine LeO.bind ?_ (fun _ => ?_))
   | exact ih0 _ _ _
   | exact ih1 _ _ _ _
   | exact ih2 _ _ _
   | exact ih3 _ _ _
   | exact ih4 _ _ _ _
   | exact ih5 _ _ _
   | exact LeO.none _
   | refine LeO.ite ?_ ?_
   | refine LeO.bind ?_ (fun _ => ?_)
  ·intro y0 y1 y2 y3
   unfold spec_CondBetween.j1
   repeat' first
   | (with_reducible exact ih0 _ _ _)
   | (with_reducible exact ih1 _ _ _ _)
   | (with_reducible exact ih2 _ _ _)
   | (with_reducible exact ih3 _ _ _)
   | (with_reducible exact ih4 _ _ _ _)
   | (with_reducible exact ih5 _ _ _)
   | (with_reducible exact LeO.refl _)
   | (with_reducible exact LeO.none _)
   | (with_reducible refine LeO.ite ?_ ?_)
   | (with_reducible refine LeO.bind ?_ (fun _ => ?_))
   | exact ih0 _ _ _
   | exact ih1 _ _ _ _
   | exact ih2 _ _ _
   | exact ih3 _ _ _
   | exact ih4 _ _ _ _
   | exact ih5 _ _ _
   | exact LeO.none _
   | refine LeO.ite ?_ ?_
   | refine LeO.bind ?_ (fun _ => ?_)
  ·intro y0 y1 y2
   unfold spec_CondBetween.j2
   repeat' first
   | (with_reducible exact ih0 _ _ _)
   | (with_reducible exact ih1 _ _ _ _)
   | (with_reducible exact ih2 _ _ _)
   | (with_reducible exact ih3 _ _ _)
   | (with_reducible exact ih4 _ _ _ _)
   | (with_reducible exact ih5 _ _ _)
   | (with_reducible exact LeO.refl _)
   | (with_reducible exact LeO.none _)
   | (with_reducible refine LeO.ite ?_ ?_)
   | (with_reducible refine LeO.bind ?_ (fun _ => ?_))
   | exact ih0 _ _ _
   | exact ih1 _ _ _ _
   | exact ih2 _ _ _
   | exact ih3 _ _ _
   | exact ih4 _ _ _ _
   | exact ih5 _ _ _
   | exact LeO.none _
   | refine LeO.ite ?_ ?_
   | refine LeO.bind ?_ (fun _ => ?_)
  ·intro y0 y1 y2
   unfold spec_CondBetween.j3
   repeat' first
   | (with_reducible exact ih0 _ _ _)
   | (with_reducible exact ih1 _ _ _ _)
   | (with_reducible exact ih2 _ _ _)
   | (with_reducible exact ih3 _ _ _)
   | (with_reducible exact ih4 _ _ _ _)
   | (with_reducible exact ih5 _ _ _)
   | (with_reducible exact LeO.refl _)
   | (with_reducible exact LeO.none _)
   | (with_reducible refine LeO.ite ?_ ?_)
   | (with_reducible refine LeO.bind ?_ (fun _ => ?_))
   | exact ih0 _ _ _
   | exact ih1 _ _ _ _
   | exact ih2 _ _ _
   | exact ih3 _ _ _
   | exact ih4 _ _ _ _
   | exact ih5 _ _ _
   | exact LeO.none _
   | refine LeO.ite ?_ ?_
   | refine LeO.bind ?_ (fun _ => ?_)
  ·intro y0 y1 y2 y3
   unfold spec_CondBetween.j4
   repeat' first
   | (with_reducible exact ih0 _ _ _)
   | (with_reducible exact ih1 _ _ _ _)
   | (with_reducible exact ih2 _ _ _)
   | (with_reducible exact ih3 _ _ _)
   | (with_reducible exact ih4 _ _ _ _)
   | (with_reducible exact ih5 _ _ _)
   | (with_reducible exact LeO.refl _)
   | (with_reducible exact LeO.none _)
   | (with_reducible refine LeO.ite ?_ ?_)
   | (with_reducible refine LeO.bind ?_ (fun _ => ?_))
   | exact ih0 _ _ _
   | exact ih1 _ _ _ _
   | exact ih2 _ _ _
   | exact ih3 _ _ _
   | exact ih4 _ _ _ _
   | exact ih5 _ _ _
   | exact LeO.none _
   | refine LeO.ite ?_ ?_
   | refine LeO.bind ?_ (fun _ => ?_)
  ·intro y0 y1 y2
   unfold spec_CondBetween.j5
   repeat' first
   | (with_reducible exact ih0 _ _ _)
   | (with_reducible exact ih1 _ _ _ _)
   | (with_reducible exact ih2 _ _ _)
   | (with_reducible exact ih3 _ _ _)
   | (with_reducible exact ih4 _ _ _ _)
   | (with_reducible exact ih5 _ _ _)
   | (with_reducible exact LeO.refl _)
   | (with_reducible exact LeO.none _)
   | (with_reducible refine LeO.ite ?_ ?_)
   | (with_reducible refine LeO.bind ?_ (fun _ => ?_))
   | exact ih0 _ _ _
   | exact ih1 _ _ _ _
   | exact ih2 _ _ _
   | exact ih3 _ _ _
   | exact ih4 _ _ _ _
   | exact ih5 _ _ _
   | exact LeO.none _
   | refine LeO.ite ?_ ?_
   | refine LeO.bind ?_ (fun _ => ?_)
theorem spec_CondBetween.mono : ∀ a0 a1 k, LeO (spec_CondBetween.f k a0 a1) (spec_CondBetween.f (k + 1) a0 a1) := by
 intro a0 a1 k
 obtain ⟨ih0, ih1, ih2, ih3, ih4, ih5⟩ := spec_CondBetween.mono_l k
 unfold spec_CondBetween.f
 repeat' first
   | (with_reducible exact ih0 _ _ _)
   | (with_reducible exact ih1 _ _ _ _)
   | (with_reducible exact ih2 _ _ _)
   | (with_reducible exact ih3 _ _ _)
   | (with_reducible exact ih4 _ _ _ _)
   | (with_reducible exact ih5 _ _ _)
   | (with_reducible exact LeO.refl _)
   | (with_reducible exact LeO.none _)
   | (with_reducible refine LeO.ite ?_ ?_)
   | (with_reducible refine LeO.bind ?_ (fun _ => ?_))
   | exact ih0 _ _ _
   | exact ih1 _ _ _ _
   | exact ih2 _ _ _
   | exact ih3 _ _ _
   | exact ih4 _ _ _ _
   | exact ih5 _ _ _
   | exact LeO.none _
   | refine LeO.ite ?_ ?_
   | refine LeO.bind ?_ (fun _ => ?_)
set_option maxHeartbeats 8000000 in
set_option maxRecDepth 100000 in
theorem spec_CondBetween.calls (k : Nat) (a0 : Int) (a1 : Int) (r : Int) (w : World) (h : spec_CondBetween.f k a0 a1 = some r) :
  Calls Tryd.prog 30 #[.int .i32 a0, .int .i32 a1] w fun e w' => e = .returned (.int .i64 r) ∧ Drawn0 w w' := by
 have H : (if a0 = (-1) then (spec_CondBetween.j0 k a0 a1 (Go.bits .or .i64 0 4)) else (spec_CondBetween.j0 k a0 a1 0)) = some r := h
 clear h
 have HC3 := Aside0.mk H
 clear H
 go_enter Tryd.func30, Tryd.ntmps30
 go_upto_if 7 with (fail)
 go_cut [5] (fun v5 wc => ∃ (kq : Nat) (x5_2 : Int), v5 = .int .i64 x5_2 ∧ Aside0 (spec_CondBetween.j0 kq a0 a1 x5_2 = some r) ∧ Aside0 (kq ≤ k) ∧ Drawn0 w wc)
 case first =>
  have H := HC3.out
  clear HC3
  by_cases c4 : a0 = (-1)
  ·rw [if_pos c4] at H
   have c4b0 : (a0 == (-1)) = true := beq_iff_eq.mpr c4
   have c4b1 : (a0 != (-1)) = false := bne_eq_false_iff_eq.mpr c4
   clear c4
   (first | rw [c4b0] | (simp only [i64_w, i32_w]; rw [c4b0]) | skip)
   have H' := Aside0.mk H
   clear H
   go_wp2
   go_meet
   case rel => exact ⟨_, (Go.bits .or .i64 0 4), (by first | rfl | (simp; done) | (simp [*]; done)), H', ⟨by first | omega | exact Nat.le_refl _⟩, by repeat (first | exact Drawn0.refl _ | apply Drawn0.step)⟩
  ·rw [if_neg c4] at H
   have c4b0 : (a0 == (-1)) = false := beq_eq_false_iff_ne.mpr c4
   have c4b1 : (a0 != (-1)) = true := bne_iff_ne.mpr c4
   (first | rw [c4b0] | (simp only [i64_w, i32_w]; rw [c4b0]) | skip)
   have H' := Aside0.mk H
   clear H
   go_wp2
   go_meet
   case rel => exact ⟨_, (0), (by first | rfl | (simp; done) | (simp [*]; done)), H', ⟨by first | omega | exact Nat.le_refl _⟩, by repeat (first | exact Drawn0.refl _ | apply Drawn0.step)⟩
 case rest =>
  clear HC3
  try clear p2
  try clear c3
  try clear c4
  try clear c4b0
  try clear c4b1
  obtain ⟨kq, x5_2, rfl, HA, HJ2, ⟨mc2, rfl⟩⟩ := hcut
  cases kq with
  | zero => exact absurd HA.out (by simp [spec_CondBetween.j0])
  | succ kj2 =>
   have H := HA.out
   clear HA
   simp only [spec_CondBetween.j0] at H
   have HC5 := Aside0.mk H
   clear H
   go_upto_region 4 with (fail)
   go_cut [15] (fun v15 wc => ∃ (kq : Nat) (x15_4 : Bool), v15 = .bool x15_4 ∧ Aside0 (spec_CondBetween.j1 kq a0 a1 x5_2 x15_4 = some r) ∧ Aside0 (kq ≤ kj2) ∧ Drawn0 w wc)
   case first =>
    have H := HC5.out
    clear HC5
    by_cases c6 : a0 = (-1)
    ·rw [if_pos c6] at H
     have c6b0 : (a0 == (-1)) = true := beq_iff_eq.mpr c6
     have c6b1 : (a0 != (-1)) = false := bne_eq_false_iff_eq.mpr c6
     clear c6
     (first | rw [c6b0] | (simp only [i64_w, i32_w]; rw [c6b0]) | skip)
     have H' := Aside0.mk H
     clear H
     go_wp2
     go_meet
     case rel => exact ⟨_, (true), (by first | rfl | (simp; done) | (simp [*]; done)), H', ⟨by have := HJ2.out; first | omega | exact Nat.le_refl _⟩, by repeat (first | exact Drawn0.refl _ | apply Drawn0.step)⟩
    ·rw [if_neg c6] at H
     have c6b0 : (a0 == (-1)) = false := beq_eq_false_iff_ne.mpr c6
     have c6b1 : (a0 != (-1)) = true := bne_iff_ne.mpr c6
     (first | rw [c6b0] | (simp only [i64_w, i32_w]; rw [c6b0]) | skip)
     have H' := Aside0.mk H
     clear H
     go_wp2
     go_meet
     case rel => exact ⟨_, ((a0 == 10)), (by first | rfl | (simp; done) | (simp [*]; done)), H', ⟨by have := HJ2.out; first | omega | exact Nat.le_refl _⟩, by repeat (first | exact Drawn0.refl _ | apply Drawn0.step)⟩
   case rest =>
    clear HC5
    try clear c2
    try clear p2
    try clear c3
    try clear c4
    try clear c4b0
    try clear c4b1
    try clear c6
    try clear c6b0
    try clear c6b1
    try clear p2
    obtain ⟨kq, x15_4, rfl, HA, HJ4, ⟨mc4, rfl⟩⟩ := hcut
    cases kq with
    | zero => exact absurd HA.out (by simp [spec_CondBetween.j1])
    | succ kj4 =>
     have H := HA.out
     clear HA
     simp only [spec_CondBetween.j1] at H
     have HC7 := Aside0.mk H
     clear H
     go_upto_if 15 with (fail)
     go_cut [5] (fun v5 wc => ∃ (kq : Nat) (x5_6 : Int), v5 = .int .i64 x5_6 ∧ Aside0 (spec_CondBetween.j2 kq a0 a1 x5_6 = some r) ∧ Aside0 (kq ≤ kj4) ∧ Drawn0 w wc)
     case first =>
      have H := HC7.out
      clear HC7
      by_cases c8 : x15_4 = true
      ·subst c8
       have H1 : (spec_CondBetween.j2 kj4 a0 a1 (Go.bits .or .i64 x5_2 1)) = some r := by rw [if_pos rfl] at H; exact H
       clear H
       have H := H1
       clear H1
       have H' := Aside0.mk H
       clear H
       go_wp2
       go_meet
       case rel => exact ⟨_, (Go.bits .or .i64 x5_2 1), (by first | rfl | (simp; done) | (simp [*]; done)), H', ⟨by have := HJ2.out; have := HJ4.out; first | omega | exact Nat.le_refl _⟩, by repeat (first | exact Drawn0.refl _ | apply Drawn0.step)⟩
      ·replace c8 := Bool.eq_false_iff.mpr c8
       subst c8
       have H1 : (spec_CondBetween.j2 kj4 a0 a1 x5_2) = some r := by rw [if_neg (show ¬ (false = true) by decide)] at H; exact H
       clear H
       have H := H1
       clear H1
       have H' := Aside0.mk H
       clear H
       go_wp2
       go_meet
       case rel => exact ⟨_, (x5_2), (by first | rfl | (simp; done) | (simp [*]; done)), H', ⟨by have := HJ2.out; have := HJ4.out; first | omega | exact Nat.le_refl _⟩, by repeat (first | exact Drawn0.refl _ | apply Drawn0.step)⟩
     case rest =>
      clear HC7
      try clear c2
      try clear p2
      try clear c3
      try clear c4
      try clear c4b0
      try clear c4b1
      try clear c6
      try clear c6b0
      try clear c6b1
      try clear c8
      try clear p2
      obtain ⟨kq, x5_6, rfl, HA, HJ6, ⟨mc6, rfl⟩⟩ := hcut
      cases kq with
      | zero => exact absurd HA.out (by simp [spec_CondBetween.j2])
      | succ kj6 =>
       have H := HA.out
       clear HA
       simp only [spec_CondBetween.j2] at H
       have HC9 := Aside0.mk H
       clear H
       go_upto_if 19 with (fail)
       go_cut [5] (fun v5 wc => ∃ (kq : Nat) (x5_8 : Int), v5 = .int .i64 x5_8 ∧ Aside0 (spec_CondBetween.j3 kq a0 a1 x5_8 = some r) ∧ Aside0 (kq ≤ kj6) ∧ Drawn0 w wc)
       case first =>
        have H := HC9.out
        clear HC9
        by_cases c10 : a1 = (-1)
        ·rw [if_pos c10] at H
         have c10b0 : (a1 == (-1)) = true := beq_iff_eq.mpr c10
         have c10b1 : (a1 != (-1)) = false := bne_eq_false_iff_eq.mpr c10
         clear c10
         (first | rw [c10b0] | (simp only [i64_w, i32_w]; rw [c10b0]) | skip)
         have H' := Aside0.mk H
         clear H
         go_wp2
         go_meet
         case rel => exact ⟨_, (Go.bits .or .i64 x5_6 8), (by first | rfl | (simp; done) | (simp [*]; done)), H', ⟨by have := HJ2.out; have := HJ4.out; have := HJ6.out; first | omega | exact Nat.le_refl _⟩, by repeat (first | exact Drawn0.refl _ | apply Drawn0.step)⟩
        ·rw [if_neg c10] at H
         have c10b0 : (a1 == (-1)) = false := beq_eq_false_iff_ne.mpr c10
         have c10b1 : (a1 != (-1)) = true := bne_iff_ne.mpr c10
         (first | rw [c10b0] | (simp only [i64_w, i32_w]; rw [c10b0]) | skip)
         have H' := Aside0.mk H
         clear H
         go_wp2
         go_meet
         case rel => exact ⟨_, (x5_6), (by first | rfl | (simp; done) | (simp [*]; done)), H', ⟨by have := HJ2.out; have := HJ4.out; have := HJ6.out; first | omega | exact Nat.le_refl _⟩, by repeat (first | exact Drawn0.refl _ | apply Drawn0.step)⟩
       case rest =>
        clear HC9
        try clear c1
        try clear c2
        try clear p2
        try clear c3
        try clear c4
        try clear c4b0
        try clear c4b1
        try clear c6
        try clear c6b0
        try clear c6b1
        try clear c8
        try clear c10
        try clear c10b0
        try clear c10b1
        try clear p2
        obtain ⟨kq, x5_8, rfl, HA, HJ8, ⟨mc8, rfl⟩⟩ := hcut
        cases kq with
        | zero => exact absurd HA.out (by simp [spec_CondBetween.j3])
        | succ kj8 =>
         have H := HA.out
         clear HA
         simp only [spec_CondBetween.j3] at H
         have HC11 := Aside0.mk H
         clear H
         go_upto_region 8 with (fail)
         go_cut [27] (fun v27 wc => ∃ (kq : Nat) (x27_10 : Bool), v27 = .bool x27_10 ∧ Aside0 (spec_CondBetween.j4 kq a0 a1 x5_8 x27_10 = some r) ∧ Aside0 (kq ≤ kj8) ∧ Drawn0 w wc)
         case first =>
          have H := HC11.out
          clear HC11
          by_cases c12 : a1 = (-1)
          ·rw [if_pos c12] at H
           have c12b0 : (a1 == (-1)) = true := beq_iff_eq.mpr c12
           have c12b1 : (a1 != (-1)) = false := bne_eq_false_iff_eq.mpr c12
           clear c12
           (first | rw [c12b0] | (simp only [i64_w, i32_w]; rw [c12b0]) | skip)
           have H' := Aside0.mk H
           clear H
           go_wp2
           go_meet
           case rel => exact ⟨_, (true), (by first | rfl | (simp; done) | (simp [*]; done)), H', ⟨by have := HJ2.out; have := HJ4.out; have := HJ6.out; have := HJ8.out; first | omega | exact Nat.le_refl _⟩, by repeat (first | exact Drawn0.refl _ | apply Drawn0.step)⟩
          ·rw [if_neg c12] at H
           have c12b0 : (a1 == (-1)) = false := beq_eq_false_iff_ne.mpr c12
           have c12b1 : (a1 != (-1)) = true := bne_iff_ne.mpr c12
           (first | rw [c12b0] | (simp only [i64_w, i32_w]; rw [c12b0]) | skip)
           have H' := Aside0.mk H
           clear H
           go_wp2
           go_meet
           case rel => exact ⟨_, ((a1 == 10)), (by first | rfl | (simp; done) | (simp [*]; done)), H', ⟨by have := HJ2.out; have := HJ4.out; have := HJ6.out; have := HJ8.out; first | omega | exact Nat.le_refl _⟩, by repeat (first | exact Drawn0.refl _ | apply Drawn0.step)⟩
         case rest =>
          clear HC11
          try clear c1
          try clear c2
          try clear p2
          try clear c3
          try clear c4
          try clear c4b0
          try clear c4b1
          try clear c6
          try clear c6b0
          try clear c6b1
          try clear c8
          try clear c10
          try clear c10b0
          try clear c10b1
          try clear c12
          try clear c12b0
          try clear c12b1
          try clear p2
          obtain ⟨kq, x27_10, rfl, HA, HJ10, ⟨mc10, rfl⟩⟩ := hcut
          cases kq with
          | zero => exact absurd HA.out (by simp [spec_CondBetween.j4])
          | succ kj10 =>
           have H := HA.out
           clear HA
           simp only [spec_CondBetween.j4] at H
           have HC13 := Aside0.mk H
           clear H
           go_upto_if 27 with (fail)
           go_cut [5] (fun v5 wc => ∃ (kq : Nat) (x5_12 : Int), v5 = .int .i64 x5_12 ∧ Aside0 (spec_CondBetween.j5 kq a0 a1 x5_12 = some r) ∧ Aside0 (kq ≤ kj10) ∧ Drawn0 w wc)
           case first =>
            have H := HC13.out
            clear HC13
            by_cases c14 : x27_10 = true
            ·subst c14
             have H1 : (spec_CondBetween.j5 kj10 a0 a1 (Go.bits .or .i64 x5_8 2)) = some r := by rw [if_pos rfl] at H; exact H
             clear H
             have H := H1
             clear H1
             have H' := Aside0.mk H
             clear H
             go_wp2
             go_meet
             case rel => exact ⟨_, (Go.bits .or .i64 x5_8 2), (by first | rfl | (simp; done) | (simp [*]; done)), H', ⟨by have := HJ2.out; have := HJ4.out; have := HJ6.out; have := HJ8.out; have := HJ10.out; first | omega | exact Nat.le_refl _⟩, by repeat (first | exact Drawn0.refl _ | apply Drawn0.step)⟩
            ·replace c14 := Bool.eq_false_iff.mpr c14
             subst c14
             have H1 : (spec_CondBetween.j5 kj10 a0 a1 x5_8) = some r := by rw [if_neg (show ¬ (false = true) by decide)] at H; exact H
             clear H
             have H := H1
             clear H1
             have H' := Aside0.mk H
             clear H
             go_wp2
             go_meet
             case rel => exact ⟨_, (x5_8), (by first | rfl | (simp; done) | (simp [*]; done)), H', ⟨by have := HJ2.out; have := HJ4.out; have := HJ6.out; have := HJ8.out; have := HJ10.out; first | omega | exact Nat.le_refl _⟩, by repeat (first | exact Drawn0.refl _ | apply Drawn0.step)⟩
           case rest =>
            clear HC13
            try clear c1
            try clear c2
            try clear p2
            try clear c3
            try clear c4
            try clear c4b0
            try clear c4b1
            try clear c6
            try clear c6b0
            try clear c6b1
            try clear c8
            try clear c10
            try clear c10b0
            try clear c10b1
            try clear c12
            try clear c12b0
            try clear c12b1
            try clear c14
            try clear p2
            obtain ⟨kq, x5_12, rfl, HA, HJ12, ⟨mc12, rfl⟩⟩ := hcut
            cases kq with
            | zero => exact absurd HA.out (by simp [spec_CondBetween.j5])
            | succ kj12 =>
             have H := HA.out
             clear HA
             simp only [spec_CondBetween.j5] at H
             replace H := Option.bind_eq_some_iff.mp H
             obtain ⟨t153, A150, H⟩ := H
             replace H : ((spec_reWord.f a1).bind fun t154 => (if (t153 != t154) = true then (some (Go.bits .or .i64 x5_12 16)) else (some (Go.bits .or .i64 x5_12 32)))) = some r := H
             have A15 := Aside0.mk A150
             clear A150
             replace H := Option.bind_eq_some_iff.mp H
             obtain ⟨t154, A160, H⟩ := H
             replace H : (if (t153 != t154) = true then (some (Go.bits .or .i64 x5_12 16)) else (some (Go.bits .or .i64 x5_12 32))) = some r := H
             have A16 := Aside0.mk A160
             clear A160
             by_cases c17 : (t153 != t154) = true
             ·rw [if_pos c17] at H
              have c17b0 : (t153 != t154) = true := c17
              (try (have c17b1 : decide (t153 = t154) = false := by simpa using c17))
              (try (have c17b2 : (t153 == t154) = false := by simpa using c17))
              (try (have c17b3 : ¬ (t153 = t154) := by simpa using c17))
              clear c17
              obtain rfl := Option.some.inj H
              go_wp2_with (first | ((with_reducible refine gate_callee (f := 52) rfl ?_); refine goesL_ (some 31) rfl rfl Tryd.func52 (by kernel_rfl) rfl #[.int .i32 a0] rfl (by (try simp only [List.map_toArray, List.map_cons, List.map_nil]); first | done | rfl | (simp only [List.length_drop, List.length_take]; rfl)) ?_; (with_reducible refine (spec_reWord.calls a0 t153 _ A15.out).mono ?_); rintro e w' ⟨rfl, ⟨nd, rfl⟩⟩; refine ⟨_, rfl, ?_⟩) | ((with_reducible refine gate_callee (f := 52) rfl ?_); refine goesL_ (some 33) rfl rfl Tryd.func52 (by kernel_rfl) rfl #[.int .i32 a1] rfl (by (try simp only [List.map_toArray, List.map_cons, List.map_nil]); first | done | rfl | (simp only [List.length_drop, List.length_take]; rfl)) ?_; (with_reducible refine (spec_reWord.calls a1 t154 _ A16.out).mono ?_); rintro e w' ⟨rfl, ⟨nd, rfl⟩⟩; refine ⟨_, rfl, ?_⟩))
              go_ret
              exact ⟨by first | rfl | (simp; done) | (simp [*]; done), by repeat (first | exact Drawn0.refl _ | apply Drawn0.step)⟩
             ·rw [if_neg c17] at H
              have c17b0 : (t153 != t154) = false := by simpa using c17
              (try (have c17b1 : decide (t153 = t154) = true := by simpa using c17))
              (try (have c17b2 : (t153 == t154) = true := by simpa using c17))
              clear c17
              obtain rfl := Option.some.inj H
              go_wp2_with (first | ((with_reducible refine gate_callee (f := 52) rfl ?_); refine goesL_ (some 31) rfl rfl Tryd.func52 (by kernel_rfl) rfl #[.int .i32 a0] rfl (by (try simp only [List.map_toArray, List.map_cons, List.map_nil]); first | done | rfl | (simp only [List.length_drop, List.length_take]; rfl)) ?_; (with_reducible refine (spec_reWord.calls a0 t153 _ A15.out).mono ?_); rintro e w' ⟨rfl, ⟨nd, rfl⟩⟩; refine ⟨_, rfl, ?_⟩) | ((with_reducible refine gate_callee (f := 52) rfl ?_); refine goesL_ (some 33) rfl rfl Tryd.func52 (by kernel_rfl) rfl #[.int .i32 a1] rfl (by (try simp only [List.map_toArray, List.map_cons, List.map_nil]); first | done | rfl | (simp only [List.length_drop, List.length_take]; rfl)) ?_; (with_reducible refine (spec_reWord.calls a1 t154 _ A16.out).mono ?_); rintro e w' ⟨rfl, ⟨nd, rfl⟩⟩; refine ⟨_, rfl, ?_⟩))
              go_ret
              exact ⟨by first | rfl | (simp; done) | (simp [*]; done), by repeat (first | exact Drawn0.refl _ | apply Drawn0.step)⟩
end Go.Proofs.YteoljppcafakpaaDoor.PFnPgSpan
