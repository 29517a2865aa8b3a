/- The walk of regexpOf. -/
import Derived.Test.YtofkpinikkfmeaaDoorRtFnMtLeast
import Derived.Deep.RegionLaw
namespace Go.Proofs.YtofkpinikkfmeaaDoor.TrFnMtLeast
open Go.RowKit Go.Proofs.YtofkpinikkfmeaaDoor.PFnMtLeast Go.Proofs.YtofkpinikkfmeaaDoorW.PrintWords Go.Proofs.YtofkpinikkfmeaaDoorW.PrintLast Go.Proofs.YtofkpinikkfmeaaDoorW.PrintMore
attribute [local go_sem ↓] Go.wp_at_zero Go.wp_at_succ

abbrev MakeSaid (t : T) : Prop := TW t → ∀ (W0 w : World) (cs : List Value), k25.K W0 t cs → Below W0.heap.size W0 w →
    Calls Tryd.prog 20 #[.agg cs.toArray] w fun e w' => ∃ b, e = .returned (ptr b) ∧ RegAt w' (fun i => w.heap.size ≤ i ∧ i < w'.heap.size) b t ∧ Below w.heap.size w w'

theorem iptr : (Tryd.prog.info? 33).map (fun i => (i.zero, i.size, i.bytes)) = some (some (.pointer none), 1, 8) := by kernel_rfl
theorem iru : (Tryd.prog.info? 21).map (fun i => (i.zero, i.size, i.bytes)) = some (some (.int .i32 0), 1, 4) := by kernel_rfl

set_option maxRecDepth 100000 in
set_option maxHeartbeats 4000000 in
theorem make_calls (t : T) : MakeSaid t := by
  refine tree_ind (p := MakeSaid) ?_ t
  intro t ih hT W0 w cs hK hW
  obtain ⟨A2, c2, A7, c7, rfl, l2, g2, l7, g7⟩ := k25_open hK
  obtain ⟨_, w0, w1, w2, w3, w4, w5, w6, w7, w8, w9⟩ := hT
  have hu40 := Tryd.underlying25
  have HIH := Lib.hid ih
  have HG2 := Lib.hid (And.intro l2 g2)
  have HG7 := Lib.hid (And.intro l7 g7)
  have HW := Lib.hid hW
  have HT := Lib.hid (And.intro w0 (And.intro w1 (And.intro w2 (And.intro w7 (And.intro w8 w9)))))
  clear w0 w1 w2 w3 w4 w5 w6 w7 w8 w9 ih l2 g2 l7 g7 hW hK
  go_enter Tryd.func20, Tryd.ntmps20
  go_wp2_with (first | ((with_reducible refine gate_dst (N := 1) rfl ?_); refine box_event ?hg (N := 1) ?hd (cs := #[.int .i64 t.f0, .int .i64 t.f1, .slice A2 t.f2.length c2, .int .i64 t.f3, .int .i64 t.f4, .int .i64 t.f5, .string t.f6, .slice A7 t.f7.length c7]) (t := 25) ?hr ?_; (case hd => rfl); (case hg => rfl); (case hr => first | (go_simp; done) | (go_simp; rfl)); intro gb hg w1 hbox hb; have BK := Lib.hid hbox; have HB := Lib.hid hb; have GE : w.heap.size ≤ gb := (by omega); clear hg hbox hb; obtain ⟨hz0, hz1, hz2, hz3, hz4, hz5, hz6, hz7⟩ := blk8 BK.out) | ((with_reducible refine gate_dst (N := 21) rfl ?_); refine box_event ?hg (N := 21) ?hd (cs := #[.int .u8 (t.f0 % 256), .int .u16 (IntKind.u16.wrap t.f1), .slice none 0 0, .pointer none, .slice none 0 0, .int .i32 0, .int .i32 0, .int .i64 t.f3, .int .i64 t.f4, .int .i64 t.f5, .string t.f6]) (t := 59) ?hr ?_; (case hd => rfl); (case hg => rfl); (case hr => first | (go_simp; done) | (go_simp; rfl)); intro p hg w2 hbox hb; have BP := Lib.hid hbox; have BK2 := Lib.hid (blk_below BK.out hb); have HB2 := Lib.hid (below_step HB.out hb); have GP : gb < p := (by have := blk_lt BK.out; omega); clear hg hbox hb hz0 hz1 hz2 hz3 hz4 hz5 hz6 hz7 HB BK; obtain ⟨hz0, hz1, hz2, hz3, hz4, hz5, hz6, hz7⟩ := blk8 BK2.out) | (at_builtin; refine appn rfl (.const (.slice none 0 0)) (.tmp 24) 22 rfl 21 (.int .i32 0) 4 Tryd.underlying22 iru rfl rfl A2 t.f2.length c2 (t.f2.map (.int .i32)) rfl (by simp) (runes_cells HG2.out.2 ?hbb) ?h1 ?h2 ?h3 ?_; (case hbb => exact HW.out.trans (HB2.out.mono HW.out.size)); (case h1 => intro u hu; rw [List.mem_map] at hu; obtain ⟨_, _, rfl⟩ := hu; rfl); (case h2 => have := HT.out.2.2.2.2.1; omega); (case h3 => have := HT.out.2.2.2.2.1; unfold maxLen; omega); intro vr w3 hown hb3; obtain ⟨Ar, cr, rfl⟩ := owns_slice hown; have HR := Lib.hid hown; have HB3 := Lib.hid hb3; have BP3 := Lib.hid (blk_below BP.out hb3); have BK3 := Lib.hid (blk_below BK2.out hb3); have hfp := blk_frozen BP3.out 4; clear hz0 hz1 hz2 hz3 hz4 hz5 hz6 hz7; clear hown hb3; obtain ⟨hy0, hy1, hy2, hy3, hy4, hy5, hy6, hy7, hy8, hy9, hy10⟩ := blk11 BP3.out; have hz7 := (blk8 BK3.out).2.2.2.2.2.2.2))
  have hpw : w.heap.size ≤ p := by omega
  have hf7 : t.f7.length ≤ 9223372036854775807 := HG7.out.2.2.1
  have HMK : Hid (Mk w t gb p #[.int .i64 t.f0, .int .i64 t.f1, .slice A2 t.f2.length c2, .int .i64 t.f3, .int .i64 t.f4, .int .i64 t.f5, .string t.f6, .slice A7 t.f7.length c7] (.slice Ar t.f2.length cr) 0 (w3.setCell ⟨p, 4, none⟩ (.slice Ar t.f2.length cr)) (.slice none 0 0) []) := by
    have GPL : p < w2.heap.size := blk_lt BP.out
    refine ⟨GE, GP, blk_far (p := ⟨p, 4, none⟩) BK3.out (by show gb ≠ p; omega) _, (blk_set BP3.out 4 _).trans rfl, below_set (below_step HB2.out HB3.out) hpw, ?_, World.ownsRow_nil _ _ _ _, by simp [Value.ownBlock], by simp [Value.ownBlock], rfl, fun j hj => by simp at hj⟩
    refine RowAt.mono (RowAt.of_owns HR.out (S := fun i => w2.heap.size ≤ i) (fun g hg => (HR.out.lt g hg).1)) fun i hi hs => ⟨⟨Nat.le_trans HB2.out.size hs, by omega, by simp [Value.ownBlock]⟩, Below.heap_setCell _ _ _ i (by show i ≠ p; omega)⟩
  clear hy0 hy1 hy2 hy3 hy4 hy5 hy6 hy7 hy8 hy9 hy10 hz7 hfp BP BP3 BK2 BK3 HB2 HB3 HR
  generalize w3.setCell ⟨p, 4, none⟩ (.slice Ar t.f2.length cr) = w4 at *
  go_loopg [31] t.f7.length (fun gk s31 wr => ∃ (k : Nat) (vs : Value) (bs : List Nat), Hid (gk + k = t.f7.length ∧ Mk w t gb p #[.int .i64 t.f0, .int .i64 t.f1, .slice A2 t.f2.length c2, .int .i64 t.f3, .int .i64 t.f4, .int .i64 t.f5, .string t.f6, .slice A7 t.f7.length c7] (.slice Ar t.f2.length cr) k wr vs bs) ∧ k ≤ t.f7.length ∧ s31 = .int .i64 k)
  case atStart => exact ⟨0, _, [], ⟨by omega, HMK.out⟩, Nat.zero_le _, rfl⟩
  case round =>
    clear HMK
    obtain ⟨k, vs, bs, HI, hk, rfl⟩ := hrel
    by_cases hlt : k < t.f7.length
    · obtain ⟨ad, A2', c2', A7', c7', e, hx0, hx1, hx2, hx3, hx4, hx5, hx6, hx7, hK'⟩ := sub_at HG7.out.2 (HW.out.trans (HI.out.2.bl.mono HW.out.size)) k hlt
      cases e
      have HK := Lib.hid hK'
      have hp2 := (blk11 HI.out.2.nd).2.2.1
      clear hK'
      go_upto_region 6 with (first | ((with_reducible refine gate_dst (N := 5) rfl ?_); refine box_event ?hg (N := 5) ?hd (cs := #[.int .i64 0, .int .i64 0, .slice none 0 0, .int .i64 0, .int .i64 0, .int .i64 0, .string (⟨#[]⟩ : ByteArray), .slice none 0 0]) (t := 25) ?hr ?_; (case hd => rfl); (case hg => rfl); (case hr => first | (go_simp; done) | (go_simp; rfl)); intro gc hg w5 hbox hb; have BC := Lib.hid hbox; have HB5 := Lib.hid hb; have GC : wr.heap.size ≤ gc := (by omega); have hpgc : p ≠ gc := (by have := blk_lt HI.out.2.nd; omega); have hgcp : gc ≠ p := (Ne.symm hpgc); replace hp2 := (hb.cell (World.block_lt_of_cell? wr _ hp2)).trans hp2; clear hg hbox hb; obtain ⟨hz0, hz1, hz2, hz3, hz4, hz5, hz6, hz7⟩ := blk8 BC.out; have hq0 := blk_frozen BC.out 0; have hq1 := blk_frozen BC.out 1; have hq2 := blk_frozen BC.out 2; have hq3 := blk_frozen BC.out 3; have hq4 := blk_frozen BC.out 4; have hq5 := blk_frozen BC.out 5; have hq6 := blk_frozen BC.out 6; have hq7 := blk_frozen BC.out 7))
      clear hz0 hz1 hz2 hz3 hz4 hz5 hz6 hz7 hq0 hq1 hq2 hq3 hq4 hq5 hq6 hq7 hx0 hx1 hx2 hx3 hx4 hx5 hx6 hx7
      have HB6 := Lib.hid (set8_below HB5.out GC (.int .i64 t.f7[k].f0) (.int .i64 t.f7[k].f1) (.slice A2' t.f7[k].f2.length c2') (.int .i64 t.f7[k].f3) (.int .i64 t.f7[k].f4) (.int .i64 t.f7[k].f5) (.string t.f7[k].f6) (.slice A7' t.f7[k].f7.length c7'))
      have BC6 := Lib.hid (set8_blk BC.out (.int .i64 t.f7[k].f0) (.int .i64 t.f7[k].f1) (.slice A2' t.f7[k].f2.length c2') (.int .i64 t.f7[k].f3) (.int .i64 t.f7[k].f4) (.int .i64 t.f7[k].f5) (.string t.f7[k].f6) (.slice A7' t.f7[k].f7.length c7'))
      clear BC HB5 hp2
      generalize hw6 : set8 w5 gc (.int .i64 t.f7[k].f0) (.int .i64 t.f7[k].f1) (.slice A2' t.f7[k].f2.length c2') (.int .i64 t.f7[k].f3) (.int .i64 t.f7[k].f4) (.int .i64 t.f7[k].f5) (.string t.f7[k].f6) (.slice A7' t.f7[k].f7.length c7') = w6 at *
      simp only [set8] at hw6
      rw [hw6]
      clear hw6
      obtain ⟨hz0, hz1, hz2, hz3, hz4, hz5, hz6, hz7⟩ := blk8 BC6.out
      have HI6 := Lib.hid (HI.out.2.below HB6.out)
      have hp2 := (blk11 HI6.out.nd).2.2.1
      have HGK := Lib.hid HI.out.1
      have HIH' := Lib.hid (HIH.out t.f7[k] (List.getElem_mem hlt) (HT.out.2.2.2.1 _ (List.getElem_mem hlt)))
      obtain ⟨i0, hi0, hi1, hi2, hi3⟩ := info_parts iptr
      have HM : Hid (k + 1 ≤ maxLen ∧ (k + 1) * 8 ≤ 140737488355328 ∧ w.heap.size ≤ w6.heap.size) := by have := HT.out.2.2.2.2.2; have := (below_step HI.out.2.bl HB6.out).size; unfold Hid; exact ⟨by unfold maxLen; omega, by omega, this⟩
      have HNGC : Hid (some gc ≠ vs.ownBlock) := Lib.hid (fun e => by have := (HI.out.2.ow.lt gc e.symm).2; omega)
      go_region_law
        (first
          | (go_simp; go_at_call 20; refine (HIH'.out W0 _ _ HK.out ?hb).mono ?_; (case hb => exact below_drew (HW.out.trans ((below_step HI.out.2.bl HB6.out).mono HW.out.size))); rintro e w7 ⟨b, rfl, hreg, hbel⟩; have HREG := Lib.hid hreg; have HB7 := Lib.hid (below_step (below_drew HB6.out) hbel); have HI7 := Lib.hid ((HI6.out.below (below_drew (Below.refl w6.heap.size w6))).below hbel); have BC7 := Lib.hid (blk_below (blk_drew BC6.out) hbel); have hp27 := (blk11 HI7.out.nd).2.2.1; have hp27a : ∀ o, (w7.alloc o).cell? ⟨p, 2, none⟩ = some vs := (fun o => (blk11 (blk_alloc HI7.out.nd o)).2.2.1); clear hreg hbel)
          | (refine step_append_lies _ (by rfl) _ _ _ (by rfl) w.heap.size 33 i0 _ 1 8 Tryd.underlying55 hi0 hi1 hi2 hi3 rfl (by omega) vs k (bs.map ptr) (by rfl) (HI7.out.ow.alloc _) ⟨w7.heap.size, 0, none⟩ 1 1 [ptr b] (by rfl) (by rfl) (World.news_of_block (cs := #[ptr b]) (t := 33) (fr := (0, 0)) (heap_alloc_new w7 _)) (by simp [Value.oneCell']) (by omega) HM.out.1 HM.out.2.1 (by have := HI7.out.bl.size; simp; omega) (w7.heap.size + 1) (by simp) ?_; intro gg cap w8 hown8 hgrow8 hat8 hlt8; have HOWN := Lib.hid hown8; have HGROW := Lib.hid hgrow8; have HAT := Lib.hid hat8; have HP8 := Lib.hid ((hgrow8.block p (blk_lt (blk_alloc HI7.out.nd _)) (fun e => HI7.out.np e.symm)).trans (blk_alloc HI7.out.nd _)); have BC8 := Lib.hid ((hgrow8.block gc (blk_lt (blk_alloc BC7.out _)) (HNGC.out)).trans (blk_alloc BC7.out _)); have hfz8 := blk_frozen HP8.out 2; have hc8 := (blk11 HP8.out).2.2.1; clear hown8 hgrow8 hat8 hlt8)
          | (trace_state; fail))
      all_goals
        have HF := Lib.hid (HI.out.2.step hlt (below_alloc HB7.out (.cells #[ptr b] 33)) (HREG.out.mono fun i hi hs => ⟨Nat.le_trans HB6.out.size hs.1, Below.heap_alloc _ _ _ hi⟩) HOWN.out HGROW.out (by have := HAT.out; simpa using this))
        go_wp2_with fail
        go_roundg (gk - 1)
        case measure => have := HGK.out; omega
        case rel => exact ⟨k + 1, _, _, ⟨by have := HGK.out; omega, HF.out⟩, by omega, by go_num⟩
    · have hke : k = t.f7.length := by omega
      subst hke
      go_wp2_with fail
      go_ret
      exact ⟨p, rfl, HI.out.2.done, HI.out.2.bl⟩
end Go.Proofs.YtofkpinikkfmeaaDoor.TrFnMtLeast
