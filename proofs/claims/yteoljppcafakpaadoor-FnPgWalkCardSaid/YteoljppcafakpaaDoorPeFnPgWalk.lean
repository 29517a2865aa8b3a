import Derived.Test.YteoljppcafakpaaDoorPdFnPgWalk
namespace Go.Proofs.YteoljppcafakpaaDoor.PgFnPgWalk
open Go.RowKit Go.Proofs.YteoljppcafakpaaDoor.EvN Go.Proofs.YteoljppcafakpaaDoor.Row Go.Proofs.YteoljppcafakpaaDoor.PFnPgWalk Go.Proofs.YteoljppcafakpaaDoorW.PrintWords Go.Proofs.YteoljppcafakpaaDoorW.PrintLast Go.Proofs.YteoljppcafakpaaDoorW.PrintMore
attribute [local go_sem ↓] Go.wp_at_zero Go.wp_at_succ
structure PW (L : List I) : Prop where
  runes : ∀ i ∈ L, i.f3.length * 4 ≤ 140737488351232
theorem ins_lt (L : List I) (k : Nat) (h : k < L.length) : ins L k = L[k] := by unfold ins; rw [List.getD_eq_getElem?_getD, List.getElem?_eq_getElem h]; rfl
theorem inst_at {W0 w : World} {A : Option Addr} {L : List I} (h : Kd.C k29 W0 A L.length L) (hb : Below W0.heap.size W0 w) (k : Nat) (hk : k < L.length) :
    ∃ ad A3 c3, A = some ad ∧ w.cell? (ad.add (k * 4)) = some (.int .i64 L[k].f0) ∧ w.cell? ⟨(ad.add (k * 4)).block, (ad.add (k * 4)).off + 1, none⟩ = some (.int .i64 L[k].f1) ∧ w.cell? ⟨(ad.add (k * 4)).block, (ad.add (k * 4)).off + 2, none⟩ = some (.int .i64 L[k].f2) ∧ w.cell? ⟨(ad.add (k * 4)).block, (ad.add (k * 4)).off + 3, none⟩ = some (.slice A3 L[k].f3.length c3) ∧
      L[k].f3.length ≤ c3 ∧ Kd.C (Kd.int .i32) W0 A3 L[k].f3.length L[k].f3 := by
  obtain ⟨ad, A3, c3, e, h0, h1, h2, h3, l3, g3⟩ := at_T29 h (k : Int) (by omega) (by omega)
  rw [ins_nat, ins_lt L k hk] at *
  rw [Int.toNat_natCast] at *
  have mv : ∀ {a : Addr} {v : Value}, W0.cell? a = some v → w.cell? a = some v := fun hc => (hb.cell (World.block_lt_of_cell? W0 _ hc)).trans hc
  exact ⟨ad, A3, c3, e, mv h0, mv h1, mv h2, mv h3, l3, g3⟩
theorem inst_range {n : Nat} {nc : Int} {i : I} (h : instB n nc i = true) (hn : n ≤ 2000) (hnc : nc ≤ 2002) : (0 ≤ i.f0 ∧ i.f0 ≤ 10) ∧ (¬ (i.f0 = 4 ∨ i.f0 = 5) → 0 ≤ i.f1 ∧ i.f1 < 2000 ∧ (i.f0 ≠ 6 → i.f0 ≠ 9 → i.f0 ≠ 10 → i.f0 ≠ 8 → 0 ≤ i.f2 ∧ i.f2 < 4294967296)) := by
  unfold instB at h
  by_cases h45 : i.f0 = 4 ∨ i.f0 = 5
  · exact ⟨by omega, fun h => absurd h45 h⟩
  · rw [if_neg h45] at h
    by_cases ho : 0 ≤ i.f1 ∧ i.f1 < n
    · rw [if_neg (fun e => e ho)] at h
      refine ⟨?_, fun _ => ⟨ho.1, by omega, fun g6 g9 g10 g8 => ?_⟩⟩
      · repeat' split at h
        all_goals first | omega | cases h
      · repeat' split at h
        all_goals first
          | (exact absurd ‹i.f0 = 6› g6)
          | (exact absurd ‹i.f0 = 9› g9)
          | (exact absurd ‹i.f0 = 10› g10)
          | (exact absurd ‹i.f0 = 8› g8)
          | (cases h; done)
          | (simp only [Bool.and_eq_true, Bool.or_eq_true, decide_eq_true_eq] at h; omega)
    · rw [if_pos ho] at h; cases h
set_option maxRecDepth 100000 in
set_option maxHeartbeats 4000000 in
theorem prog_calls {L : List I} {st nc : Int} (h : PSound L st nc 2000) (hr : ∀ i ∈ L, i.f3.length * 4 ≤ 140737488351232) (W0 w : World) (A : Option Addr) (c : Nat) (hK : Kd.C k29 W0 A L.length L) (hc : L.length ≤ c) (hW : Below W0.heap.size W0 w) :
    Calls Tryd.prog 23 #[.agg #[.slice A L.length c, .int .i64 st, .int .i64 nc]] w fun e w' => ∃ p, e = .returned (.tuple #[.pointer (some ⟨p, 0, none⟩), .bool true]) ∧ w.heap.size ≤ p ∧ ProgAt w' p L st nc ∧ Below w.heap.size w w' := by
  have hu31 := Tryd.underlying29
  have hu24 := Tryd.underlying24
  have HK := Lib.hid hK
  have HS := Lib.hid h
  have HR := Lib.hid hr
  have HW := Lib.hid hW
  have HC := Lib.hid hc
  have hp1 := h.pos
  have hp2 : (L.length : Int) ≤ 2000 := h.most
  have hs0 := h.st0
  have hs1 := h.st1
  have hn0 := h.nc0
  have hn1 := h.nc1
  obtain ⟨ad, A3, c3, e, hx0, -, -, -, -, -⟩ := inst_at hK hW 0 hp1
  rw [← ins_lt L 0 hp1, h.first] at hx0
  cases e
  obtain ⟨kf, hkf⟩ := (ev_loops h (by omega)).get
  have HKF := Lib.hid hkf
  have HI : Hid (∀ k (hk : k < L.length), (0 ≤ L[k].f0 ∧ L[k].f0 ≤ 10) ∧ (¬ (L[k].f0 = 4 ∨ L[k].f0 = 5) → 0 ≤ L[k].f1 ∧ L[k].f1 < 4294967296)) := by
    intro k hk
    have h1 := inst_range (h.inst k hk) (by omega) hn1
    rw [ins_lt L k hk] at h1
    exact ⟨h1.1, fun g => ⟨(h1.2 g).1, by have := (h1.2 g).2.1; omega⟩⟩
  have e0 : ((L.length : Int) == 0) = false := by rw [beq_eq_false_iff_ne]; omega
  have d1 : decide ((2000 : Int) < (L.length : Int)) = false := decide_eq_false (by omega)
  have d2 : decide (st < 0) = false := decide_eq_false (by omega)
  have d3 : decide ((L.length : Int) ≤ st) = false := decide_eq_false (by omega)
  have d4 : decide (nc < 2) = false := decide_eq_false (by omega)
  have d5 : decide ((2002 : Int) < nc) = false := decide_eq_false (by omega)
  have ead : ad.add (0 * 4) = ad := by unfold Addr.add; split <;> simp_all
  rw [ead] at hx0
  clear ead
  have HX0 := Lib.hid hx0
  clear hK h hr hW hc hx0 hkf
  go_enter Tryd.func23, Tryd.ntmps23
  go_wp2_with (first | ((with_reducible refine gate_dst (N := 1) rfl ?_); refine box_event ?hg (N := 1) ?hd (cs := #[.slice (some ad) L.length c, .int .i64 st, .int .i64 nc]) (t := 24) ?hr ?_; (case hd => rfl); (case hg => rfl); (case hr => first | (go_simp; done) | (go_simp; rfl)); intro gb hg w1 hbox hb; have BK := Lib.hid hbox; have HB1 := Lib.hid hb; have GB : w.heap.size ≤ gb := (by omega); clear hg hbox hb; obtain ⟨hz0, hz1, hz2⟩ := blk3 BK.out; have hx0 := (HB1.out.cell (World.block_lt_of_cell? w _ HX0.out)).trans HX0.out) | ((with_reducible refine gate_dst (N := 53) rfl ?_); refine box_event ?hg (N := 53) ?hd (cs := #[.slice none 0 0, .int .i64 st, .int .i64 nc]) (t := 83) ?hr ?_; (case hd => rfl); (case hg => rfl); (case hr => first | (go_simp; done) | (go_simp; rfl)); intro p hg w2 hbox hb; have BP := Lib.hid hbox; have BK2 := Lib.hid (blk_below BK.out hb); have HB2 := Lib.hid (below_step HB1.out hb); have GP : gb < p := (by have := blk_lt BK.out; omega); clear hg hbox hb hz0 hz1 hz2 hx0; obtain ⟨hz0, hz1, hz2⟩ := blk3 BK2.out))
  have HPK : Hid (Pk w L st nc gb p #[.slice (some ad) L.length c, .int .i64 st, .int .i64 nc] 0 w2 (.slice none 0 0) []) :=
    Lib.hid ⟨GB, GP, BK2.out, BP.out, HB2.out, World.ownsRow_nil _ _ _ _, by simp [Value.ownBlock], by simp [Value.ownBlock], rfl, fun x hx => by cases hx⟩
  clear BP BK2 BK HB2 HB1 hz0 hz1 hz2 HX0
  go_loopg [57] L.length (fun gk s57 wr => ∃ (k : Nat) (vs : Value) (q : List (J × Value)), Hid (gk + k = L.length ∧ Pk w L st nc gb p #[.slice (some ad) L.length c, .int .i64 st, .int .i64 nc] k wr vs q) ∧ k ≤ L.length ∧ s57 = .int .i64 k)
  case atStart => exact ⟨0, _, [], ⟨by omega, HPK.out⟩, Nat.zero_le _, rfl⟩
  case round =>
    clear HPK
    obtain ⟨k, vs, q, HQ, hk, rfl⟩ := hrel
    by_cases hlt : k < L.length
    · obtain ⟨ad', A3', c3', e, hx0, hx1, hx2, hx3, l3, g3⟩ := inst_at HK.out (HW.out.trans (HQ.out.2.bl.mono HW.out.size)) k hlt
      cases e
      have HG3 := Lib.hid (And.intro l3 g3)
      clear l3 g3
      obtain ⟨hz0, hz1, hz2⟩ := blk3 HQ.out.2.bx
      go_wp2_with (first | ((with_reducible refine gate_dst (N := 6) rfl ?_); refine box_event ?hg (N := 6) ?hd (cs := #[.int .i64 0, .int .i64 0, .int .i64 0, .slice none 0 0]) (t := 29) ?hr ?_; (case hd => rfl); (case hg => rfl); (case hr => first | (go_simp; done) | (go_simp; rfl)); intro gc hg w5 hbox hb; have BC := Lib.hid hbox; have HB5 := Lib.hid hb; have GC : wr.heap.size ≤ gc := (by omega); have HQ5 := Lib.hid (HQ.out.2.below hb); have hgbc : gb ≠ gc := (by have := blk_lt HQ.out.2.bx; omega); clear hg hbox hb hz0 hz1 hz2; obtain ⟨hz0, hz1, hz2⟩ := blk3 HQ5.out.bx; obtain ⟨hv0, hv1, hv2, hv3⟩ := blk4 BC.out; have hq0 := blk_frozen BC.out 0; have hq1 := blk_frozen BC.out 1; have hq2 := blk_frozen BC.out 2; have hq3 := blk_frozen BC.out 3))
      clear hz0 hz1 hz2 hv0 hv1 hv2 hv3 hq0 hq1 hq2 hq3 hx0 hx1 hx2 hx3
      have HB6 := Lib.hid (set4_below HB5.out GC (.int .i64 L[k].f0) (.int .i64 L[k].f1) (.int .i64 L[k].f2) (.slice A3' L[k].f3.length c3'))
      have BC6 := Lib.hid (set4_blk BC.out (.int .i64 L[k].f0) (.int .i64 L[k].f1) (.int .i64 L[k].f2) (.slice A3' L[k].f3.length c3'))
      clear BC HB5 HQ5
      generalize hw6 : set4 w5 gc (.int .i64 L[k].f0) (.int .i64 L[k].f1) (.int .i64 L[k].f2) (.slice A3' L[k].f3.length c3') = w6 at *
      simp only [set4] at hw6
      rw [hw6]
      clear hw6
      have HQ6 := Lib.hid (HQ.out.2.below HB6.out)
      have HW6 := Lib.hid (HW.out.trans (HQ6.out.bl.mono HW.out.size))
      have HFT : Hid (∃ kf, impl_fitInst.f kf L[k].f0 L[k].f1 L[k].f2 L[k].f3 L st nc = some true) := by
        have h1 := HS.out.inst k hlt
        rw [ins_lt L k hlt] at h1
        exact Lib.hid (ev_fit L st nc L[k] (by have := HR.out _ (List.getElem_mem hlt); omega) h1).get
      obtain ⟨kt, hkt⟩ := HFT.out
      have HKT := Lib.hid hkt
      clear hkt HFT
      refine (impl_fitInst.calls kt L[k].f0 L[k].f1 L[k].f2 A3' c3' L[k].f3 (some ad) c L st nc true w6 (Kd.C_below HG3.out.2 HW6.out) HG3.out.1 (Kd.C_below HK.out HW6.out) HC.out HKT.out).mono ?_
      rintro e w7 ⟨rfl, hb7⟩
      have HB7 := Lib.hid (below_step HB6.out hb7)
      have HQ7 := Lib.hid (HQ6.out.below hb7)
      have BC7 := Lib.hid (blk_below BC6.out hb7)
      clear hb7 HQ6 BC6 HW6 HKT
      obtain ⟨hz0, hz1, hz2⟩ := blk3 HQ7.out.nd
      obtain ⟨hv0, hv1, hv2, hv3⟩ := blk4 BC7.out
      have hpgc : p ≠ gc := by have := blk_lt HQ.out.2.nd; omega
      have hgcp : gc ≠ p := Ne.symm hpgc
      go_wp2_with fail
      have HGK := Lib.hid HQ.out.1
      obtain ⟨i0, hi0, hi1, hi2, hi3⟩ := info_parts iinst
      have HM : Hid (k + 1 ≤ maxLen ∧ (k + 1) * 40 ≤ 140737488355328 ∧ w.heap.size ≤ w7.heap.size) := Lib.hid ⟨by unfold maxLen; omega, by omega, by have := HQ7.out.bl.size; exact this⟩
      have HNGC : Hid (some gc ≠ vs.ownBlock) := Lib.hid (fun e => by have := (HQ.out.2.ow.lt gc e.symm).2; omega)
      have HIK := Lib.hid (HI.out k hlt)
      have HRK := Lib.hid (HR.out _ (List.getElem_mem hlt))
      have HKI := Lib.hid (k29_mk W0 L[k] HG3.out.1 HG3.out.2)
      go_region_law
        (first
          | (go_simp; go_at_call 44; refine (inst_calls L[k] HIK.out.1 HIK.out.2 HRK.out W0 _ _ HKI.out ?hb).mono ?_; (case hb => exact below_drew (HW.out.trans (HQ7.out.bl.mono HW.out.size))); rintro e w8 ⟨vr, rfl, hrow, hbel⟩; obtain ⟨Ar, cr, rfl, hcr, hkr⟩ := hrow.kd; have HREG := Lib.hid hrow; have HB8 := Lib.hid (below_step (below_drew HB7.out) hbel); have HQ8 := Lib.hid ((HQ7.out.below (below_drew (Below.refl w7.heap.size w7))).below hbel); have BC8 := Lib.hid (blk_below (blk_drew BC7.out) hbel); have hp27 := (blk3 HQ8.out.nd).1; have hp27a : ∀ o, (w8.alloc o).cell? ⟨p, 0, none⟩ = some vs := (fun o => (blk3 (blk_alloc HQ8.out.nd o)).1); clear hrow hbel hcr hkr)
          | (refine step_append_lies _ (by rfl) _ _ _ (by rfl) w.heap.size 87 i0 _ 4 40 Tryd.underlying81 hi0 hi1 hi2 hi3 rfl (by omega) vs k (flatJ q) (by rfl) (HQ8.out.ow.alloc _) ⟨w8.heap.size, 0, none⟩ 1 1 [.int .u8 (pin L[k]).f0, .int .u32 (pin L[k]).f1, .int .u32 (pin L[k]).f2, .slice Ar (pin L[k]).f3.length cr] (by rfl) (by rfl) (World.news_of_block (cs := #[.int .u8 (pin L[k]).f0, .int .u32 (pin L[k]).f1, .int .u32 (pin L[k]).f2, .slice Ar (pin L[k]).f3.length cr]) (t := 87) (fr := (0, 0)) (heap_alloc_new w8 _)) (by simp [Value.oneCell']) (by omega) HM.out.1 HM.out.2.1 (by have := HQ8.out.bl.size; simp; omega) (w8.heap.size + 1) (by simp) ?_; intro gg cap w9 hown9 hgrow9 hat9 hlt9; have HOWN := Lib.hid hown9; have HGROW := Lib.hid hgrow9; have HAT := Lib.hid hat9; have HP9 := Lib.hid ((hgrow9.block p (blk_lt (blk_alloc HQ8.out.nd _)) (fun e => HQ8.out.np e.symm)).trans (blk_alloc HQ8.out.nd _)); have BC9 := Lib.hid ((hgrow9.block gc (blk_lt (blk_alloc BC8.out _)) (HNGC.out)).trans (blk_alloc BC8.out _)); have hfz9 := blk_frozen HP9.out 0; have hc9 := (blk3 HP9.out).1; clear hown9 hgrow9 hat9 hlt9)
          | (trace_state; fail))
      all_goals
        have HF := Lib.hid (HQ.out.2.step hlt (below_alloc HB8.out (.cells #[.int .u8 (pin L[k]).f0, .int .u32 (pin L[k]).f1, .int .u32 (pin L[k]).f2, .slice Ar (pin L[k]).f3.length cr] 87)) (HREG.out.mono fun i hi hs => ⟨Nat.le_trans HB7.out.size hs.1, Below.heap_alloc _ _ _ hi⟩) HOWN.out HGROW.out (by have := HAT.out; simpa using this))
        go_wp2_with fail
        go_roundg (gk - 1)
        case measure => have := HGK.out; omega
        case rel => exact ⟨k + 1, _, _, ⟨by have := HGK.out; omega, HF.out⟩, by omega, by go_num⟩
    · have hke : k = L.length := by omega
      subst hke
      obtain ⟨hz0, hz1, hz2⟩ := blk3 HQ.out.2.bx
      go_wp2_with fail
      have HW6 := Lib.hid (HW.out.trans (HQ.out.2.bl.mono HW.out.size))
      refine (impl_loops.calls kf (some ad) c L st nc false _ (Kd.C_below HK.out HW6.out) HC.out HKF.out).mono ?_
      rintro e w7 ⟨rfl, hb7⟩
      have HQ7 := Lib.hid (HQ.out.2.below hb7)
      clear hb7 hz0 hz1 hz2
      go_wp2_with fail
      go_ret2
      exact ⟨p, rfl, by omega, HQ7.out.done hp1 (by omega), HQ7.out.bl⟩
end Go.Proofs.YteoljppcafakpaaDoor.PgFnPgWalk
