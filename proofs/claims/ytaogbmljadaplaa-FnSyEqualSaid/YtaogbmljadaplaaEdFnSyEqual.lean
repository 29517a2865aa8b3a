/- The walk of impl.SyEqual, and of the law FnSyEqual. -/
import Derived.Test.YtaogbmljadaplaaEcFnSyEqual
import Derived.Test.YtaogbmljadaplaaPFnSyEqualx4
import Derived.Test.YtaogbmljadaplaaPFnSyEqualx1
namespace Go.Proofs.Ytaogbmljadaplaa.TrFnSyEqual
open Go.RowKit Go.Proofs.Ytaogbmljadaplaa.PFnSyEqual Go.Proofs.YtaogbmljadaplaaW.PrintWords Go.Proofs.YtaogbmljadaplaaW.PrintLast Go.Proofs.YtaogbmljadaplaaW.PrintMore

structure Fit (t : T) : Prop where
  alls : AllS t
  tw : TW t
  dep : 1 + dep t ≤ 10000
  cnt : cnt t ≤ 50000
  cop : cop t ≤ 50000
  shp : AllN Shp t

set_option maxRecDepth 100000 in
set_option maxHeartbeats 4000000 in
theorem syeq_calls (x y : T) (hx : Fit x) (hy : Fit y) (w : World) (cs ds : List Value) (hK : k40.K w x cs) (hK' : k40.K w y ds) :
    Calls Try.prog 26 #[.agg cs.toArray, .agg ds.toArray] w fun e w' => e = .returned (.tuple #[.bool (same x y), .bool true]) ∧ Below w.heap.size w w' := by
  obtain ⟨A2, c2, A7, c7, rfl, l2, g2, l7, g7⟩ := k40_open hK
  obtain ⟨A2', c2', A7', c7', rfl, l2', g2', l7', g7'⟩ := k40_open hK'
  have hu40 := Try.underlying40
  have HX := Lib.hid hx
  have HY := Lib.hid hy
  have HG := Lib.hid (And.intro l2 (And.intro g2 (And.intro l7 g7)))
  have HG' := Lib.hid (And.intro l2' (And.intro g2' (And.intro l7' g7')))
  clear hK hK' hx hy l2 g2 l7 g7 l2' g2' l7' g7'
  go_enter Try.func26, Try.ntmps26
  go_wp2_with (first | ((with_reducible refine gate_dst (N := 2) rfl ?_); refine box_event ?hg (N := 2) ?hd (cs := #[.int .i64 x.f0, .int .i64 x.f1, .slice A2 x.f2.length c2, .int .i64 x.f3, .int .i64 x.f4, .int .i64 x.f5, .string x.f6, .slice A7 x.f7.length c7]) (t := 40) ?hr ?_; (case hd => rfl); (case hg => rfl); (case hr => first | (go_simp; done) | (go_simp; rfl)); intro gb hg w1 hbox hb; have BK := Lib.hid hbox; have HB1 := Lib.hid hb; clear hg hbox hb) | ((with_reducible refine gate_dst (N := 3) rfl ?_); refine box_event ?hg (N := 3) ?hd (cs := #[.int .i64 y.f0, .int .i64 y.f1, .slice A2' y.f2.length c2', .int .i64 y.f3, .int .i64 y.f4, .int .i64 y.f5, .string y.f6, .slice A7' y.f7.length c7']) (t := 40) ?hr ?_; (case hd => rfl); (case hg => rfl); (case hr => first | (go_simp; done) | (go_simp; rfl)); intro gc hg w2 hbox hb; have BC := Lib.hid hbox; have BK2 := Lib.hid (blk_below BK.out hb); have HB2 := Lib.hid (below_step HB1.out hb); clear hg hbox hb; obtain ⟨hz0, hz1, hz2, hz3, hz4, hz5, hz6, hz7⟩ := blk8 BK2.out))
  clear hz0 hz1 hz2 hz3 hz4 hz5 hz6 hz7 BK HB1
  refine (tree_calls x HX.out.alls HX.out.tw w2 _ (k40_mk w2 x HG.out.1 (Kd.C_below HG.out.2.1 HB2.out) HG.out.2.2.1 (Kd.C_below HG.out.2.2.2 HB2.out)) HX.out.dep HX.out.cnt HX.out.cop).mono ?_
  rintro e w3 ⟨a, rfl, hr, hb3⟩
  have HR := Lib.hid hr
  have HB3 := Lib.hid (below_step HB2.out hb3)
  have BC3 := Lib.hid (blk_below BC.out hb3)
  clear hr hb3 BC BK2
  obtain ⟨hz0, hz1, hz2, hz3, hz4, hz5, hz6, hz7⟩ := blk8 BC3.out
  go_wp2_with fail
  clear hz0 hz1 hz2 hz3 hz4 hz5 hz6 hz7
  refine (tree_calls y HY.out.alls HY.out.tw w3 _ (k40_mk w3 y HG'.out.1 (Kd.C_below HG'.out.2.1 HB3.out) HG'.out.2.2.1 (Kd.C_below HG'.out.2.2.2 HB3.out)) HY.out.dep HY.out.cnt HY.out.cop).mono ?_
  rintro e w4 ⟨b, rfl, hr, hb4⟩
  have HR' := Lib.hid hr
  have HRa := Lib.hid (HR.out.mono (w' := w4) (S' := fun i => w2.heap.size ≤ i ∧ i < w3.heap.size) fun i hi hs => ⟨hs, hb4.block i hi⟩)
  have HB4 := Lib.hid (below_step HB3.out hb4)
  clear hr hb4 HR BC3
  go_wp2_with fail
  refine (eq_calls x y HX.out.shp HY.out.shp _ _ _ a b HRa.out HR'.out).mono ?_
  rintro e w5 ⟨rfl, hd5⟩
  have HB5 := Lib.hid (below_step HB4.out hd5.below)
  clear hd5
  go_wp2_with fail
  go_ret2
  exact ⟨rfl, HB5.out⟩

theorem fits_some (t : T) : ∃ r, laws_zzFits1.f t.f0 t.f1 t.f2 t.f3 t.f4 t.f5 t.f6 t.f7 = some r := by
  unfold laws_zzFits1.f
  repeat' split
  all_goals exact ⟨_, rfl⟩
theorem sytree_some (t : T) (hT : TW t) : ∃ k, laws_syTree.f k t.f0 t.f1 t.f2 t.f3 t.f4 t.f5 t.f6 t.f7 = some (sound t 2000) := by
  obtain ⟨K, hK⟩ := Ev.bind (g := fun _ a => some a) (ev_sound t hT 2000) (Ev.const _)
  exact ⟨K, hK K (Nat.le_refl _)⟩
theorem fit_of {t : T} (hT : TW t) (h : sound t 2000 = true) : Fit t := by
  have hs := sound_says t hT 2000 (by omega) h
  exact ⟨hs.alls, hT, by have := hs.dep; omega, by have := hs.cnt; omega, by have := hs.cop; omega, shp_all t hT hs.node⟩

set_option maxRecDepth 100000 in
set_option maxHeartbeats 4000000 in
theorem law_calls (x y : T) (hX : TW x) (hY : TW y) (w : World) (cs ds : List Value) (hK : k40.K w x cs) (hK' : k40.K w y ds) :
    Calls Try.prog 9 #[.agg cs.toArray, .agg ds.toArray] w fun e w' => e = .returned (.bool true) ∧ Below w.heap.size w w' := by
  obtain ⟨A2, c2, A7, c7, rfl, l2, g2, l7, g7⟩ := k40_open hK
  obtain ⟨A2', c2', A7', c7', rfl, l2', g2', l7', g7'⟩ := k40_open hK'
  have hu40 := Try.underlying40
  have HX := Lib.hid hX
  have HY := Lib.hid hY
  have HG := Lib.hid (And.intro l2 (And.intro g2 (And.intro l7 g7)))
  have HG' := Lib.hid (And.intro l2' (And.intro g2' (And.intro l7' g7')))
  have HMX : Hid (∀ w', Below w.heap.size w w' → k40.K w' x [.int .i64 x.f0, .int .i64 x.f1, .slice A2 x.f2.length c2, .int .i64 x.f3, .int .i64 x.f4, .int .i64 x.f5, .string x.f6, .slice A7 x.f7.length c7]) :=
    Lib.hid fun w' hb => k40_mk w' x HG.out.1 (Kd.C_below HG.out.2.1 hb) HG.out.2.2.1 (Kd.C_below HG.out.2.2.2 hb)
  have HMY : Hid (∀ w', Below w.heap.size w w' → k40.K w' y [.int .i64 y.f0, .int .i64 y.f1, .slice A2' y.f2.length c2', .int .i64 y.f3, .int .i64 y.f4, .int .i64 y.f5, .string y.f6, .slice A7' y.f7.length c7']) :=
    Lib.hid fun w' hb => k40_mk w' y HG'.out.1 (Kd.C_below HG'.out.2.1 hb) HG'.out.2.2.1 (Kd.C_below HG'.out.2.2.2 hb)
  obtain ⟨r1, hr1⟩ := fits_some x
  obtain ⟨r2, hr2⟩ := fits_some y
  obtain ⟨ks, hks⟩ := sytree_some x hX
  obtain ⟨ks', hks'⟩ := sytree_some y hY
  obtain ⟨ke, hke⟩ := ev_same x y hX
  have HR1 := Lib.hid hr1
  have HR2 := Lib.hid hr2
  have HKS := Lib.hid hks
  have HKS' := Lib.hid hks'
  have HKE := Lib.hid (hke ke (Nat.le_refl _))
  clear hK hK' hX hY l2 g2 l7 g7 l2' g2' l7' g7' hr1 hr2 hks hks' hke
  go_enter Try.func9, Try.ntmps9
  go_wp2_with (first | ((with_reducible refine gate_dst (N := 2) rfl ?_); refine box_event ?hg (N := 2) ?hd (cs := #[.int .i64 x.f0, .int .i64 x.f1, .slice A2 x.f2.length c2, .int .i64 x.f3, .int .i64 x.f4, .int .i64 x.f5, .string x.f6, .slice A7 x.f7.length c7]) (t := 40) ?hr ?_; (case hd => rfl); (case hg => rfl); (case hr => first | (go_simp; done) | (go_simp; rfl)); intro gb hg w1 hbox hb; have BK := Lib.hid hbox; have HB1 := Lib.hid hb; clear hg hbox hb) | ((with_reducible refine gate_dst (N := 3) rfl ?_); refine box_event ?hg (N := 3) ?hd (cs := #[.int .i64 y.f0, .int .i64 y.f1, .slice A2' y.f2.length c2', .int .i64 y.f3, .int .i64 y.f4, .int .i64 y.f5, .string y.f6, .slice A7' y.f7.length c7']) (t := 40) ?hr ?_; (case hd => rfl); (case hg => rfl); (case hr => first | (go_simp; done) | (go_simp; rfl)); intro gc hg w2 hbox hb; have BC := Lib.hid hbox; have BK2 := Lib.hid (blk_below BK.out hb); have HB2 := Lib.hid (below_step HB1.out hb); clear hg hbox hb; obtain ⟨hz0, hz1, hz2, hz3, hz4, hz5, hz6, hz7⟩ := blk8 BK2.out; obtain ⟨hv0, hv1, hv2, hv3, hv4, hv5, hv6, hv7⟩ := blk8 BC.out))
  clear BK HB1
  refine (laws_zzFits1.calls x.f0 x.f1 A2 c2 x.f2 x.f3 x.f4 x.f5 x.f6 A7 c7 x.f7 r1 _ (Kd.C_below HG.out.2.1 HB2.out) HG.out.1 (Kd.C_below HG.out.2.2.2 HB2.out) HG.out.2.2.1 HR1.out).mono ?_
  rintro e w3 ⟨rfl, hb⟩
  have HB3 := Lib.hid (below_step HB2.out hb)
  have BK3 := Lib.hid (blk_below BK2.out hb)
  have BC3 := Lib.hid (blk_below BC.out hb)
  clear hb BK2 BC HB2 hz0 hz1 hz2 hz3 hz4 hz5 hz6 hz7 hv0 hv1 hv2 hv3 hv4 hv5 hv6 hv7
  obtain ⟨hz0, hz1, hz2, hz3, hz4, hz5, hz6, hz7⟩ := blk8 BK3.out
  obtain ⟨hv0, hv1, hv2, hv3, hv4, hv5, hv6, hv7⟩ := blk8 BC3.out
  cases r1
  · go_wp2_with fail
    go_ret
    exact ⟨rfl, HB3.out⟩
  · go_wp2_with fail
    refine (laws_zzFits1.calls y.f0 y.f1 A2' c2' y.f2 y.f3 y.f4 y.f5 y.f6 A7' c7' y.f7 r2 _ (Kd.C_below HG'.out.2.1 HB3.out) HG'.out.1 (Kd.C_below HG'.out.2.2.2 HB3.out) HG'.out.2.2.1 HR2.out).mono ?_
    rintro e w4 ⟨rfl, hb⟩
    have HB4 := Lib.hid (below_step HB3.out hb)
    have BK4 := Lib.hid (blk_below BK3.out hb)
    have BC4 := Lib.hid (blk_below BC3.out hb)
    clear hb BK3 BC3 HB3 hz0 hz1 hz2 hz3 hz4 hz5 hz6 hz7 hv0 hv1 hv2 hv3 hv4 hv5 hv6 hv7
    obtain ⟨hz0, hz1, hz2, hz3, hz4, hz5, hz6, hz7⟩ := blk8 BK4.out
    obtain ⟨hv0, hv1, hv2, hv3, hv4, hv5, hv6, hv7⟩ := blk8 BC4.out
    cases r2
    · go_wp2_with fail
      go_ret
      exact ⟨rfl, HB4.out⟩
    · go_wp2_with fail
      refine (laws_syTree.calls ks x.f0 x.f1 A2 c2 x.f2 x.f3 x.f4 x.f5 x.f6 A7 c7 x.f7 _ _ (Kd.C_below HG.out.2.1 HB4.out) HG.out.1 (Kd.C_below HG.out.2.2.2 HB4.out) HG.out.2.2.1 HKS.out).mono ?_
      rintro e w5 ⟨rfl, hb⟩
      have HB5 := Lib.hid (below_step HB4.out hb)
      have BK5 := Lib.hid (blk_below BK4.out hb)
      have BC5 := Lib.hid (blk_below BC4.out hb)
      clear hb BK4 BC4 HB4 hz0 hz1 hz2 hz3 hz4 hz5 hz6 hz7 hv0 hv1 hv2 hv3 hv4 hv5 hv6 hv7
      obtain ⟨hz0, hz1, hz2, hz3, hz4, hz5, hz6, hz7⟩ := blk8 BK5.out
      obtain ⟨hv0, hv1, hv2, hv3, hv4, hv5, hv6, hv7⟩ := blk8 BC5.out
      cases hsd : sound x 2000
      · go_wp2_with fail
        go_ret
        exact ⟨rfl, HB5.out⟩
      · have FX := Lib.hid (fit_of HX.out hsd)
        clear hsd HKS HR1 HR2
        go_wp2_with fail
        refine (laws_syTree.calls ks' y.f0 y.f1 A2' c2' y.f2 y.f3 y.f4 y.f5 y.f6 A7' c7' y.f7 _ _ (Kd.C_below HG'.out.2.1 HB5.out) HG'.out.1 (Kd.C_below HG'.out.2.2.2 HB5.out) HG'.out.2.2.1 HKS'.out).mono ?_
        rintro e w6 ⟨rfl, hb⟩
        have HB6 := Lib.hid (below_step HB5.out hb)
        have BK6 := Lib.hid (blk_below BK5.out hb)
        have BC6 := Lib.hid (blk_below BC5.out hb)
        clear hb BK5 BC5 HB5 hz0 hz1 hz2 hz3 hz4 hz5 hz6 hz7 hv0 hv1 hv2 hv3 hv4 hv5 hv6 hv7
        obtain ⟨hz0, hz1, hz2, hz3, hz4, hz5, hz6, hz7⟩ := blk8 BK6.out
        obtain ⟨hv0, hv1, hv2, hv3, hv4, hv5, hv6, hv7⟩ := blk8 BC6.out
        cases hsd : sound y 2000
        · go_wp2_with fail
          go_ret
          exact ⟨rfl, HB6.out⟩
        · have FY := Lib.hid (fit_of HY.out hsd)
          clear hsd HKS'
          go_wp2_with fail
          refine (syeq_calls x y FX.out FY.out w6 _ _ (HMX.out w6 HB6.out) (HMY.out w6 HB6.out)).mono ?_
          rintro e w7 ⟨rfl, hb⟩
          have HB7 := Lib.hid (below_step HB6.out hb)
          have BK7 := Lib.hid (blk_below BK6.out hb)
          have BC7 := Lib.hid (blk_below BC6.out hb)
          clear hb BK6 BC6 HB6 hz0 hz1 hz2 hz3 hz4 hz5 hz6 hz7 hv0 hv1 hv2 hv3 hv4 hv5 hv6 hv7
          obtain ⟨hz0, hz1, hz2, hz3, hz4, hz5, hz6, hz7⟩ := blk8 BK7.out
          obtain ⟨hv0, hv1, hv2, hv3, hv4, hv5, hv6, hv7⟩ := blk8 BC7.out
          go_wp2_with fail
          refine (syeq_calls y x FY.out FX.out w7 _ _ (HMY.out w7 HB7.out) (HMX.out w7 HB7.out)).mono ?_
          rw [same_comm y x]
          rintro e w8 ⟨rfl, hb⟩
          have HB8 := Lib.hid (below_step HB7.out hb)
          have BK8 := Lib.hid (blk_below BK7.out hb)
          have BC8 := Lib.hid (blk_below BC7.out hb)
          clear hb BK7 BC7 HB7 hz0 hz1 hz2 hz3 hz4 hz5 hz6 hz7 hv0 hv1 hv2 hv3 hv4 hv5 hv6 hv7
          obtain ⟨hz0, hz1, hz2, hz3, hz4, hz5, hz6, hz7⟩ := blk8 BK8.out
          obtain ⟨hv0, hv1, hv2, hv3, hv4, hv5, hv6, hv7⟩ := blk8 BC8.out
          go_wp2_with fail
          refine (syeq_calls x x FX.out FX.out w8 _ _ (HMX.out w8 HB8.out) (HMX.out w8 HB8.out)).mono ?_
          rw [same_self x]
          rintro e w9 ⟨rfl, hb⟩
          have HB9 := Lib.hid (below_step HB8.out hb)
          have BK9 := Lib.hid (blk_below BK8.out hb)
          have BC9 := Lib.hid (blk_below BC8.out hb)
          clear hb BK8 BC8 HB8 hz0 hz1 hz2 hz3 hz4 hz5 hz6 hz7 hv0 hv1 hv2 hv3 hv4 hv5 hv6 hv7
          obtain ⟨hz0, hz1, hz2, hz3, hz4, hz5, hz6, hz7⟩ := blk8 BK9.out
          obtain ⟨hv0, hv1, hv2, hv3, hv4, hv5, hv6, hv7⟩ := blk8 BC9.out
          generalize same x y = sb at *
          go_wp2_with fail
          refine (spec_SySame.calls ke x.f0 x.f1 A2 c2 x.f2 x.f3 x.f4 x.f5 x.f6 A7 c7 x.f7 y.f0 y.f1 A2' c2' y.f2 y.f3 y.f4 y.f5 y.f6 A7' c7' y.f7 sb _ (Kd.C_below HG.out.2.1 HB9.out) HG.out.1 (Kd.C_below HG.out.2.2.2 HB9.out) HG.out.2.2.1 (Kd.C_below HG'.out.2.1 HB9.out) HG'.out.1 (Kd.C_below HG'.out.2.2.2 HB9.out) HG'.out.2.2.1 HKE.out).mono ?_
          rintro e w10 ⟨rfl, hb⟩
          have HB10 := Lib.hid (below_step HB9.out hb)
          clear hb
          go_wp2_with fail
          go_ret
          exact ⟨by simp, HB10.out⟩
end Go.Proofs.Ytaogbmljadaplaa.TrFnSyEqual
