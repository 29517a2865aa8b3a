/- The walk of the law FnSyCaps. -/
import Derived.Test.YtaogbmljadaplaaPwFnSyCaps
import Derived.Test.YtaogbmljadaplaaPFnSyCapsx4
import Derived.Test.YtaogbmljadaplaaPFnSyCapsx1
namespace Go.Proofs.Ytaogbmljadaplaa.TrFnSyCaps
open Go.RowKit Go.Proofs.Ytaogbmljadaplaa.PFnSyCaps Go.Proofs.YtaogbmljadaplaaW.PrintWords Go.Proofs.YtaogbmljadaplaaW.PrintLast Go.Proofs.YtaogbmljadaplaaW.PrintMore

theorem fits_some (t : T) : ∃ r, laws_zzFits1.f t.f0 t.f1 t.f2 t.f3 t.f4 t.f5 t.f6 t.f7 = some r := by
  unfold laws_zzFits1.f
  repeat' split
  all_goals exact ⟨_, rfl⟩
theorem sytree_some (t : T) (hT : TW t) : ∃ k, laws_syTree.f k t.f0 t.f1 t.f2 t.f3 t.f4 t.f5 t.f6 t.f7 = some (sound t 2000) := by
  obtain ⟨K, hK⟩ := Ev.bind (g := fun _ a => some a) (ev_sound t hT 2000) (Ev.const _)
  exact ⟨K, hK K (Nat.le_refl _)⟩

theorem NamesAt.cell {w : World} {g : Nat} {ns : List ByteArray} (h : NamesAt w g ns) (k : Nat) (hk : k < ns.length) : w.cell? ⟨g, k, none⟩ = some (.string ns[k]) := by
  rw [blk_cell h]; simp [hk]

set_option maxRecDepth 100000 in
set_option maxHeartbeats 4000000 in
theorem law_calls (t : T) (hT : TW t) (w : World) (cs : List Value) (hK : k40.K w t cs) :
    Calls Try.prog 8 #[.agg cs.toArray] w fun e w' => e = .returned (.bool true) ∧ Below w.heap.size w w' := by
  obtain ⟨A2, c2, A7, c7, rfl, l2, g2, l7, g7⟩ := k40_open hK
  have hu40 := Try.underlying40
  have HG2 := Lib.hid (And.intro l2 g2)
  have HG7 := Lib.hid (And.intro l7 g7)
  have HT := Lib.hid hT
  have HMK : Hid (∀ w', Below w.heap.size w w' → k40.K w' t [.int .i64 t.f0, .int .i64 t.f1, .slice A2 t.f2.length c2, .int .i64 t.f3, .int .i64 t.f4, .int .i64 t.f5, .string t.f6, .slice A7 t.f7.length c7]) :=
    Lib.hid fun w' hb => k40_mk w' t HG2.out.1 (Kd.C_below HG2.out.2 hb) HG7.out.1 (Kd.C_below HG7.out.2 hb)
  obtain ⟨r1, hr1⟩ := fits_some t
  obtain ⟨ks, hks⟩ := sytree_some t hT
  have HR1 := Lib.hid hr1
  have HKS := Lib.hid hks
  clear hK hT l2 g2 l7 g7 hr1 hks
  go_enter Try.func8, Try.ntmps8
  go_wp2_with (first | ((with_reducible refine gate_dst (N := 1) rfl ?_); refine box_event ?hg (N := 1) ?hd (cs := #[.int .i64 t.f0, .int .i64 t.f1, .slice A2 t.f2.length c2, .int .i64 t.f3, .int .i64 t.f4, .int .i64 t.f5, .string t.f6, .slice A7 t.f7.length c7]) (t := 40) ?hr ?_; (case hd => rfl); (case hg => rfl); (case hr => first | (go_simp; done) | (go_simp; rfl)); intro gb hg w1 hbox hb; have BK := Lib.hid hbox; have HB1 := Lib.hid hb; clear hg hbox hb; obtain ⟨hz0, hz1, hz2, hz3, hz4, hz5, hz6, hz7⟩ := blk8 BK.out))
  clear hz0 hz1 hz2 hz3 hz4 hz5 hz6 hz7
  refine (laws_zzFits1.calls t.f0 t.f1 A2 c2 t.f2 t.f3 t.f4 t.f5 t.f6 A7 c7 t.f7 r1 _ (Kd.C_below HG2.out.2 HB1.out) HG2.out.1 (Kd.C_below HG7.out.2 HB1.out) HG7.out.1 HR1.out).mono ?_
  rintro e w2 ⟨rfl, hb2⟩
  have BK2 := Lib.hid (blk_below BK.out hb2)
  have HB2 := Lib.hid (below_step HB1.out hb2)
  clear hb2 BK HB1
  obtain ⟨hz0, hz1, hz2, hz3, hz4, hz5, hz6, hz7⟩ := blk8 BK2.out
  cases r1
  · go_wp2_with fail
    go_ret
    exact ⟨rfl, HB2.out⟩
  · go_wp2_with fail
    clear hz0 hz1 hz2 hz3 hz4 hz5 hz6 hz7
    refine (laws_syTree.calls ks t.f0 t.f1 A2 c2 t.f2 t.f3 t.f4 t.f5 t.f6 A7 c7 t.f7 _ _ (Kd.C_below HG2.out.2 HB2.out) HG2.out.1 (Kd.C_below HG7.out.2 HB2.out) HG7.out.1 HKS.out).mono ?_
    rintro e w3 ⟨rfl, hb3⟩
    have BK3 := Lib.hid (blk_below BK2.out hb3)
    have HB3 := Lib.hid (below_step HB2.out hb3)
    clear hb3 BK2 HB2
    obtain ⟨hz0, hz1, hz2, hz3, hz4, hz5, hz6, hz7⟩ := blk8 BK3.out
    cases hsd : sound t 2000
    · go_wp2_with fail
      go_ret
      exact ⟨rfl, HB3.out⟩
    · have HS := Lib.hid (sound_says t HT.out 2000 (by omega) hsd)
      have HGR := Lib.hid (groups t 2000 (by omega) HS.out)
      clear hsd HKS HR1
      go_wp2_with fail
      clear hz0 hz1 hz2 hz3 hz4 hz5 hz6 hz7
      refine (symax_calls t HS.out.alls HT.out w3 _ (HMK.out w3 HB3.out) (by have := HS.out.dep; omega) (by have := HS.out.cnt; omega) (by have := HS.out.cop; omega)).mono ?_
      rintro e w4 ⟨rfl, hb4⟩
      have BK4 := Lib.hid (blk_below BK3.out hb4)
      have HB4 := Lib.hid (below_step HB3.out hb4)
      clear hb4 BK3 HB3
      obtain ⟨hz0, hz1, hz2, hz3, hz4, hz5, hz6, hz7⟩ := blk8 BK4.out
      go_wp2_with fail
      clear hz0 hz1 hz2 hz3 hz4 hz5 hz6 hz7
      refine (synames_calls t HS.out.alls HT.out w4 _ (HMK.out w4 HB4.out) (by have := HS.out.dep; omega) (by have := HS.out.cnt; omega) (by have := HS.out.cop; omega) HGR.out.1 HGR.out.2.1 HGR.out.2.2.2.1).mono ?_
      rintro e w5 ⟨g1, rfl, hn5, hg5, hb5⟩
      have BK5 := Lib.hid (blk_below BK4.out hb5)
      have HB5 := Lib.hid (below_step HB4.out hb5)
      have HN5 := Lib.hid hn5
      clear hb5 BK4 HB4 hn5 hg5
      obtain ⟨hz0, hz1, hz2, hz3, hz4, hz5, hz6, hz7⟩ := blk8 BK5.out
      go_wp2_with fail
      clear hz0 hz1 hz2 hz3 hz4 hz5 hz6 hz7
      refine (spnames_calls t w5 _ (HMK.out w5 HB5.out) (by rw [HGR.out.2.2.1]; exact HGR.out.1) (by rw [HGR.out.2.2.1]; exact HGR.out.2.1) HGR.out.2.2.2.2.1).mono ?_
      rintro e w6 ⟨g2, rfl, hn6, hg6, hb6⟩
      rw [HGR.out.2.2.1, HGR.out.2.2.2.2.2] at hn6
      rw [HGR.out.2.2.1]
      have BK6 := Lib.hid (blk_below BK5.out hb6)
      have HB6 := Lib.hid (below_step HB5.out hb6)
      have HN6 := Lib.hid (blk_below HN5.out hb6)
      have HM6 := Lib.hid hn6
      clear hb6 BK5 HB5 hn6 hg6 HN5
      obtain ⟨hz0, hz1, hz2, hz3, hz4, hz5, hz6, hz7⟩ := blk8 BK6.out
      go_wp2_with fail
      clear hz0 hz1 hz2 hz3 hz4 hz5 hz6 hz7
      refine (spmax_calls t w6 _ (HMK.out w6 HB6.out)).mono ?_
      rintro e w7 ⟨rfl, hb7⟩
      rw [HGR.out.2.2.1]
      have HB7 := Lib.hid (below_step HB6.out hb7)
      have HN7 := Lib.hid (blk_below HN6.out hb7)
      have HM7 := Lib.hid (blk_below HM6.out hb7)
      clear hb7 HN6 HM6 HB6 BK6
      have hL : (cn (empties (mc t + 1).toNat) t).length = (mc t + 1).toNat := by rw [cn_length]; simp
      have hL2 : (mc t + 1).toNat ≤ 2001 := by have := HGR.out.2.1; omega
      have HL := Lib.hid hL
      generalize hmc : mc t = m at *
      generalize hLn : (m + 1).toNat = L at *
      clear hL hLn hmc
      generalize cn (empties L) t = ns at *
      go_wp2_with fail
      go_loopg [49] L (fun gk s49 wr => ∃ (k : Nat), Hid (gk + k = L ∧ w7 = wr) ∧ k ≤ L ∧ s49 = .int .i64 k)
      case atStart => exact ⟨0, ⟨by omega, rfl⟩, Nat.zero_le _, rfl⟩
      case round =>
        obtain ⟨k, HI, hk, rfl⟩ := hrel
        obtain rfl := HI.out.2
        by_cases hlt : k < L
        · have hc1 := NamesAt.cell HN7.out k (by rw [HL.out]; exact hlt)
          have hc2 := NamesAt.cell HM7.out k (by rw [HL.out]; exact hlt)
          generalize ns[k]'(by rw [HL.out]; exact hlt) = s at *
          go_wp2_with fail
          go_roundg (gk - 1)
          case measure => have := HI.out.1; omega
          case rel => exact ⟨k + 1, ⟨by have := HI.out.1; omega, rfl⟩, by omega, by go_num⟩
        · have hke : k = L := by omega
          subst hke
          go_wp2_with fail
          go_ret
          exact ⟨rfl, HB7.out⟩
end Go.Proofs.Ytaogbmljadaplaa.TrFnSyCaps
