/- The walks of spec.SyMaxCap and spec.SyNames. -/
import Derived.Test.YtaogbmljadaplaaSwFnSyCaps
namespace Go.Proofs.Ytaogbmljadaplaa.TrFnSyCaps
open Go.RowKit Go.Proofs.Ytaogbmljadaplaa.PFnSyCaps Go.Proofs.YtaogbmljadaplaaW.PrintWords Go.Proofs.YtaogbmljadaplaaW.PrintLast Go.Proofs.YtaogbmljadaplaaW.PrintMore
attribute [local go_sem] max2_int min2_int max_two min_two max_three min_three max_four min_four

def stM (t : T) (m : Int) : Int := if t.f0 = 13 then (if m < t.f5 then t.f5 else m) else m
abbrev IM (B : Nat) (m : Int) (w : World) : Prop := w.heap[B]? = some (.cells #[.int .i64 m] 3 (0, 0))

set_option maxRecDepth 100000 in
set_option maxHeartbeats 4000000 in
theorem stepM_calls (B B0 : Nat) (hB : B0 ≤ B) : StepSaid stM (IM B) (fun _ => True) 44 (ptr B) B B0 := by
  intro t m W0 w cs _ _ hK hW hI
  obtain ⟨A2, c2, A7, c7, rfl, l2, g2, l7, g7⟩ := k40_open hK
  have hu40 := Try.underlying40
  have HI := Lib.hid hI
  clear l2 g2 l7 g7 hW hK hI
  by_cases h13 : t.f0 = 13
  all_goals
    go_enter Try.func44, Try.ntmps44
    go_wp2_with (first | ((with_reducible refine gate_dst (N := 2) rfl ?_); refine box_event ?hg (N := 2) ?hd (cs := #[.int .i64 t.f0, .int .i64 t.f1, .slice A2 t.f2.length c2, .int .i64 t.f3, .int .i64 t.f4, .int .i64 t.f5, .string t.f6, .slice A7 t.f7.length c7]) (t := 40) ?hr ?_; (case hd => rfl); (case hg => rfl); (case hr => first | (go_simp; done) | (go_simp; rfl)); intro gb hg w1 hbox hb; have BK := Lib.hid hbox; have HB1 := Lib.hid hb; have GE : w.heap.size ≤ gb := (by omega); have HI1 := Lib.hid (blk_below HI.out hb); have hm0 := blk1 HI1.out; have hmf := blk_frozen HI1.out 0; clear hg hbox hb; obtain ⟨hz0, hz1, hz2, hz3, hz4, hz5, hz6, hz7⟩ := blk8 BK.out))
  · go_end0
    exact ⟨rfl, (blk_set HI1.out 0 _).trans (by show some (Obj.cells #[Value.int .i64 t.f5] 3 (0, 0)) = _; rw [stM, if_pos h13, if_pos (by assumption)]), grown_set (grown_of_below HB1.out (some B)) 0 _⟩
  · go_end0
    exact ⟨rfl, (blk_set HI1.out 0 _).trans (by show some (Obj.cells #[Value.int .i64 m] 3 (0, 0)) = _; rw [stM, if_pos h13, if_neg (by omega)]), grown_set (grown_of_below HB1.out (some B)) 0 _⟩
  · go_end0
    exact ⟨rfl, by rw [stM, if_neg h13]; exact HI1.out, grown_of_below HB1.out (some B)⟩

theorem allT_true (t : T) : AllT (fun _ => True) t := tree_ind (p := AllT fun _ => True) (fun t ih => .mk t trivial ih) t

set_option maxRecDepth 100000 in
set_option maxHeartbeats 4000000 in
theorem spmax_calls (t : T) (w : World) (cs : List Value) (hK : k40.K w t cs) :
    Calls Try.prog 25 #[.agg cs.toArray] w fun e w' => e = .returned (.int .i64 (wk stM t 0)) ∧ Below w.heap.size w w' := by
  obtain ⟨A2, c2, A7, c7, rfl, l2, g2, l7, g7⟩ := k40_open hK
  have hu40 := Try.underlying40
  have HK := Lib.hid (k40_mk w t l2 g2 l7 g7)
  clear hK l2 g2 l7 g7
  go_enter Try.func25, Try.ntmps25
  go_wp2_with (first | ((with_reducible refine gate_dst (N := 1) rfl ?_); refine box_event ?hg (N := 1) ?hd (cs := #[.int .i64 t.f0, .int .i64 t.f1, .slice A2 t.f2.length c2, .int .i64 t.f3, .int .i64 t.f4, .int .i64 t.f5, .string t.f6, .slice A7 t.f7.length c7]) (t := 40) ?hr ?_; (case hd => rfl); (case hg => rfl); (case hr => first | (go_simp; done) | (go_simp; rfl)); intro gb hg w1 hbox hb; have BK := Lib.hid hbox; have HB1 := Lib.hid hb; have GE : w.heap.size ≤ gb := (by omega); clear hg hbox hb; obtain ⟨hz0, hz1, hz2, hz3, hz4, hz5, hz6, hz7⟩ := blk8 BK.out) | ((with_reducible refine gate_dst (N := 3) rfl ?_); refine box_event ?hg (N := 3) ?hd (cs := #[.int .i64 0]) (t := 3) ?hr ?_; (case hd => rfl); (case hg => rfl); (case hr => first | (go_simp; done) | (go_simp; rfl)); intro gn hg w2 hbox hb; have BN := Lib.hid hbox; have BK2 := Lib.hid (blk_below BK.out hb); have HB2 := Lib.hid (below_step HB1.out hb); have GN : gb < gn := (by have := blk_lt BK.out; omega); clear hg hbox hb hz0 hz1 hz2 hz3 hz4 hz5 hz6 hz7; obtain ⟨hz0, hz1, hz2, hz3, hz4, hz5, hz6, hz7⟩ := blk8 BK2.out; have hn0 := blk1 BN.out; have hnf := blk_frozen BN.out 0; have hne1 : gb ≠ gn := (by omega); have hne2 : gn ≠ gb := (by omega)))
  have hwg : w.heap.size ≤ gn := by omega
  have BNs : Hid (IM gn 0 (w2.setCell ⟨gn, 0, none⟩ (.int .i64 0))) := Lib.hid ((blk_set BN.out 0 (.int .i64 0)).trans rfl)
  have HBs := Lib.hid (below_set (j := 0) (v := .int .i64 0) HB2.out hwg)
  clear hz0 hz1 hz2 hz3 hz4 hz5 hz6 hz7 hn0 hnf BN BK2 HB2
  generalize w2.setCell ⟨gn, 0, none⟩ (.int .i64 0) = w2s at *
  refine (walk_calls stM (IM gn) (fun _ => True) 44 (ptr gn) gn w.heap.size (.inr rfl) hwg (fun _ _ h => blk_lt h) (fun _ _ _ h hb => blk_below h hb) (stepM_calls gn w.heap.size hwg) t (allT_true t) 0 w w2s _ rfl HK.out HBs.out BNs.out).mono ?_
  rintro e w3 ⟨rfl, hi3, hg3⟩
  have HI3 := Lib.hid hi3
  have HB3 := Lib.hid (HBs.out.grown hg3 HBs.out.size (fun k hk => by cases hk; omega))
  have hn3 := blk1 HI3.out
  clear hi3 hg3
  go_wp2_with fail
  go_ret
  exact ⟨rfl, HB3.out⟩

def stN (t : T) (ns : List ByteArray) : List ByteArray := if t.f0 = 13 then (if 0 < t.f5 then ns.set t.f5.toNat t.f6 else ns) else ns
abbrev IN (Bv g L : Nat) (ns : List ByteArray) (w : World) : Prop := ns.length = L ∧ NamesAt w g ns ∧ w.heap[Bv]? = some (.cells #[.slice (some ⟨g, 0, none⟩) L L] 44 (0, 0))

set_option maxRecDepth 100000 in
set_option maxHeartbeats 4000000 in
theorem stepN_calls (Bv g L B0 : Nat) (hne : Bv ≠ g) (hB : B0 ≤ g) (hL : L ≤ 100000) : StepSaid stN (IN Bv g L) (fun t => t.f0 = 13 → t.f5 < L) 43 (ptr Bv) g B0 := by
  intro t ns W0 w cs hp _ hK hW hI
  obtain ⟨A2, c2, A7, c7, rfl, l2, g2, l7, g7⟩ := k40_open hK
  have hu40 := Try.underlying40
  have HI := Lib.hid hI
  have HP := Lib.hid hp
  clear l2 g2 l7 g7 hW hK hI hp
  by_cases h13 : t.f0 = 13
  · have hp1 := HP.out h13
    by_cases h0 : 0 < t.f5
    · have hgt : ((t.f5.toNat : Nat) : Int) = t.f5 := by omega
      have h00 : 0 ≤ t.f5 := by omega
      go_enter Try.func43, Try.ntmps43
      go_wp2_with (first | ((with_reducible refine gate_dst (N := 2) rfl ?_); refine box_event ?hg (N := 2) ?hd (cs := #[.int .i64 t.f0, .int .i64 t.f1, .slice A2 t.f2.length c2, .int .i64 t.f3, .int .i64 t.f4, .int .i64 t.f5, .string t.f6, .slice A7 t.f7.length c7]) (t := 40) ?hr ?_; (case hd => rfl); (case hg => rfl); (case hr => first | (go_simp; done) | (go_simp; rfl)); intro gb hg w1 hbox hb; have BK := Lib.hid hbox; have HB1 := Lib.hid hb; have GE : w.heap.size ≤ gb := (by omega); have HI1 := Lib.hid (blk_below HI.out.2.1 hb); have HV1 := Lib.hid (blk_below HI.out.2.2 hb); have hv0 := blk1 HV1.out; have hgf := blk_frozen HI1.out t.f5.toNat; have hgc : w1.cell? ⟨g, t.f5.toNat, none⟩ = some (.string (ns[t.f5.toNat]'(by have := HI.out.1; omega))) := (by rw [blk_cell HI1.out]; simp); clear hg hbox hb; obtain ⟨hz0, hz1, hz2, hz3, hz4, hz5, hz6, hz7⟩ := blk8 BK.out))
      go_end0
      refine ⟨rfl, ⟨?_, ?_, ?_⟩, grown_set (grown_of_below HB1.out (some g)) _ _⟩
      · rw [stN, if_pos h13, if_pos h0, List.length_set]; exact HI.out.1
      · rw [stN, if_pos h13, if_pos h0]; exact NamesAt.set HI1.out _ _
      · exact blk_far (p := ⟨g, t.f5.toNat, none⟩) HV1.out hne _
    · go_enter Try.func43, Try.ntmps43
      go_wp2_with (first | ((with_reducible refine gate_dst (N := 2) rfl ?_); refine box_event ?hg (N := 2) ?hd (cs := #[.int .i64 t.f0, .int .i64 t.f1, .slice A2 t.f2.length c2, .int .i64 t.f3, .int .i64 t.f4, .int .i64 t.f5, .string t.f6, .slice A7 t.f7.length c7]) (t := 40) ?hr ?_; (case hd => rfl); (case hg => rfl); (case hr => first | (go_simp; done) | (go_simp; rfl)); intro gb hg w1 hbox hb; have BK := Lib.hid hbox; have HB1 := Lib.hid hb; have GE : w.heap.size ≤ gb := (by omega); clear hg hbox hb; obtain ⟨hz0, hz1, hz2, hz3, hz4, hz5, hz6, hz7⟩ := blk8 BK.out))
      go_end0
      exact ⟨rfl, by rw [stN, if_pos h13, if_neg (by omega)]; exact ⟨HI.out.1, blk_below HI.out.2.1 HB1.out, blk_below HI.out.2.2 HB1.out⟩, grown_of_below HB1.out (some g)⟩
  · go_enter Try.func43, Try.ntmps43
    go_wp2_with (first | ((with_reducible refine gate_dst (N := 2) rfl ?_); refine box_event ?hg (N := 2) ?hd (cs := #[.int .i64 t.f0, .int .i64 t.f1, .slice A2 t.f2.length c2, .int .i64 t.f3, .int .i64 t.f4, .int .i64 t.f5, .string t.f6, .slice A7 t.f7.length c7]) (t := 40) ?hr ?_; (case hd => rfl); (case hg => rfl); (case hr => first | (go_simp; done) | (go_simp; rfl)); intro gb hg w1 hbox hb; have BK := Lib.hid hbox; have HB1 := Lib.hid hb; have GE : w.heap.size ≤ gb := (by omega); clear hg hbox hb; obtain ⟨hz0, hz1, hz2, hz3, hz4, hz5, hz6, hz7⟩ := blk8 BK.out))
    go_end0
    exact ⟨rfl, by rw [stN, if_neg h13]; exact ⟨HI.out.1, blk_below HI.out.2.1 HB1.out, blk_below HI.out.2.2 HB1.out⟩, grown_of_below HB1.out (some g)⟩

set_option maxRecDepth 100000 in
set_option maxHeartbeats 4000000 in
theorem spnames_calls (t : T) (w : World) (cs : List Value) (hK : k40.K w t cs) (h0 : 0 ≤ wk stM t 0) (h1 : wk stM t 0 ≤ 2000) (hA : AllT (fun s => s.f0 = 13 → s.f5 < wk stM t 0 + 1) t) :
    Calls Try.prog 24 #[.agg cs.toArray] w fun e w' => ∃ g, e = .returned (.slice (some ⟨g, 0, none⟩) (wk stM t 0 + 1).toNat (wk stM t 0 + 1).toNat) ∧ NamesAt w' g (wk stN t (empties (wk stM t 0 + 1).toNat)) ∧ w.heap.size ≤ g ∧ Below w.heap.size w w' := by
  obtain ⟨A2, c2, A7, c7, rfl, l2, g2, l7, g7⟩ := k40_open hK
  have hu40 := Try.underlying40
  have HK := Lib.hid (k40_mk w t l2 g2 l7 g7)
  have HG2 := Lib.hid (And.intro l2 g2)
  have HG7 := Lib.hid (And.intro l7 g7)
  have HA := Lib.hid hA
  clear hK l2 g2 l7 g7 hA
  obtain ⟨n, hn⟩ : ∃ n : Nat, wk stM t 0 = (n : Int) := ⟨(wk stM t 0).toNat, by omega⟩
  have hn2 : n ≤ 2000 := by omega
  have hnt : ((n : Int) + 1).toNat = n + 1 := by omega
  rw [hn] at HA
  have HN := Lib.hid hn
  rw [hn, hnt]
  have HA' : Hid (AllT (fun s => s.f0 = 13 → s.f5 < ((n + 1 : Nat) : Int)) t) := Lib.hid (by simpa using HA.out)
  clear hn h0 h1 hnt HA
  go_enter Try.func24, Try.ntmps24
  go_wp2_with (first | ((with_reducible refine gate_dst (N := 1) rfl ?_); refine box_event ?hg (N := 1) ?hd (cs := #[.int .i64 t.f0, .int .i64 t.f1, .slice A2 t.f2.length c2, .int .i64 t.f3, .int .i64 t.f4, .int .i64 t.f5, .string t.f6, .slice A7 t.f7.length c7]) (t := 40) ?hr ?_; (case hd => rfl); (case hg => rfl); (case hr => first | (go_simp; done) | (go_simp; rfl)); intro gb hg w1 hbox hb; have BK := Lib.hid hbox; have HB1 := Lib.hid hb; have GE : w.heap.size ≤ gb := (by omega); clear hg hbox hb; obtain ⟨hz0, hz1, hz2, hz3, hz4, hz5, hz6, hz7⟩ := blk8 BK.out))
  refine (spmax_calls t w1 _ (k40_mk w1 t HG2.out.1 (Kd.C_below HG2.out.2 HB1.out) HG7.out.1 (Kd.C_below HG7.out.2 HB1.out))).mono ?_
  rintro e w2 ⟨rfl, hb2⟩
  rw [HN.out]
  have HB2 := Lib.hid (below_step HB1.out hb2)
  have BK2 := Lib.hid (blk_below BK.out hb2)
  clear hb2 hz0 hz1 hz2 hz3 hz4 hz5 hz6 hz7
  obtain ⟨w3, hrun, hnames, hb3⟩ := make_names (n + 1) (by omega) w2
  have hnn : (((n + 1 : Nat) : Int)) = (n : Int) + 1 := by omega
  rw [hnn] at hrun
  have HNM := Lib.hid hnames
  have HB3 := Lib.hid (below_step HB2.out hb3)
  have BK3 := Lib.hid (blk_below BK2.out hb3)
  have HG := Lib.hid (show w.heap.size ≤ w2.heap.size from HB2.out.size)
  have HG3 := Lib.hid (And.intro (show w2.heap.size ≤ w3.heap.size from hb3.size) (show w2.heap.size < w3.heap.size from blk_lt hnames))
  clear hnames hb3 hnn
  obtain ⟨hz0, hz1, hz2, hz3, hz4, hz5, hz6, hz7⟩ := blk8 BK3.out
  go_wp2_with (first | rw [hrun] | ((with_reducible refine gate_dst (N := 3) rfl ?_); refine box_event ?hg (N := 3) ?hd (cs := #[.slice none 0 0]) (t := 44) ?hr ?_; (case hd => rfl); (case hg => rfl); (case hr => first | (go_simp; done) | (go_simp; rfl)); intro gv hg w4 hbox hb; have BV := Lib.hid hbox; have BK4 := Lib.hid (blk_below BK3.out hb); have HB4 := Lib.hid (below_step HB3.out hb); have HNM4 := Lib.hid (blk_below HNM.out hb); have GV : w2.heap.size < gv := (by have := HG3.out.2; omega); have hgv1 : gb ≠ gv := (by have := blk_lt BK3.out; omega); have hgv2 : gv ≠ gb := Ne.symm hgv1; have hvf := blk_frozen BV.out 0; have hv0 := blk1 BV.out; clear hg hbox hb hz0 hz1 hz2 hz3 hz4 hz5 hz6 hz7; obtain ⟨hz0, hz1, hz2, hz3, hz4, hz5, hz6, hz7⟩ := blk8 BK4.out))
  clear hrun
  have hwg : w.heap.size ≤ gv := by have := HG.out; omega
  have HIN : Hid (IN gv w2.heap.size (n + 1) (empties (n + 1)) (w4.setCell ⟨gv, 0, none⟩ (.slice (some ⟨w2.heap.size, 0, none⟩) (n + 1) (n + 1)))) :=
    Lib.hid ⟨by simp, (Below.heap_setCell w4 _ _ w2.heap.size (by show w2.heap.size ≠ gv; omega)).trans HNM4.out, (blk_set BV.out 0 _).trans rfl⟩
  have HBs := Lib.hid (below_set (j := 0) (v := .slice (some ⟨w2.heap.size, 0, none⟩) (n + 1) (n + 1)) HB4.out hwg)
  clear hz0 hz1 hz2 hz3 hz4 hz5 hz6 hz7 hvf hv0
  generalize w4.setCell ⟨gv, 0, none⟩ (.slice (some ⟨w2.heap.size, 0, none⟩) (n + 1) (n + 1)) = w4s at *
  refine (walk_calls stN (IN gv w2.heap.size (n + 1)) _ 43 (ptr gv) w2.heap.size w.heap.size (.inl rfl) HG.out (fun _ _ h => blk_lt h.2.1) (fun _ _ _ h hb => ⟨h.1, blk_below h.2.1 hb, blk_below h.2.2 hb⟩) (stepN_calls gv w2.heap.size (n + 1) w.heap.size (by omega) HG.out (by omega)) t HA'.out (empties (n + 1)) w w4s _ rfl HK.out HBs.out HIN.out).mono ?_
  rintro e w5 ⟨rfl, hi5, hg5⟩
  have HI5 := Lib.hid hi5
  have HB5 := Lib.hid (HBs.out.grown hg5 HBs.out.size (fun k hk => by cases hk; exact HG.out))
  have hv5 := blk1 HI5.out.2.2
  clear hi5 hg5
  go_wp2_with fail
  go_ret
  exact ⟨w2.heap.size, rfl, HI5.out.2.1, HG.out, HB5.out⟩

end Go.Proofs.Ytaogbmljadaplaa.TrFnSyCaps
