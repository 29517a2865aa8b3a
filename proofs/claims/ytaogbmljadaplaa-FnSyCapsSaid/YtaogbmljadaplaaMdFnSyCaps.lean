/- The walks of CapNames, impl.SyMaxCap and impl.SyCapNames. -/
import Derived.Test.YtaogbmljadaplaaMcFnSyCaps
namespace Go.Proofs.Ytaogbmljadaplaa.TrFnSyCaps
open Go.RowKit Go.Proofs.Ytaogbmljadaplaa.PFnSyCaps Go.Proofs.YtaogbmljadaplaaW.PrintWords Go.Proofs.YtaogbmljadaplaaW.PrintLast Go.Proofs.YtaogbmljadaplaaW.PrintMore

theorem istr : (Try.prog.info? 9).map (fun i => (i.zero, i.size, i.bytes)) = some (some (.string (⟨#[]⟩ : ByteArray)), 1, 16) := by kernel_rfl

/-- As many empty names. -/
abbrev empties (n : Nat) : List ByteArray := List.replicate n (⟨#[]⟩ : ByteArray)

theorem make_names (n : Nat) (hn : n ≤ 100000) (w : World) :
    ∃ w', (Instr.makeSlice 44 (.int .i64 (n : Int)) (.int .i64 (n : Int))).run Try.prog w = .ok (.slice (some ⟨w.heap.size, 0, none⟩) n n) w' ∧ NamesAt w' w.heap.size (empties n) ∧ Below w.heap.size w w' := by
  have hr := run_make_row' (P := Try.prog) 44 9 (.string (⟨#[]⟩ : ByteArray)) 16 Try.underlying44 istr rfl .i64 .i64 n (by omega) (by omega) w
  refine ⟨_, hr, ?_, (Below.refl _ _).alloc (Nat.le_refl _) _⟩
  have hm : madeCells #[Value.string (⟨#[]⟩ : ByteArray)] n = ((empties n).map Value.string).toArray := by
    apply Array.ext
    · simp [madeCells]
    · intro j h1 h2
      have h3 : (madeCells #[Value.string (⟨#[]⟩ : ByteArray)] n)[j] = Value.string (⟨#[]⟩ : ByteArray) := by simp [madeCells, Nat.mod_one]
      rw [h3]
      simp
  rw [hm]
  exact heap_alloc_new w _

set_option maxRecDepth 100000 in
set_option maxHeartbeats 4000000 in
theorem capnames_calls (t : T) (w : World) (S : Nat → Prop) (b : Nat) (hR : RegAt w S b t) (hS : ∀ i, S i → i < w.heap.size) (h0 : 0 ≤ mc t) (h1 : mc t ≤ 2000) (hC : CapsIn (mc t + 1) t) :
    Calls Try.prog 41 #[ptr b] w fun e w' => ∃ g, e = .returned (.slice (some ⟨g, 0, none⟩) (mc t + 1).toNat (mc t + 1).toNat) ∧ NamesAt w' g (cn (empties (mc t + 1).toNat) t) ∧ w.heap.size ≤ g ∧ Below w.heap.size w w' := by
  have HR := Lib.hid hR
  have HS := Lib.hid hS
  have HC := Lib.hid hC
  clear hR hS hC
  go_enter Try.func41, Try.ntmps41
  go_wp2_with fail
  refine (max_calls t _ S b HR.out).mono ?_
  rintro e w1 ⟨rfl, hb1⟩
  have HB1 := Lib.hid hb1
  clear hb1
  obtain ⟨n, hn⟩ : ∃ n : Nat, mc t = (n : Int) := ⟨(mc t).toNat, by omega⟩
  rw [hn] at h0 h1 HC ⊢
  have hn2 : n ≤ 2000 := by omega
  have HNN := Lib.hid hn
  clear hn h0 h1
  obtain ⟨w2, hrun, hnames, hb2⟩ := make_names (n + 1) (by omega) w1
  have hnn : (((n + 1 : Nat) : Int)) = (n : Int) + 1 := by omega
  rw [hnn] at hrun
  have HN := Lib.hid hnames
  have HB2 := Lib.hid (below_step HB1.out hb2)
  clear hnames hb2 hnn
  go_wp2_with (first | rw [hrun])
  clear hrun
  have HG := Lib.hid (show w.heap.size ≤ w1.heap.size from HB1.out.size)
  have hnt : ((n : Int) + 1).toNat = n + 1 := by omega
  have hl : (empties (n + 1)).length = n + 1 := by simp
  have hcn := names_calls t w2 S b w1.heap.size (empties (n + 1)) (HR.out.mono fun i hi hs => ⟨hs, HB2.out.block i hi⟩) (fun hs => by have := HS.out _ hs; have := HG.out; omega) HN.out (by rw [hl]; exact HC.out) (by rw [hl]; omega)
  rw [hl] at hcn
  refine hcn.mono ?_
  rintro e w3 ⟨rfl, hn3, hg3⟩
  have HN3 := Lib.hid hn3
  have HB3 := Lib.hid (HB2.out.grown hg3 HB2.out.size (fun k hk => by cases hk; exact HG.out))
  clear hn3 hg3 hcn
  go_wp2_with fail
  go_ret
  rw [HNN.out, hnt]
  exact ⟨w1.heap.size, rfl, HN3.out, HG.out, HB3.out⟩

set_option maxRecDepth 100000 in
set_option maxHeartbeats 4000000 in
theorem symax_calls (t : T) (hS : AllS t) (hT : TW t) (w : World) (cs : List Value) (hK : k40.K w t cs) (hd : 1 + dep t ≤ 10000) (hc1 : cnt t ≤ 50000) (hc2 : cop t ≤ 50000) :
    Calls Try.prog 22 #[.agg cs.toArray] w fun e w' => e = .returned (.tuple #[.int .i64 (mc t), .bool true]) ∧ Below w.heap.size w w' := by
  obtain ⟨A2, c2, A7, c7, rfl, l2, g2, l7, g7⟩ := k40_open hK
  have hu40 := Try.underlying40
  have HK := Lib.hid (And.intro (k40_mk w t l2 g2 l7 g7) (And.intro hS (And.intro hT (And.intro hd (And.intro hc1 hc2)))))
  have HG2 := Lib.hid (And.intro l2 g2)
  have HG7 := Lib.hid (And.intro l7 g7)
  clear hK hS hT hd hc1 hc2 l2 g2 l7 g7
  go_enter Try.func22, Try.ntmps22
  go_wp2_with (first | ((with_reducible refine gate_dst (N := 1) rfl ?_); refine box_event ?hg (N := 1) ?hd (cs := #[.int .i64 t.f0, .int .i64 t.f1, .slice A2 t.f2.length c2, .int .i64 t.f3, .int .i64 t.f4, .int .i64 t.f5, .string t.f6, .slice A7 t.f7.length c7]) (t := 40) ?hr ?_; (case hd => rfl); (case hg => rfl); (case hr => first | (go_simp; done) | (go_simp; rfl)); intro gb hg w1 hbox hb; have BK := Lib.hid hbox; have HB1 := Lib.hid hb; clear hg hbox hb; obtain ⟨hz0, hz1, hz2, hz3, hz4, hz5, hz6, hz7⟩ := blk8 BK.out))
  clear hz0 hz1 hz2 hz3 hz4 hz5 hz6 hz7
  refine (tree_calls t HK.out.2.1 HK.out.2.2.1 w1 _ (k40_mk w1 t HG2.out.1 (Kd.C_below HG2.out.2 HB1.out) HG7.out.1 (Kd.C_below HG7.out.2 HB1.out)) HK.out.2.2.2.1 HK.out.2.2.2.2.1 HK.out.2.2.2.2.2).mono ?_
  rintro e w2 ⟨b, rfl, hr, hb2⟩
  have HR := Lib.hid hr
  have HB2 := Lib.hid (below_step HB1.out hb2)
  clear hr hb2
  go_wp2_with fail
  refine (max_calls t _ _ b HR.out).mono ?_
  rintro e w3 ⟨rfl, hb3⟩
  have HB3 := Lib.hid (below_step HB2.out hb3)
  clear hb3
  go_wp2_with fail
  go_ret2
  exact ⟨rfl, HB3.out⟩

set_option maxRecDepth 100000 in
set_option maxHeartbeats 4000000 in
theorem synames_calls (t : T) (hS : AllS t) (hT : TW t) (w : World) (cs : List Value) (hK : k40.K w t cs) (hd : 1 + dep t ≤ 10000) (hc1 : cnt t ≤ 50000) (hc2 : cop t ≤ 50000)
    (h0 : 0 ≤ mc t) (h1 : mc t ≤ 2000) (hC : CapsIn (mc t + 1) t) :
    Calls Try.prog 23 #[.agg cs.toArray] w fun e w' => ∃ g, e = .returned (.tuple #[.slice (some ⟨g, 0, none⟩) (mc t + 1).toNat (mc t + 1).toNat, .bool true]) ∧ NamesAt w' g (cn (empties (mc t + 1).toNat) t) ∧ w.heap.size ≤ g ∧ Below w.heap.size w w' := by
  obtain ⟨A2, c2, A7, c7, rfl, l2, g2, l7, g7⟩ := k40_open hK
  have hu40 := Try.underlying40
  have HK := Lib.hid (And.intro (k40_mk w t l2 g2 l7 g7) (And.intro hS (And.intro hT (And.intro hd (And.intro hc1 hc2)))))
  have HG2 := Lib.hid (And.intro l2 g2)
  have HG7 := Lib.hid (And.intro l7 g7)
  have HM := Lib.hid (And.intro h0 (And.intro h1 hC))
  clear hK hS hT hd hc1 hc2 l2 g2 l7 g7 h0 h1 hC
  go_enter Try.func23, Try.ntmps23
  go_wp2_with (first | ((with_reducible refine gate_dst (N := 1) rfl ?_); refine box_event ?hg (N := 1) ?hd (cs := #[.int .i64 t.f0, .int .i64 t.f1, .slice A2 t.f2.length c2, .int .i64 t.f3, .int .i64 t.f4, .int .i64 t.f5, .string t.f6, .slice A7 t.f7.length c7]) (t := 40) ?hr ?_; (case hd => rfl); (case hg => rfl); (case hr => first | (go_simp; done) | (go_simp; rfl)); intro gb hg w1 hbox hb; have BK := Lib.hid hbox; have HB1 := Lib.hid hb; clear hg hbox hb; obtain ⟨hz0, hz1, hz2, hz3, hz4, hz5, hz6, hz7⟩ := blk8 BK.out))
  clear hz0 hz1 hz2 hz3 hz4 hz5 hz6 hz7
  refine (tree_calls t HK.out.2.1 HK.out.2.2.1 w1 _ (k40_mk w1 t HG2.out.1 (Kd.C_below HG2.out.2 HB1.out) HG7.out.1 (Kd.C_below HG7.out.2 HB1.out)) HK.out.2.2.2.1 HK.out.2.2.2.2.1 HK.out.2.2.2.2.2).mono ?_
  rintro e w2 ⟨b, rfl, hr, hb2⟩
  have HR := Lib.hid hr
  have HB2 := Lib.hid (below_step HB1.out hb2)
  clear hr hb2
  go_wp2_with fail
  refine (capnames_calls t _ _ b HR.out (fun i hi => hi.2) HM.out.1 HM.out.2.1 HM.out.2.2).mono ?_
  rintro e w3 ⟨g, rfl, hn, hg, hb3⟩
  have HB3 := Lib.hid (And.intro hn (And.intro (Nat.le_trans HB2.out.size hg) (below_step HB2.out hb3)))
  clear hb3 hn hg
  go_wp2_with fail
  go_ret2
  exact ⟨g, rfl, HB3.out⟩
end Go.Proofs.Ytaogbmljadaplaa.TrFnSyCaps
