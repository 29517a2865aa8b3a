import Derived.Test.YteoljppcafakpaaDoorNaFnPgSpan
namespace Go.Proofs.YteoljppcafakpaaDoor.PgFnPgSpan
open Go.RowKit Go.Proofs.YteoljppcafakpaaDoor.EvN Go.Proofs.YteoljppcafakpaaDoor.Row Go.Proofs.YteoljppcafakpaaDoor.PFnPgSpan Go.Proofs.YteoljppcafakpaaDoorW.PrintWords Go.Proofs.YteoljppcafakpaaDoorW.PrintLast Go.Proofs.YteoljppcafakpaaDoorW.PrintMore
theorem iint : (Tryd.prog.info? 3).map (fun i => (i.zero, i.size, i.bytes)) = some (some (.int .i64 0), 1, 8) := by kernel_rfl
set_option maxRecDepth 100000 in
set_option maxHeartbeats 4000000 in
theorem add_calls {L : List I} {st nc : Int} (hl : Leads L) (hm : L.length ≤ 2000) (hop : ∀ pc, pc < L.length → 0 ≤ (ins L pc).f0 ∧ (ins L pc).f0 ≤ 10 ∧ (ins L pc).f0 ≠ 1) (cond : Int) (W0 : World) (A : Option Addr) (c : Nat) (hK : Kd.C k29 W0 A L.length L) (g sb : Nat) :
    ∀ (n : Nat) (D : List Nat) (pc : Nat) (lv : Value) (w : World), QAt W0 w A c L st nc cond g sb D lv → Fine L.length D → pc < L.length → L.length - D.length < n →
      Calls Tryd.prog 49 #[.pointer (some ⟨g, 0, none⟩), .int .i64 (pc : Int)] w fun e w' => e = .returned (.tuple #[]) ∧ ∃ lv', QAt W0 w' A c L st nc cond g sb (rF L cond n D pc) lv' ∧ Kp w w' g sb lv lv' := by
  have hu31 := Tryd.underlying29
  have HL := Lib.hid hl
  have HOP := Lib.hid hop
  have HK := Lib.hid hK
  clear hl hop hK
  intro n
  induction n with
  | zero => intro D pc lv w _ _ _ h; omega
  | succ n ih =>
    intro D pc lv w hQ hF hp hn
    have HQ := Lib.hid hQ
    have HF := Lib.hid hF
    have HIH := Lib.hid ih
    clear hQ hF ih
    by_cases h0 : pc = 0
    · subst h0
      have hr : rF L cond (n + 1) D 0 = D := by rw [rF, if_pos (.inl rfl)]
      rw [hr]
      clear hr
      go_enter Tryd.func49, Tryd.ntmps49
      go_wp2_with fail
      exact bodyPost_ret (results_none rfl _ _ _) rfl ⟨rfl, lv, HQ.out, Kp.refl _ _ _ _⟩
    · obtain ⟨hz0, hz1, hz2, hz3, hz4, hz5⟩ := blk6 HQ.out.nd
      have hsc := HQ.out.seen pc hp
      have e0 : ((pc : Int) == 0) = false := by rw [beq_eq_false_iff_ne]; omega
      by_cases hd : pc ∈ D
      · have hr : rF L cond (n + 1) D pc = D := by rw [rF, if_pos (.inr hd)]
        rw [hr]
        rw [decide_eq_true hd] at hsc
        clear hr hd h0
        go_enter Tryd.func49, Tryd.ntmps49
        go_wp2_with fail
        exact bodyPost_ret (results_none rfl _ _ _) rfl ⟨rfl, lv, HQ.out, Kp.refl _ _ _ _⟩
      · rw [decide_eq_false hd] at hsc
        have HR := Lib.hid (show rF L cond (n + 1) D pc = _ by rw [rF, if_neg (by rintro (h | h); exact h0 h; exact hd h)])
        have HF1 := Lib.hid (HF.out.add hp hd)
        have hD : D.length < L.length := by have := HF1.out.len; rw [List.length_append, List.length_singleton] at this; omega
        clear hd h0
        have hf5 := blk_frozen HQ.out.nd 5
        have hfs := blk_frozen HQ.out.sn pc
        have hgs1 := HQ.out.gs
        have hgs2 : sb ≠ g := Ne.symm hgs1
        have lgw := blk_lt HQ.out.nd
        obtain ⟨ad, A3, c3, e, hx0, hx1, hx2, hx3, l3, g3⟩ := inst_at HK.out HQ.out.bl pc hp
        cases e
        rw [← ins_lt L pc hp] at hx0 hx1 hx2 hx3 l3 g3
        have HX := Lib.hid (And.intro hx0 (And.intro hx1 (And.intro hx2 hx3)))
        clear hx0 hx1 hx2 hx3 l3 g3
        go_enter Tryd.func49, Tryd.ntmps49
        obtain ⟨Al, cl, elv⟩ := owns_slice HQ.out.ow
        subst elv
        obtain ⟨i0, hi0, hi1, hi2, hi3⟩ := info_parts iint
        have HB1 : Hid (Below (w.setCell ⟨sb, pc, none⟩ (.bool true)).heap.size (w.setCell ⟨sb, pc, none⟩ (.bool true)) ((w.setCell ⟨sb, pc, none⟩ (.bool true)).alloc (.cells #[.int .i64 (pc : Int)] 3))) := Lib.hid ((Below.refl _ _).alloc (Nat.le_refl _) _)
        have HOW : Hid (((w.setCell ⟨sb, pc, none⟩ (.bool true)).alloc (.cells #[.int .i64 (pc : Int)] 3)).ownsRow W0.heap.size 3 1 (.slice Al D.length cl) D.length (D.map fun i : Nat => Value.int .i64 (i : Int))) := by
          have h1 : w.grownBy (w.setCell ⟨sb, pc, none⟩ (.bool true)) (some sb) := grown_set (Row.grown_refl w (some sb)) pc _
          have h2 := HQ.out.ow.kept h1 (.inr HQ.out.ns)
          exact Lib.hid (h2.kept (Row.grown_of_below HB1.out none) (by cases Al <;> simp [Value.ownBlock]))
        have HSZ : Hid (W0.heap.size ≤ ((w.setCell ⟨sb, pc, none⟩ (.bool true)).alloc (.cells #[.int .i64 (pc : Int)] 3)).heap.size) := Lib.hid (by have := HQ.out.bl.size; simp [World.setCell]; omega)
        have HNW : Hid (∀ (j : Nat) (u : Value), [Value.int .i64 (pc : Int)][j]? = some u → ((w.setCell ⟨sb, pc, none⟩ (.bool true)).alloc (.cells #[.int .i64 (pc : Int)] 3)).cell? ((⟨w.heap.size, 0, none⟩ : Addr).add j) = some u) := by
          have e : (w.setCell ⟨sb, pc, none⟩ (.bool true)).heap.size = w.heap.size := by simp [World.setCell]
          rw [← e]
          exact World.news_of_block (cs := #[.int .i64 (pc : Int)]) (t := 3) (fr := (0, 0)) (heap_alloc_new (w.setCell ⟨sb, pc, none⟩ (.bool true)) (.cells #[.int .i64 (pc : Int)] 3))
        have HG2 : Hid (((w.setCell ⟨sb, pc, none⟩ (.bool true)).alloc (.cells #[.int .i64 (pc : Int)] 3)).heap[g]? = some (.cells #[.slice (some ad) L.length c, .int .i64 st, .int .i64 nc, .int .i64 cond, .slice (some ⟨sb, 0, none⟩) L.length L.length, .slice Al D.length cl] 92 (0, 0))) :=
          Lib.hid (blk_alloc ((Below.heap_setCell w _ _ g hgs1).trans HQ.out.nd) _)
        have HM1 : Hid (D.length + 1 ≤ maxLen) := Lib.hid (by unfold maxLen; omega)
        have HM2 : Hid ((D.length + 1) * 8 ≤ 140737488355328) := Lib.hid (by omega)
        go_upto_region 3 with ((at_builtin; go_must ((refine wpList_append_lies _ rfl (.tmp 26) (.tmp 28) 32 rfl W0.heap.size 3 i0 (.int .i64 0) 1 8 Tryd.underlying32 hi0 hi1 hi2 hi3 rfl (by decide) (.slice Al D.length cl) D.length (D.map fun i : Nat => Value.int .i64 (i : Int)) rfl HOW.out ⟨w.heap.size, 0, none⟩ 1 1 [.int .i64 (pc : Int)] rfl rfl HNW.out (by simp [Value.oneCell']) (by decide) HM1.out HM2.out HSZ.out _ rfl ?_)); intro gn cap w3 hown hgrow hat hlt; have HO := Lib.hid hown; have HGR := Lib.hid hgrow; have HAT := Lib.hid hat; have HND3 := Lib.hid ((hgrow.block g (blk_lt HG2.out) (fun e => HQ.out.ng e.symm)).trans HG2.out); have hy5 := (blk6 HND3.out).2.2.2.2.2; have hfy := blk_frozen HND3.out 5; clear hown hgrow hat hlt))
        have HLV : Hid (∀ b, (Value.slice (some ⟨gn, 0, none⟩) (D.length + 1) cap).ownBlock = some b → (Value.slice Al D.length cl).ownBlock = some b ∨ ((w.setCell ⟨sb, pc, none⟩ (.bool true)).alloc (.cells #[.int .i64 (pc : Int)] 3)).heap.size ≤ b) := Lib.hid (fun b e => by
          have e2 : gn = b := by simpa [Value.ownBlock] using e
          subst e2
          rcases HAT.out with h | h
          · exact .inl h
          · right; rw [h]; exact Nat.le_refl _)
        have HQ1 := Lib.hid (HQ.out.put HB1.out HO.out HGR.out HLV.out)
        have HKP := Lib.hid (Kp.put (g := g) HB1.out HGR.out HLV.out)
        clear HLV hy5 hfy HND3 HO HGR HAT HG2 HM1 HM2 HNW HSZ HOW HB1 hz0 hz1 hz2 hz3 hz4 hz5 hsc hf5 hfs HQ HX
        generalize w3.setCell ⟨g, 5, none⟩ (.slice (some ⟨gn, 0, none⟩) (D.length + 1) cap) = w4 at *
        obtain ⟨hz0, hz1, hz2, hz3, hz4, hz5⟩ := blk6 HQ1.out.nd
        obtain ⟨ad', A3, c3, e, hx0, hx1, hx2, hx3, l3, g3⟩ := inst_at HK.out HQ1.out.bl pc hp
        cases e
        rw [← ins_lt L pc hp] at hx0 hx1 hx2 hx3 l3 g3
        have HOUT := Lib.hid (HL.out.out pc hp)
        have HARG := Lib.hid (HL.out.arg pc hp)
        obtain ⟨op0, op1, op2⟩ := HOP.out pc hp
        clear l3 g3
        generalize hi : ins L pc = i at *
        obtain ⟨op, out, arg, rs⟩ := i
        simp only at hx0 hx1 hx2 hx3 op0 op1 op2
        clear hi
        have hcase : op = 0 ∨ (op = 2 ∨ op = 6) ∨ op = 3 ∨ (op = 4 ∨ op = 5 ∨ op = 7 ∨ op = 8 ∨ op = 9 ∨ op = 10) := by omega
        rcases hcase with rfl | hcase | rfl | hcase
        · obtain ⟨o, rfl⟩ : ∃ o : Nat, out = (o : Int) := ⟨out.toNat, by have := (HOUT.out (by simp)).1; simp only at this; omega⟩
          obtain ⟨a, rfl⟩ : ∃ a : Nat, arg = (a : Int) := ⟨arg.toNat, by have := (HARG.out rfl).1; simp only at this; omega⟩
          have ho : o < L.length := by have := (HOUT.out (by simp)).2; simp only at this; omega
          have ha : a < L.length := by have := (HARG.out rfl).2; simp only at this; omega
          have HR1 : Hid (rF L cond (n + 1) D pc = rF L cond n (rF L cond n (D ++ [pc]) o) a) := Lib.hid (by rw [HR.out, if_pos rfl]; rfl)
          have HRF := Lib.hid (rF_fine (cond := cond) HL.out n (D ++ [pc]) o HF1.out ho)
          clear HR HOUT HARG
          go_wp2_with (first | ((with_reducible refine gate_dst (N := 4) rfl ?_); refine box_event ?hg (N := 4) ?hd (cs := #[.int .i64 0, .int .i64 0, .int .i64 0, .slice none 0 0]) (t := 29) ?hr ?_; (case hd => rfl); (case hg => rfl); (case hr => first | (go_simp; done) | (go_simp; rfl)); intro gc hg w5 hbox hb; have BC := Lib.hid hbox; have HB5 := Lib.hid hb; have GC : w4.heap.size ≤ gc := (by omega); have HQ5 := Lib.hid (HQ1.out.below hb); have hggc : g ≠ gc := (by have := blk_lt HQ1.out.nd; omega); clear hg hbox hb hz0 hz1 hz2 hz3 hz4 hz5; obtain ⟨hz0, hz1, hz2, hz3, hz4, hz5⟩ := blk6 HQ5.out.nd; obtain ⟨hv0, hv1, hv2, hv3⟩ := blk4 BC.out; have hq0 := blk_frozen BC.out 0; have hq1 := blk_frozen BC.out 1; have hq2 := blk_frozen BC.out 2; have hq3 := blk_frozen BC.out 3))
          clear hz0 hz1 hz2 hz3 hz4 hz5 hv0 hv1 hv2 hv3 hq0 hq1 hq2 hq3 hx0 hx1 hx2 hx3
          have HB6 := Lib.hid (set4_below HB5.out GC (.int .i64 0) (.int .i64 (o : Int)) (.int .i64 (a : Int)) (.slice A3 rs.length c3))
          have BC6 := Lib.hid (set4_blk BC.out (.int .i64 0) (.int .i64 (o : Int)) (.int .i64 (a : Int)) (.slice A3 rs.length c3))
          clear BC HB5 HQ5
          generalize hw6 : set4 w5 gc (.int .i64 0) (.int .i64 (o : Int)) (.int .i64 (a : Int)) (.slice A3 rs.length c3) = w6 at *
          simp only [set4] at hw6
          rw [hw6]
          clear hw6
          have HQ6 := Lib.hid (HQ1.out.below HB6.out)
          have HK6 := Lib.hid (HKP.out.trans (Kp.of_below HB6.out g sb _))
          refine (HIH.out (D ++ [pc]) o _ w6 HQ6.out HF1.out ho (by rw [List.length_append, List.length_singleton]; omega)).mono ?_
          rintro e w7 ⟨rfl, lv7, hq7, hk7⟩
          have HQ7 := Lib.hid hq7
          have BC7 := Lib.hid ((hk7.kp gc (blk_lt BC6.out) (Ne.symm hggc) (by have := blk_lt HQ1.out.sn; omega) (fun e => by have := (HQ1.out.ow.lt gc e).2; omega)).trans BC6.out)
          have HK7 := Lib.hid (HK6.out.trans hk7)
          clear hq7 hk7
          obtain ⟨hv0, hv1, hv2, hv3⟩ := blk4 BC7.out
          go_wp2_with fail
          refine (HIH.out _ a lv7 w7 HQ7.out HRF.out.1 ha (by have := HRF.out.2; rw [List.length_append, List.length_singleton] at this; omega)).mono ?_
          rintro e w8 ⟨rfl, lv8, hq8, hk8⟩
          have HQ8 := Lib.hid hq8
          have HK8 := Lib.hid (HK7.out.trans hk8)
          clear hq8 hk8
          go_wp2_with fail
          go_end0
          exact ⟨rfl, lv8, by rw [HR1.out]; exact HQ8.out, HK8.out⟩
        · have HR1 : Hid (rF L cond (n + 1) D pc = rF L cond n (D ++ [pc]) out.toNat) := Lib.hid (by rw [HR.out, if_neg (show ¬ op = 0 by omega), if_pos (show op = 2 ∨ op = 6 from hcase)])
          rcases hcase with rfl | rfl
          · obtain ⟨o, rfl⟩ : ∃ o : Nat, out = (o : Int) := ⟨out.toNat, by have := (HOUT.out (by simp)).1; simp only at this; omega⟩
            have ho : o < L.length := by have := (HOUT.out (by simp)).2; simp only at this; omega
            rw [Int.toNat_natCast] at HR1
            clear HR HOUT HARG
            go_wp2_with (first | ((with_reducible refine gate_dst (N := 4) rfl ?_); refine box_event ?hg (N := 4) ?hd (cs := #[.int .i64 0, .int .i64 0, .int .i64 0, .slice none 0 0]) (t := 29) ?hr ?_; (case hd => rfl); (case hg => rfl); (case hr => first | (go_simp; done) | (go_simp; rfl)); intro gc hg w5 hbox hb; have BC := Lib.hid hbox; have HB5 := Lib.hid hb; have GC : w4.heap.size ≤ gc := (by omega); have HQ5 := Lib.hid (HQ1.out.below hb); have hggc : g ≠ gc := (by have := blk_lt HQ1.out.nd; omega); clear hg hbox hb hz0 hz1 hz2 hz3 hz4 hz5; obtain ⟨hz0, hz1, hz2, hz3, hz4, hz5⟩ := blk6 HQ5.out.nd; obtain ⟨hv0, hv1, hv2, hv3⟩ := blk4 BC.out; have hq0 := blk_frozen BC.out 0; have hq1 := blk_frozen BC.out 1; have hq2 := blk_frozen BC.out 2; have hq3 := blk_frozen BC.out 3))
            clear hz0 hz1 hz2 hz3 hz4 hz5 hv0 hv1 hv2 hv3 hq0 hq1 hq2 hq3 hx0 hx1 hx2 hx3
            have HB6 := Lib.hid (set4_below HB5.out GC (.int .i64 2) (.int .i64 (o : Int)) (.int .i64 arg) (.slice A3 rs.length c3))
            have BC6 := Lib.hid (set4_blk BC.out (.int .i64 2) (.int .i64 (o : Int)) (.int .i64 arg) (.slice A3 rs.length c3))
            clear BC HB5 HQ5
            generalize hw6 : set4 w5 gc (.int .i64 2) (.int .i64 (o : Int)) (.int .i64 arg) (.slice A3 rs.length c3) = w6 at *
            simp only [set4] at hw6
            rw [hw6]
            clear hw6
            have HQ6 := Lib.hid (HQ1.out.below HB6.out)
            have HK6 := Lib.hid (HKP.out.trans (Kp.of_below HB6.out g sb _))
            refine (HIH.out (D ++ [pc]) o _ w6 HQ6.out HF1.out ho (by rw [List.length_append, List.length_singleton]; omega)).mono ?_
            rintro e w7 ⟨rfl, lv7, hq7, hk7⟩
            have HQ7 := Lib.hid hq7
            have HK7 := Lib.hid (HK6.out.trans hk7)
            clear hq7 hk7
            go_wp2_with fail
            go_end0
            exact ⟨rfl, lv7, by rw [HR1.out]; exact HQ7.out, HK7.out⟩
          · obtain ⟨o, rfl⟩ : ∃ o : Nat, out = (o : Int) := ⟨out.toNat, by have := (HOUT.out (by simp)).1; simp only at this; omega⟩
            have ho : o < L.length := by have := (HOUT.out (by simp)).2; simp only at this; omega
            rw [Int.toNat_natCast] at HR1
            clear HR HOUT HARG
            go_wp2_with (first | ((with_reducible refine gate_dst (N := 4) rfl ?_); refine box_event ?hg (N := 4) ?hd (cs := #[.int .i64 0, .int .i64 0, .int .i64 0, .slice none 0 0]) (t := 29) ?hr ?_; (case hd => rfl); (case hg => rfl); (case hr => first | (go_simp; done) | (go_simp; rfl)); intro gc hg w5 hbox hb; have BC := Lib.hid hbox; have HB5 := Lib.hid hb; have GC : w4.heap.size ≤ gc := (by omega); have HQ5 := Lib.hid (HQ1.out.below hb); have hggc : g ≠ gc := (by have := blk_lt HQ1.out.nd; omega); clear hg hbox hb hz0 hz1 hz2 hz3 hz4 hz5; obtain ⟨hz0, hz1, hz2, hz3, hz4, hz5⟩ := blk6 HQ5.out.nd; obtain ⟨hv0, hv1, hv2, hv3⟩ := blk4 BC.out; have hq0 := blk_frozen BC.out 0; have hq1 := blk_frozen BC.out 1; have hq2 := blk_frozen BC.out 2; have hq3 := blk_frozen BC.out 3))
            clear hz0 hz1 hz2 hz3 hz4 hz5 hv0 hv1 hv2 hv3 hq0 hq1 hq2 hq3 hx0 hx1 hx2 hx3
            have HB6 := Lib.hid (set4_below HB5.out GC (.int .i64 6) (.int .i64 (o : Int)) (.int .i64 arg) (.slice A3 rs.length c3))
            have BC6 := Lib.hid (set4_blk BC.out (.int .i64 6) (.int .i64 (o : Int)) (.int .i64 arg) (.slice A3 rs.length c3))
            clear BC HB5 HQ5
            generalize hw6 : set4 w5 gc (.int .i64 6) (.int .i64 (o : Int)) (.int .i64 arg) (.slice A3 rs.length c3) = w6 at *
            simp only [set4] at hw6
            rw [hw6]
            clear hw6
            have HQ6 := Lib.hid (HQ1.out.below HB6.out)
            have HK6 := Lib.hid (HKP.out.trans (Kp.of_below HB6.out g sb _))
            refine (HIH.out (D ++ [pc]) o _ w6 HQ6.out HF1.out ho (by rw [List.length_append, List.length_singleton]; omega)).mono ?_
            rintro e w7 ⟨rfl, lv7, hq7, hk7⟩
            have HQ7 := Lib.hid hq7
            have HK7 := Lib.hid (HK6.out.trans hk7)
            clear hq7 hk7
            go_wp2_with fail
            go_end0
            exact ⟨rfl, lv7, by rw [HR1.out]; exact HQ7.out, HK7.out⟩
        · obtain ⟨o, rfl⟩ : ∃ o : Nat, out = (o : Int) := ⟨out.toNat, by have := (HOUT.out (by simp)).1; simp only at this; omega⟩
          have ho : o < L.length := by have := (HOUT.out (by simp)).2; simp only at this; omega
          by_cases hh : holds cond arg = true
          · have HR1 : Hid (rF L cond (n + 1) D pc = rF L cond n (D ++ [pc]) o) := Lib.hid (by rw [HR.out, if_neg (show ¬ (3 : Int) = 0 by omega), if_neg (show ¬ ((3 : Int) = 2 ∨ (3 : Int) = 6) by omega), if_pos (show (3 : Int) = 3 from rfl), if_pos hh]; rfl)
            have eh : (Go.bits .and .i64 cond arg == arg) = true := hh
            have eh2 : decide (Go.bits .and .i64 cond arg = arg) = true := by simpa using eh
            clear HR HOUT HARG hh
            go_wp2_with (first | ((with_reducible refine gate_dst (N := 4) rfl ?_); refine box_event ?hg (N := 4) ?hd (cs := #[.int .i64 0, .int .i64 0, .int .i64 0, .slice none 0 0]) (t := 29) ?hr ?_; (case hd => rfl); (case hg => rfl); (case hr => first | (go_simp; done) | (go_simp; rfl)); intro gc hg w5 hbox hb; have BC := Lib.hid hbox; have HB5 := Lib.hid hb; have GC : w4.heap.size ≤ gc := (by omega); have HQ5 := Lib.hid (HQ1.out.below hb); have hggc : g ≠ gc := (by have := blk_lt HQ1.out.nd; omega); clear hg hbox hb hz0 hz1 hz2 hz3 hz4 hz5; obtain ⟨hz0, hz1, hz2, hz3, hz4, hz5⟩ := blk6 HQ5.out.nd; obtain ⟨hv0, hv1, hv2, hv3⟩ := blk4 BC.out; have hq0 := blk_frozen BC.out 0; have hq1 := blk_frozen BC.out 1; have hq2 := blk_frozen BC.out 2; have hq3 := blk_frozen BC.out 3))
            clear hz0 hz1 hz2 hz3 hz4 hz5 hv0 hv1 hv2 hv3 hq0 hq1 hq2 hq3 hx0 hx1 hx2 hx3
            have HB6 := Lib.hid (set4_below HB5.out GC (.int .i64 3) (.int .i64 (o : Int)) (.int .i64 arg) (.slice A3 rs.length c3))
            have BC6 := Lib.hid (set4_blk BC.out (.int .i64 3) (.int .i64 (o : Int)) (.int .i64 arg) (.slice A3 rs.length c3))
            clear BC HB5 HQ5
            generalize hw6 : set4 w5 gc (.int .i64 3) (.int .i64 (o : Int)) (.int .i64 arg) (.slice A3 rs.length c3) = w6 at *
            simp only [set4] at hw6
            rw [hw6]
            clear hw6
            have HQ6 := Lib.hid (HQ1.out.below HB6.out)
            have HK6 := Lib.hid (HKP.out.trans (Kp.of_below HB6.out g sb _))
            obtain ⟨hz0, hz1, hz2, hz3, hz4, hz5⟩ := blk6 HQ6.out.nd
            obtain ⟨hv0, hv1, hv2, hv3⟩ := blk4 BC6.out
            go_quiet (fail)
            have HD := Lib.hid (Drawn0.mk (⟨nq, rfl⟩ : ∃ n, w6.drewN nq = w6.drewN n))
            generalize w6.drewN nq = w6d at *
            have HQd := Lib.hid (HQ6.out.below HD.out.below)
            have HKd := Lib.hid (HK6.out.trans (Kp.of_below HD.out.below g sb _))
            have BCd := Lib.hid (blk_below BC6.out HD.out.below)
            clear hz0 hz1 hz2 hz3 hz4 hz5 hv0 hv1 hv2 hv3
            obtain ⟨hv0, hv1, hv2, hv3⟩ := blk4 BCd.out
            go_wp2_with fail
            refine (HIH.out (D ++ [pc]) o _ w6d HQd.out HF1.out ho (by rw [List.length_append, List.length_singleton]; omega)).mono ?_
            rintro e w7 ⟨rfl, lv7, hq7, hk7⟩
            have HQ7 := Lib.hid hq7
            have HK7 := Lib.hid (HKd.out.trans hk7)
            clear hq7 hk7
            go_wp2_with fail
            first | exact bodyPost_ret (results_none rfl _ _ _) rfl ⟨rfl, lv7, by rw [HR1.out]; exact HQ7.out, HK7.out⟩ | (go_end0; exact ⟨rfl, lv7, by rw [HR1.out]; exact HQ7.out, HK7.out⟩)
          · have HR1 : Hid (rF L cond (n + 1) D pc = D ++ [pc]) := Lib.hid (by rw [HR.out, if_neg (show ¬ (3 : Int) = 0 by omega), if_neg (show ¬ ((3 : Int) = 2 ∨ (3 : Int) = 6) by omega), if_pos (show (3 : Int) = 3 from rfl), if_neg (show ¬ holds cond arg = true from hh)])
            have eh : (Go.bits .and .i64 cond arg == arg) = false := by have : holds cond arg = false := by simpa using hh
                                                                        exact this
            have eh2 : decide (Go.bits .and .i64 cond arg = arg) = false := by simpa using eh
            clear HR HOUT HARG hh
            go_wp2_with (first | ((with_reducible refine gate_dst (N := 4) rfl ?_); refine box_event ?hg (N := 4) ?hd (cs := #[.int .i64 0, .int .i64 0, .int .i64 0, .slice none 0 0]) (t := 29) ?hr ?_; (case hd => rfl); (case hg => rfl); (case hr => first | (go_simp; done) | (go_simp; rfl)); intro gc hg w5 hbox hb; have BC := Lib.hid hbox; have HB5 := Lib.hid hb; have GC : w4.heap.size ≤ gc := (by omega); have HQ5 := Lib.hid (HQ1.out.below hb); have hggc : g ≠ gc := (by have := blk_lt HQ1.out.nd; omega); clear hg hbox hb hz0 hz1 hz2 hz3 hz4 hz5; obtain ⟨hz0, hz1, hz2, hz3, hz4, hz5⟩ := blk6 HQ5.out.nd; obtain ⟨hv0, hv1, hv2, hv3⟩ := blk4 BC.out; have hq0 := blk_frozen BC.out 0; have hq1 := blk_frozen BC.out 1; have hq2 := blk_frozen BC.out 2; have hq3 := blk_frozen BC.out 3))
            clear hz0 hz1 hz2 hz3 hz4 hz5 hv0 hv1 hv2 hv3 hq0 hq1 hq2 hq3 hx0 hx1 hx2 hx3
            have HB6 := Lib.hid (set4_below HB5.out GC (.int .i64 3) (.int .i64 (o : Int)) (.int .i64 arg) (.slice A3 rs.length c3))
            have BC6 := Lib.hid (set4_blk BC.out (.int .i64 3) (.int .i64 (o : Int)) (.int .i64 arg) (.slice A3 rs.length c3))
            clear BC HB5 HQ5
            generalize hw6 : set4 w5 gc (.int .i64 3) (.int .i64 (o : Int)) (.int .i64 arg) (.slice A3 rs.length c3) = w6 at *
            simp only [set4] at hw6
            rw [hw6]
            clear hw6
            have HQ6 := Lib.hid (HQ1.out.below HB6.out)
            have HK6 := Lib.hid (HKP.out.trans (Kp.of_below HB6.out g sb _))
            obtain ⟨hz0, hz1, hz2, hz3, hz4, hz5⟩ := blk6 HQ6.out.nd
            obtain ⟨hv0, hv1, hv2, hv3⟩ := blk4 BC6.out
            go_quiet (fail)
            have HD := Lib.hid (Drawn0.mk (⟨nq, rfl⟩ : ∃ n, w6.drewN nq = w6.drewN n))
            generalize w6.drewN nq = w6d at *
            have HQd := Lib.hid (HQ6.out.below HD.out.below)
            have HKd := Lib.hid (HK6.out.trans (Kp.of_below HD.out.below g sb _))
            have BCd := Lib.hid (blk_below BC6.out HD.out.below)
            clear hz0 hz1 hz2 hz3 hz4 hz5 hv0 hv1 hv2 hv3
            obtain ⟨hv0, hv1, hv2, hv3⟩ := blk4 BCd.out
            go_wp2_with fail
            first | exact bodyPost_ret (results_none rfl _ _ _) rfl ⟨rfl, _, by rw [HR1.out]; exact HQd.out, HKd.out⟩ | (go_end0; exact ⟨rfl, _, by rw [HR1.out]; exact HQd.out, HKd.out⟩)
        · have HR1 : Hid (rF L cond (n + 1) D pc = D ++ [pc]) := Lib.hid (by rw [HR.out, if_neg (show ¬ op = 0 by omega), if_neg (show ¬ (op = 2 ∨ op = 6) by omega), if_neg (show ¬ op = 3 by omega)])
          rcases hcase with rfl | rfl | rfl | rfl | rfl | rfl
          · clear HR HOUT HARG
            go_wp2_with (first | ((with_reducible refine gate_dst (N := 4) rfl ?_); refine box_event ?hg (N := 4) ?hd (cs := #[.int .i64 0, .int .i64 0, .int .i64 0, .slice none 0 0]) (t := 29) ?hr ?_; (case hd => rfl); (case hg => rfl); (case hr => first | (go_simp; done) | (go_simp; rfl)); intro gc hg w5 hbox hb; have BC := Lib.hid hbox; have HB5 := Lib.hid hb; have GC : w4.heap.size ≤ gc := (by omega); have HQ5 := Lib.hid (HQ1.out.below hb); have hggc : g ≠ gc := (by have := blk_lt HQ1.out.nd; omega); clear hg hbox hb hz0 hz1 hz2 hz3 hz4 hz5; obtain ⟨hz0, hz1, hz2, hz3, hz4, hz5⟩ := blk6 HQ5.out.nd; obtain ⟨hv0, hv1, hv2, hv3⟩ := blk4 BC.out; have hq0 := blk_frozen BC.out 0; have hq1 := blk_frozen BC.out 1; have hq2 := blk_frozen BC.out 2; have hq3 := blk_frozen BC.out 3))
            clear hz0 hz1 hz2 hz3 hz4 hz5 hv0 hv1 hv2 hv3 hq0 hq1 hq2 hq3 hx0 hx1 hx2 hx3
            have HB6 := Lib.hid (set4_below HB5.out GC (.int .i64 4) (.int .i64 out) (.int .i64 arg) (.slice A3 rs.length c3))
            have BC6 := Lib.hid (set4_blk BC.out (.int .i64 4) (.int .i64 out) (.int .i64 arg) (.slice A3 rs.length c3))
            clear BC HB5 HQ5
            generalize hw6 : set4 w5 gc (.int .i64 4) (.int .i64 out) (.int .i64 arg) (.slice A3 rs.length c3) = w6 at *
            simp only [set4] at hw6
            rw [hw6]
            clear hw6
            have HQ6 := Lib.hid (HQ1.out.below HB6.out)
            have HK6 := Lib.hid (HKP.out.trans (Kp.of_below HB6.out g sb _))
            go_end0
            exact ⟨rfl, _, by rw [HR1.out]; exact HQ6.out, HK6.out⟩
          · clear HR HOUT HARG
            go_wp2_with (first | ((with_reducible refine gate_dst (N := 4) rfl ?_); refine box_event ?hg (N := 4) ?hd (cs := #[.int .i64 0, .int .i64 0, .int .i64 0, .slice none 0 0]) (t := 29) ?hr ?_; (case hd => rfl); (case hg => rfl); (case hr => first | (go_simp; done) | (go_simp; rfl)); intro gc hg w5 hbox hb; have BC := Lib.hid hbox; have HB5 := Lib.hid hb; have GC : w4.heap.size ≤ gc := (by omega); have HQ5 := Lib.hid (HQ1.out.below hb); have hggc : g ≠ gc := (by have := blk_lt HQ1.out.nd; omega); clear hg hbox hb hz0 hz1 hz2 hz3 hz4 hz5; obtain ⟨hz0, hz1, hz2, hz3, hz4, hz5⟩ := blk6 HQ5.out.nd; obtain ⟨hv0, hv1, hv2, hv3⟩ := blk4 BC.out; have hq0 := blk_frozen BC.out 0; have hq1 := blk_frozen BC.out 1; have hq2 := blk_frozen BC.out 2; have hq3 := blk_frozen BC.out 3))
            clear hz0 hz1 hz2 hz3 hz4 hz5 hv0 hv1 hv2 hv3 hq0 hq1 hq2 hq3 hx0 hx1 hx2 hx3
            have HB6 := Lib.hid (set4_below HB5.out GC (.int .i64 5) (.int .i64 out) (.int .i64 arg) (.slice A3 rs.length c3))
            have BC6 := Lib.hid (set4_blk BC.out (.int .i64 5) (.int .i64 out) (.int .i64 arg) (.slice A3 rs.length c3))
            clear BC HB5 HQ5
            generalize hw6 : set4 w5 gc (.int .i64 5) (.int .i64 out) (.int .i64 arg) (.slice A3 rs.length c3) = w6 at *
            simp only [set4] at hw6
            rw [hw6]
            clear hw6
            have HQ6 := Lib.hid (HQ1.out.below HB6.out)
            have HK6 := Lib.hid (HKP.out.trans (Kp.of_below HB6.out g sb _))
            go_end0
            exact ⟨rfl, _, by rw [HR1.out]; exact HQ6.out, HK6.out⟩
          · clear HR HOUT HARG
            go_wp2_with (first | ((with_reducible refine gate_dst (N := 4) rfl ?_); refine box_event ?hg (N := 4) ?hd (cs := #[.int .i64 0, .int .i64 0, .int .i64 0, .slice none 0 0]) (t := 29) ?hr ?_; (case hd => rfl); (case hg => rfl); (case hr => first | (go_simp; done) | (go_simp; rfl)); intro gc hg w5 hbox hb; have BC := Lib.hid hbox; have HB5 := Lib.hid hb; have GC : w4.heap.size ≤ gc := (by omega); have HQ5 := Lib.hid (HQ1.out.below hb); have hggc : g ≠ gc := (by have := blk_lt HQ1.out.nd; omega); clear hg hbox hb hz0 hz1 hz2 hz3 hz4 hz5; obtain ⟨hz0, hz1, hz2, hz3, hz4, hz5⟩ := blk6 HQ5.out.nd; obtain ⟨hv0, hv1, hv2, hv3⟩ := blk4 BC.out; have hq0 := blk_frozen BC.out 0; have hq1 := blk_frozen BC.out 1; have hq2 := blk_frozen BC.out 2; have hq3 := blk_frozen BC.out 3))
            clear hz0 hz1 hz2 hz3 hz4 hz5 hv0 hv1 hv2 hv3 hq0 hq1 hq2 hq3 hx0 hx1 hx2 hx3
            have HB6 := Lib.hid (set4_below HB5.out GC (.int .i64 7) (.int .i64 out) (.int .i64 arg) (.slice A3 rs.length c3))
            have BC6 := Lib.hid (set4_blk BC.out (.int .i64 7) (.int .i64 out) (.int .i64 arg) (.slice A3 rs.length c3))
            clear BC HB5 HQ5
            generalize hw6 : set4 w5 gc (.int .i64 7) (.int .i64 out) (.int .i64 arg) (.slice A3 rs.length c3) = w6 at *
            simp only [set4] at hw6
            rw [hw6]
            clear hw6
            have HQ6 := Lib.hid (HQ1.out.below HB6.out)
            have HK6 := Lib.hid (HKP.out.trans (Kp.of_below HB6.out g sb _))
            go_end0
            exact ⟨rfl, _, by rw [HR1.out]; exact HQ6.out, HK6.out⟩
          · clear HR HOUT HARG
            go_wp2_with (first | ((with_reducible refine gate_dst (N := 4) rfl ?_); refine box_event ?hg (N := 4) ?hd (cs := #[.int .i64 0, .int .i64 0, .int .i64 0, .slice none 0 0]) (t := 29) ?hr ?_; (case hd => rfl); (case hg => rfl); (case hr => first | (go_simp; done) | (go_simp; rfl)); intro gc hg w5 hbox hb; have BC := Lib.hid hbox; have HB5 := Lib.hid hb; have GC : w4.heap.size ≤ gc := (by omega); have HQ5 := Lib.hid (HQ1.out.below hb); have hggc : g ≠ gc := (by have := blk_lt HQ1.out.nd; omega); clear hg hbox hb hz0 hz1 hz2 hz3 hz4 hz5; obtain ⟨hz0, hz1, hz2, hz3, hz4, hz5⟩ := blk6 HQ5.out.nd; obtain ⟨hv0, hv1, hv2, hv3⟩ := blk4 BC.out; have hq0 := blk_frozen BC.out 0; have hq1 := blk_frozen BC.out 1; have hq2 := blk_frozen BC.out 2; have hq3 := blk_frozen BC.out 3))
            clear hz0 hz1 hz2 hz3 hz4 hz5 hv0 hv1 hv2 hv3 hq0 hq1 hq2 hq3 hx0 hx1 hx2 hx3
            have HB6 := Lib.hid (set4_below HB5.out GC (.int .i64 8) (.int .i64 out) (.int .i64 arg) (.slice A3 rs.length c3))
            have BC6 := Lib.hid (set4_blk BC.out (.int .i64 8) (.int .i64 out) (.int .i64 arg) (.slice A3 rs.length c3))
            clear BC HB5 HQ5
            generalize hw6 : set4 w5 gc (.int .i64 8) (.int .i64 out) (.int .i64 arg) (.slice A3 rs.length c3) = w6 at *
            simp only [set4] at hw6
            rw [hw6]
            clear hw6
            have HQ6 := Lib.hid (HQ1.out.below HB6.out)
            have HK6 := Lib.hid (HKP.out.trans (Kp.of_below HB6.out g sb _))
            go_end0
            exact ⟨rfl, _, by rw [HR1.out]; exact HQ6.out, HK6.out⟩
          · clear HR HOUT HARG
            go_wp2_with (first | ((with_reducible refine gate_dst (N := 4) rfl ?_); refine box_event ?hg (N := 4) ?hd (cs := #[.int .i64 0, .int .i64 0, .int .i64 0, .slice none 0 0]) (t := 29) ?hr ?_; (case hd => rfl); (case hg => rfl); (case hr => first | (go_simp; done) | (go_simp; rfl)); intro gc hg w5 hbox hb; have BC := Lib.hid hbox; have HB5 := Lib.hid hb; have GC : w4.heap.size ≤ gc := (by omega); have HQ5 := Lib.hid (HQ1.out.below hb); have hggc : g ≠ gc := (by have := blk_lt HQ1.out.nd; omega); clear hg hbox hb hz0 hz1 hz2 hz3 hz4 hz5; obtain ⟨hz0, hz1, hz2, hz3, hz4, hz5⟩ := blk6 HQ5.out.nd; obtain ⟨hv0, hv1, hv2, hv3⟩ := blk4 BC.out; have hq0 := blk_frozen BC.out 0; have hq1 := blk_frozen BC.out 1; have hq2 := blk_frozen BC.out 2; have hq3 := blk_frozen BC.out 3))
            clear hz0 hz1 hz2 hz3 hz4 hz5 hv0 hv1 hv2 hv3 hq0 hq1 hq2 hq3 hx0 hx1 hx2 hx3
            have HB6 := Lib.hid (set4_below HB5.out GC (.int .i64 9) (.int .i64 out) (.int .i64 arg) (.slice A3 rs.length c3))
            have BC6 := Lib.hid (set4_blk BC.out (.int .i64 9) (.int .i64 out) (.int .i64 arg) (.slice A3 rs.length c3))
            clear BC HB5 HQ5
            generalize hw6 : set4 w5 gc (.int .i64 9) (.int .i64 out) (.int .i64 arg) (.slice A3 rs.length c3) = w6 at *
            simp only [set4] at hw6
            rw [hw6]
            clear hw6
            have HQ6 := Lib.hid (HQ1.out.below HB6.out)
            have HK6 := Lib.hid (HKP.out.trans (Kp.of_below HB6.out g sb _))
            go_end0
            exact ⟨rfl, _, by rw [HR1.out]; exact HQ6.out, HK6.out⟩
          · clear HR HOUT HARG
            go_wp2_with (first | ((with_reducible refine gate_dst (N := 4) rfl ?_); refine box_event ?hg (N := 4) ?hd (cs := #[.int .i64 0, .int .i64 0, .int .i64 0, .slice none 0 0]) (t := 29) ?hr ?_; (case hd => rfl); (case hg => rfl); (case hr => first | (go_simp; done) | (go_simp; rfl)); intro gc hg w5 hbox hb; have BC := Lib.hid hbox; have HB5 := Lib.hid hb; have GC : w4.heap.size ≤ gc := (by omega); have HQ5 := Lib.hid (HQ1.out.below hb); have hggc : g ≠ gc := (by have := blk_lt HQ1.out.nd; omega); clear hg hbox hb hz0 hz1 hz2 hz3 hz4 hz5; obtain ⟨hz0, hz1, hz2, hz3, hz4, hz5⟩ := blk6 HQ5.out.nd; obtain ⟨hv0, hv1, hv2, hv3⟩ := blk4 BC.out; have hq0 := blk_frozen BC.out 0; have hq1 := blk_frozen BC.out 1; have hq2 := blk_frozen BC.out 2; have hq3 := blk_frozen BC.out 3))
            clear hz0 hz1 hz2 hz3 hz4 hz5 hv0 hv1 hv2 hv3 hq0 hq1 hq2 hq3 hx0 hx1 hx2 hx3
            have HB6 := Lib.hid (set4_below HB5.out GC (.int .i64 10) (.int .i64 out) (.int .i64 arg) (.slice A3 rs.length c3))
            have BC6 := Lib.hid (set4_blk BC.out (.int .i64 10) (.int .i64 out) (.int .i64 arg) (.slice A3 rs.length c3))
            clear BC HB5 HQ5
            generalize hw6 : set4 w5 gc (.int .i64 10) (.int .i64 out) (.int .i64 arg) (.slice A3 rs.length c3) = w6 at *
            simp only [set4] at hw6
            rw [hw6]
            clear hw6
            have HQ6 := Lib.hid (HQ1.out.below HB6.out)
            have HK6 := Lib.hid (HKP.out.trans (Kp.of_below HB6.out g sb _))
            go_end0
            exact ⟨rfl, _, by rw [HR1.out]; exact HQ6.out, HK6.out⟩
end Go.Proofs.YteoljppcafakpaaDoor.PgFnPgSpan
