import Derived.Test.YtmccgfjhmbioeaaDoorVzFnPgThreads
import Derived.BigQuiet
namespace Go.Proofs.YtmccgfjhmbioeaaDoor.PgFnPgThreads
open Go.RowKit Go.Proofs.YtmccgfjhmbioeaaDoor.EvN Go.Proofs.YtmccgfjhmbioeaaDoor.Row Go.Proofs.YtmccgfjhmbioeaaDoor.Sf Go.Proofs.YtmccgfjhmbioeaaDoor.PFnPgThreads Go.Proofs.YtmccgfjhmbioeaaDoorW.PrintWords Go.Proofs.YtmccgfjhmbioeaaDoorW.PrintLast Go.Proofs.YtmccgfjhmbioeaaDoorW.PrintMore
set_option linter.unusedVariables false
set_option linter.unusedSimpArgs false
theorem blk4 {w : World} {g : Nat} {ty : TypeId} {v0 v1 v2 v3 : Value} (h : w.heap[g]? = some (.cells #[v0, v1, v2, v3] ty (0, 0))) :
    w.cell? ⟨g, 0, none⟩ = some v0 ∧ w.cell? ⟨g, 1, none⟩ = some v1 ∧ w.cell? ⟨g, 2, none⟩ = some v2 ∧ w.cell? ⟨g, 3, none⟩ = some v3 :=
  ⟨(blk_cell h 0).trans rfl, (blk_cell h 1).trans rfl, (blk_cell h 2).trans rfl, (blk_cell h 3).trans rfl⟩
theorem last9_ {P : Program} {md : Region.Mode} {ops : Array Oper} {Q : Exit → Act → World → Prop} {S : World → Prop} {ds : List Nat} {i : Nat} {N : Option Tmp} {oi : Oper} {fuel : Nat} {l : Array Bool} {a : Act} {w : World} (l' : Array Bool) (hi : ops[i]? = some oi) (hN : oi.dst = N) (hc : readyB md ops l l' i = true) (hd : i ∈ ds)
    (h : ∀ K : Act → World → Prop, Shut (∀ a' w', wpAnyLast P md ops Q S ds fuel l' a' w' → K a' w') → if Region.wanted oi (yielded ops a.tmps) = true then Oper.wp P oi a w K Q else K (a.put N undef) w) :
    wpAnyLast P md ops Q S ds (fuel + 1) l a w := by
  subst hN
  simp only [readyB, Bool.and_eq_true, beq_iff_eq] at hc
  obtain ⟨h1, h2⟩ := hc
  subst h2
  refine wpAnyLast_ready h1 (by simp) (fun j hj => ?_)
  rcases List.mem_cons.1 hj with rfl | hj
  · exact wpOp_step hi (fun K' hK => h K' (fun a w hW => hK a w ⟨fun hn => absurd hd hn, hW⟩))
  · cases hj
set_option maxRecDepth 100000 in
set_option maxHeartbeats 8000000 in
theorem visit_calls {W0 : World} {A : Option Addr} {c0 : Nat} {L : List I} {st nc most : Int} {s : ByteArray} {long : Bool} {g sb cb n : Nat} (hp : PSound L st nc most) (hsz : s.size ≤ 60000) (hwk : L.length * (s.size + 1) ≤ 1048576) (hnc : nc = (n : Int)) (hn2 : n ≤ 2002)
    (hK : Kd.C k52 W0 A L.length L) (hr : ∀ i ∈ L, i.f3.length ≤ 4611686018427387000) (hF : Folds W0) (hT : Tabs W0) : ∀ k m, VisC W0 A c0 L st nc s long g sb cb n k m := by
  subst hnc
  have HPS := Lib.hid hp
  have HK := Lib.hid hK
  have HR := Lib.hid hr
  have HF := Lib.hid hF
  have HT := Lib.hid hT
  have hn1 : 2 ≤ n := by have := hp.nc0; omega
  clear hp hK hr hF hT
  intro k
  induction k with
  | zero => intro m pc i S C o w _ hi _ _ _ h; omega
  | succ k ihk =>
    have HIK := Lib.hid ihk
    clear ihk
    intro m
    induction m with
    | zero => intro pc i S C o w _ _ _ _ h; omega
    | succ m ihm =>
      have HIM := Lib.hid ihm
      clear ihm
      intro pc i S C o w hpc hi hbd hS hm hk hC ho hV
      obtain ⟨b, hsc, hb, hfz⟩ := hV.seen hpc hi
      cases b with
      | true =>
        refine visit_seen hsz hwk (k + 1) (m + 1) pc i hpc hi hm hV hsc ?_
        by_cases h0 : pc = 0
        · exact .inl h0
        · exact .inr (of_decide_eq_true (hb h0).symm)
      | false =>
        have hnot : pc ≠ 0 → ¬ (pc = 0 ∨ pc ∈ S i) := fun h0 e => by
          rcases e with e | e
          · exact h0 e
          · have := hb h0; rw [decide_eq_true e] at this; cases this
        obtain ⟨S1, hS1, hS0, hS2⟩ : ∃ S1 : Mk, (∀ x j, x ≠ 0 → (x ∈ S1 j ↔ x ∈ S j ∨ (x = pc ∧ j = i))) ∧ (pc = 0 → S1 = S) ∧ (pc ≠ 0 → S1 = mk1 S i pc) := by
          by_cases h0 : pc = 0
          · exact ⟨S, fun x j hx => by constructor; exact .inl; rintro (h | ⟨h, _⟩); exact h; omega, fun _ => rfl, fun h => absurd h0 h⟩
          · exact ⟨mk1 S i pc, mk1_mem, fun h => absurd h h0, fun _ => rfl⟩
        have hkey := key_lt (N := L.length) hpc hi
        obtain ⟨bv, e0, e3, e4, e5, e6, e7, -⟩ := hV.cells
        have HV := Lib.hid hV
        have HV1 := Lib.hid (hV.mark hpc hi S1 hS1)
        have HFR := Lib.hid ((Fr.refl (fun x => x = g ∨ x = sb ∨ x = cb) w).set (g := sb) (j := pc * (s.size + 1) + i) (.bool true) (.inr (.inl rfl)))
        have hgsb : g ≠ sb := by obtain ⟨_, a, _⟩ := hV.nd; obtain ⟨_, b, _⟩ := hV.sn; exact blk_ne a b (by decide)
        have hk1 : (pc : Int) * ((s.size : Int) + 1) = ((pc * (s.size + 1) : Nat) : Int) := by push_cast; rfl
        have HN := Lib.hid (And.intro hS (And.intro hm (And.intro hk (And.intro hC (And.intro ho (And.intro hbd (And.intro hnot (And.intro hS0 hS2))))))))
        obtain ⟨op0, op1, op2⟩ := HPS.out.op pc hpc
        clear hV hb hS1 hS hm hk hC ho hbd hnot hS0 hS2 e6 e7 e4
        generalize hKK : L.length * (s.size + 1) = K at *
        generalize hQQ : pc * (s.size + 1) = q at *
        go_enter Tryd.func16, Tryd.ntmps16
        go_upto_region 5 with (fail)
        clear e0 e3 e5 hsc hfz hgsb
        generalize w.setCell ⟨sb, q + i, none⟩ (.bool true) = w1 at *
        obtain ⟨bv1, e0, e3, e4, e5, e6, e7, -⟩ := HV1.out.cells
        obtain ⟨ad, A3, c3, e, hx0, hx1, hx2, hx3, l3, g3⟩ := inst_at HK.out HV1.out.bl pc hpc
        cases e
        rw [← ins_lt L pc hpc] at hx0 hx1 hx2 hx3 l3 g3
        have HG3 := Lib.hid (And.intro l3 g3)
        have HV2 := Lib.hid (HV1.out.grow (below_alloc (Below.refl _ _) (.cells #[.int .i64 (ins L pc).f0, .int .i64 (ins L pc).f1, .int .i64 (ins L pc).f2, .slice A3 (ins L pc).f3.length c3] 52)))
        have hnw := heap_alloc_new w1 (.cells #[.int .i64 (ins L pc).f0, .int .i64 (ins L pc).f1, .int .i64 (ins L pc).f2, .slice A3 (ins L pc).f3.length c3] 52)
        have HFR2 := Lib.hid (HFR.out.alloc (.cells #[.int .i64 (ins L pc).f0, .int .i64 (ins L pc).f1, .int .i64 (ins L pc).f2, .slice A3 (ins L pc).f3.length c3] 52))
        have hgb : w.heap.size ≤ w1.heap.size := HFR.out.size
        clear l3 g3 e3 e4 e5 e6 e7
        go_upto_region 6 with (fail)
        clear e0 hx0 hx1 hx2 hx3 HV1 HFR
        generalize w1.alloc (.cells #[.int .i64 (ins L pc).f0, .int .i64 (ins L pc).f1, .int .i64 (ins L pc).f2, .slice A3 (ins L pc).f3.length c3] 52) = w2 at *
        generalize w1.heap.size = gb at *
        have HNW := Lib.hid hnw
        obtain ⟨z0, z1, z2, z3⟩ := blk4 hnw
        clear hnw
        by_cases h5 : (ins L pc).f0 = 5
        ·
          rw [h5] at z0
          have hH : visH L s (k + 1) (m + 1) pc i S C = ([], S1) := by
            by_cases h0 : pc = 0
            · rw [HN.out.2.2.2.2.2.2.2.1 h0]; exact visH_skip (.inl h0)
            · rw [HN.out.2.2.2.2.2.2.2.2 h0]; exact visH_fail (HN.out.2.2.2.2.2.2.1 h0) h5
          have HH := Lib.hid hH
          clear hH
          go_wp2_with fail
          go_ret
          exact ⟨false, S1, C, o, rfl, HFR2.out, HV2.out, by rw [HH.out]; exact .inl ⟨rfl, rfl, rfl, fun _ => rfl, fun _ => ⟨rfl, rfl⟩⟩⟩
        · have hp0 : pc ≠ 0 := fun e => by subst e; exact h5 HPS.out.first
          have hnot := HN.out.2.2.2.2.2.2.1 hp0
          have hS1e := HN.out.2.2.2.2.2.2.2.2 hp0
          subst hS1e
          have hfin : ∀ j, Fine L.length (mk1 S i pc j) := mk1_fine hpc (fun h => hnot (.inr h)) HN.out.1
          have hlen : L.length - (mk1 S i pc i).length < m := by
            have h1 := (hfin i).len
            have h2 := HN.out.2.1
            rw [mk1_at] at h1 ⊢
            rw [List.length_append, List.length_singleton] at h1 ⊢
            omega
          have HL := Lib.hid (And.intro hfin hlen)
          have hout := HPS.out.outIn pc hpc
          clear hfin hlen
          by_cases h4 : (ins L pc).f0 = 4
          ·
            rw [h4] at z0
            have HH := Lib.hid (show visH L s (k + 1) (m + 1) pc i S C = ([C.set 1 (i : Int)], mk1 S i pc) from visH_hit hnot h4)
            have hCn : C.length = n := HN.out.2.2.2.1
            obtain ⟨bv2, -, e3, e4, e5, e6, e7, hbv⟩ := HV2.out.cells
            obtain ⟨b3, hb3⟩ : ∃ b3, b3 = (match o with | none => true | some M => decide (M.getD 1 0 < (i : Int))) := ⟨_, rfl⟩
            go_upto_region 23 with (fail)
            go_cut [136] (fun v w' => v = .bool b3 ∧ w2 = w')
            case first =>
              cases o with
              | none =>
                obtain rfl : bv2 = .slice none 0 0 := hbv
                obtain rfl : b3 = true := hb3
                have hnil : ∀ w : World, (binOp .eql 27 (.slice none 0 0) (.slice none 0 0)).run Tryd.prog w = .ok (.bool true) w := fun w => Lib.run_eql_slice_nil w _ _ none 0 0 0 0 Tryd.underlying27
                go_wp2_with fail
                go_meet
                exact ⟨rfl, rfl⟩
              | some M =>
                obtain ⟨bb, cp, rfl, hcm, -, -, -⟩ := hbv
                have hMl : M.length = n := by obtain ⟨_, _, q, _⟩ := hcm; exact q
                have hm1 : w2.cell? ⟨bb, 1, none⟩ = some (.int .i64 (M.getD 1 0)) := by
                  rw [hcm.cell (k := 1) (by omega), List.getD_eq_getElem?_getD, List.getElem?_eq_getElem (by omega)]; rfl
                have hb4 : b3 = decide (M.getD 1 0 < (i : Int)) := hb3
                clear hb3 hcm
                generalize M.getD 1 0 = mv at hb4 hm1
                have hnil : ∀ w : World, (binOp .eql 27 (.slice (some ⟨bb, 0, none⟩) n cp) (.slice none 0 0)).run Tryd.prog w = .ok (.bool false) w := fun w => Lib.run_eql_slice_nil w _ _ (some ⟨bb, 0, none⟩) n cp 0 0 Tryd.underlying27
                cases b3 with
                | true =>
                  have hd : decide (mv < (i : Int)) = true := hb4.symm
                  clear hb4
                  go_wp2_with fail
                  go_meet
                  exact ⟨rfl, rfl⟩
                | false =>
                  have hd : decide (mv < (i : Int)) = false := hb4.symm
                  clear hb4
                  go_wp2_with fail
                  go_meet
                  exact ⟨rfl, rfl⟩
            case rest =>
              obtain ⟨rfl, rfl⟩ := hcut
              have hres : bestR o [C.set 1 (i : Int)] = (if b3 = true then some (C.set 1 (i : Int)) else o) := by
                have h1 := set1_1 C (i : Int) (by omega)
                cases o with
                | none => rw [hb3]; rfl
                | some M =>
                  have hb4 : b3 = decide (M.getD 1 0 < (i : Int)) := hb3
                  show (if M.getD 1 0 < (C.set 1 (i : Int)).getD 1 0 then some (C.set 1 (i : Int)) else some M) = _
                  rw [h1, hb4]
                  by_cases e : M.getD 1 0 < (i : Int)
                  · rw [if_pos e, if_pos (decide_eq_true e)]
                  · rw [if_neg e, if_neg (by rw [decide_eq_false e]; simp)]
              have hfirst : long = false → b3 = true := fun e => by have := HN.out.2.2.2.2.1 e; rw [hb3, this]
              have HRS := Lib.hid (And.intro hres hfirst)
              clear hres hfirst hb3 hbv
              cases b3 with
              | false =>
                go_wp2_with fail
                go_ret
                cases long with
                | false => have := HRS.out.2 rfl; cases this
                | true => exact ⟨false, mk1 S i pc, C, o, rfl, HFR2.out, HV2.out, by rw [HH.out]; exact .inl ⟨rfl, rfl, rfl, fun _ => HRS.out.1.symm, fun e => by cases e⟩⟩
              | true =>
                have HO0 := Lib.hid (own_zero (B := w2.heap.size) (heap_alloc_new w2 (.cells #[] 3)) (Nat.le_refl _))
                have HBA := Lib.hid (below_alloc (Below.refl w2.heap.size w2) (.cells #[] 3))
                have HROW := Lib.hid ((HV2.out.cp.keep (w' := w2.alloc (.cells #[] 3)) (Below.heap_alloc _ _ _ HV2.out.cp.lt)).row (S := fun _ => True) trivial (by omega))
                have e6a : ∀ o, (w2.alloc o).cell? ⟨g, 6, none⟩ = some (.slice (some ⟨cb, 0, none⟩) n n) := fun o => ((below_alloc (Below.refl _ w2) o).cell (World.block_lt_of_cell? w2 _ e6)).trans e6
                go_upto_region 26 with (at_builtin; refine appm rfl (.tmp 138) (.tmp 142) 27 rfl 3 (.int .i64 0) 8 Tryd.underlying27 iint rfl _ 0 [] rfl w2.heap.size w2 HO0.out HBA.out (Nat.le_refl _) _ _ (C.map (Value.int .i64)) rfl HROW.out (by intro u hu; obtain ⟨y, _, rfl⟩ := List.mem_map.1 hu; rfl) (by rw [List.length_map]; omega) (by rw [List.length_map]; unfold maxLen; omega) ?_; intro v1 w5 hown1 hbel1 hg1; obtain ⟨gg, cp5, rfl, hgg, hgg2, hcg, hvb1, hvb2⟩ := HV2.out.best hn1 hbel1.out (v := v1) (by have := hown1.out; rw [List.nil_append, Nat.zero_add, List.length_map, hCn] at this; exact this); have HVB1 := Lib.hid hvb1; have HVB2 := Lib.hid hvb2; have HB5 := Lib.hid hbel1.out; have hfg : w5.frozen? ⟨g, 7, none⟩ = false := by { obtain ⟨_, q, _⟩ := (HV2.out.grow HB5.out).nd; exact blk_frozen q 7 }; have hzg : w5.cell? ⟨g, 7, none⟩ = some bv2 := (hbel1.out.cell (World.block_lt_of_cell? w2 _ e7)).trans e7; have hcg1 := hcg.cell (k := 1) (by omega); have hfg1 : (w5.setCell ⟨g, 7, none⟩ (.slice (some ⟨gg, 0, none⟩) n cp5)).frozen? ⟨gg, 1, none⟩ = false := by { obtain ⟨_, q, _⟩ := hcg; exact blk_frozen q 1 }; clear hvb1 hvb2 hown1 hbel1 hg1 hcg)
                have HVF := Lib.hid (HVB2.out (i : Int))
                have HFRF := Lib.hid (((HFR2.out.below HB5.out).set (g := g) (j := 7) (.slice (some ⟨gg, 0, none⟩) n cp5) (.inl rfl)).set_new (g := gg) (j := 1) (.int .i64 (i : Int)) (Nat.le_trans HFR2.out.size hgg))
                clear HVB1 HVB2 HB5 hfg hzg hcg1 hfg1 e3 e4 e5 e6 e7 e6a HO0 HBA HROW
                generalize (w5.setCell ⟨g, 7, none⟩ (.slice (some ⟨gg, 0, none⟩) n cp5)).setCell ⟨gg, 1, none⟩ (.int .i64 (i : Int)) = w6 at *
                obtain ⟨bv6, -, -, e4, -, -, -, -⟩ := HVF.out.cells
                cases long with
                | false =>
                  go_wp2_with fail
                  go_ret
                  exact ⟨true, mk1 S i pc, C, some (C.set 1 (i : Int)), rfl, HFRF.out, HVF.out, by rw [HH.out]; exact .inr ⟨rfl, rfl, _, [], rfl, rfl⟩⟩
                | true =>
                  go_wp2_with fail
                  go_ret
                  exact ⟨false, mk1 S i pc, C, some (C.set 1 (i : Int)), rfl, HFRF.out, HVF.out, by rw [HH.out]; exact .inl ⟨rfl, rfl, rfl, fun _ => by have := HRS.out.1; simpa using this.symm, fun e => by cases e⟩⟩
          · obtain ⟨o1, ho1⟩ : ∃ o1 : Nat, (ins L pc).f1 = (o1 : Int) := ⟨(ins L pc).f1.toNat, by have := hout (by omega); omega⟩
            have hol : o1 < L.length := by have := hout (by omega); omega
            rw [ho1] at z1
            by_cases h0 : (ins L pc).f0 = 0
            ·
              rw [h0] at z0
              obtain ⟨a1, ha1⟩ : ∃ a1 : Nat, (ins L pc).f2 = (a1 : Int) := ⟨(ins L pc).f2.toNat, by have := (HPS.out.leads.arg pc hpc h0); omega⟩
              have hal : a1 < L.length := by have := (HPS.out.leads.arg pc hpc h0); omega
              rw [ha1] at z2
              obtain ⟨H1, hH1⟩ : ∃ H1, H1 = visH L s (k + 1) m o1 i (mk1 S i pc) C := ⟨_, rfl⟩
              have HH := Lib.hid (show visH L s (k + 1) (m + 1) pc i S C = (H1.1 ++ (visH L s (k + 1) m a1 i H1.2 C).1, (visH L s (k + 1) m a1 i H1.2 C).2) by rw [visH_alt hnot h0 H1 (by rw [hH1, ho1, Int.toNat_natCast]), ha1, Int.toNat_natCast])
              have hC1 := HIM.out o1 i (mk1 S i pc) C o w2 hol hi HN.out.2.2.2.2.2.1 HL.out.1 HL.out.2 HN.out.2.2.1 HN.out.2.2.2.1 HN.out.2.2.2.2.1 HV2.out
              rw [← hH1] at hC1
              have HC := Lib.hid hC1
              have HF2 : Hid (∀ j, Fine L.length (H1.2 j)) := Lib.hid (by rw [hH1]; exact visH_fine HPS.out hol HL.out.1)
              have HL2 : Hid (L.length - (H1.2 i).length < m) := Lib.hid (by
                have := visH_len (L := L) (s := s) (k := k + 1) (m := m) (pc := o1) (i := i) (S := mk1 S i pc) (C := C)
                rw [← hH1] at this
                have := HL.out.2
                omega)
              clear hC1 hH1
              go_wp2_with fail
              refine HC.out.mono ?_
              rintro e w3 ⟨b, S', C', o', rfl, hfr, hv, hvr⟩
              have HFR3 := Lib.hid hfr
              have hgb3 : w3.heap[gb]? = w2.heap[gb]? := hfr.block gb (blk_lt HNW.out) (by
                obtain ⟨bvx, nx, _⟩ := HV.out.nd
                obtain ⟨sax, sx, _⟩ := HV.out.sn
                have q1 := blk_lt nx
                have q2 := blk_lt sx
                have q3 := HV.out.cp.lt
                rintro (q | q | q) <;> omega)
              obtain ⟨y0, y1, y2, y3⟩ := blk4 (hgb3.trans HNW.out)
              rw [ha1] at y2
              clear hfr hgb3
              cases b with
              | true =>
                have hR : VR long C o (visH L s (k + 1) (m + 1) pc i S C) true S' C' o' := by
                  rw [HH.out]
                  rcases hvr with ⟨q, _⟩ | ⟨_, q1, hh, tt, q2, q3⟩
                  · cases q
                  · exact .inr ⟨rfl, q1, hh, tt ++ (visH L s (k + 1) m a1 i H1.2 C).1, by rw [q2]; rfl, q3⟩
                have HR1 := Lib.hid (And.intro hv hR)
                clear hv hvr hR
                go_wp2_with fail
                go_ret
                exact ⟨true, S', C', o', rfl, HFR2.out.trans HFR3.out (fun _ _ h => h), HR1.out.1, HR1.out.2⟩
              | false =>
                rcases hvr with ⟨_, q1, q2, q3, q4⟩ | ⟨q, _⟩
                rotate_left
                · cases q
                subst q1 q2
                have HQ := Lib.hid (And.intro q3 q4)
                have HC2 := Lib.hid (HIM.out a1 i H1.2 C' o' w3 hal hi HN.out.2.2.2.2.2.1 HF2.out HL2.out HN.out.2.2.1 HN.out.2.2.2.1 (fun e => by rw [(q4 e).2]; exact HN.out.2.2.2.2.1 e) hv)
                clear hv q3 q4
                go_wp2_with fail
                refine HC2.out.mono ?_
                rintro e w4 ⟨b, S2, C2, o2, rfl, hfr, hv, hvr⟩
                have hR : VR long C' o (visH L s (k + 1) (m + 1) pc i S C') b S2 C2 o2 := by
                  rw [HH.out]
                  rcases hvr with ⟨p1, p2, p3, p4, p5⟩ | ⟨p1, p2, hh, tt, p3, p4⟩
                  · refine .inl ⟨p1, p2, p3, fun e => ?_, fun e => ?_⟩
                    · rw [p4 e, HQ.out.1 e, ← bestR_append]
                    · obtain ⟨u1, u2⟩ := HQ.out.2 e
                      obtain ⟨u3, u4⟩ := p5 e
                      exact ⟨by rw [u1, u3]; rfl, u4.trans u2⟩
                  · obtain ⟨u1, u2⟩ := HQ.out.2 p2
                    exact .inr ⟨p1, p2, hh, tt, by rw [u1]; exact p3, p4⟩
                have HR1 := Lib.hid (And.intro hfr (And.intro hv hR))
                clear hv hvr hR hfr
                go_wp2_with fail
                go_ret
                exact ⟨b, S2, C2, o2, rfl, (HFR2.out.trans HFR3.out (fun _ _ h => h)).trans HR1.out.1 (fun _ _ h => h), HR1.out.2.1, HR1.out.2.2⟩
            · by_cases h6 : (ins L pc).f0 = 6
              ·
                rw [h6] at z0
                have HH := Lib.hid (show visH L s (k + 1) (m + 1) pc i S C = visH L s (k + 1) m o1 i (mk1 S i pc) C by rw [visH_nop hnot h6, ho1, Int.toNat_natCast])
                have HC := Lib.hid (HIM.out o1 i (mk1 S i pc) C o w2 hol hi HN.out.2.2.2.2.2.1 HL.out.1 HL.out.2 HN.out.2.2.1 HN.out.2.2.2.1 HN.out.2.2.2.2.1 HV2.out)
                go_wp2_with fail
                refine HC.out.mono ?_
                rintro e w3 ⟨b, S', C', o', rfl, hfr, hv, hvr⟩
                have HR1 := Lib.hid (And.intro hfr (And.intro hv hvr))
                clear hfr hv hvr
                go_wp2_with fail
                go_ret
                exact ⟨b, S', C', o', rfl, HFR2.out.trans HR1.out.1 (fun _ _ h => h), HR1.out.2.1, by rw [HH.out]; exact HR1.out.2.2⟩
              · by_cases h2 : (ins L pc).f0 = 2
                ·
                  rw [h2] at z0
                  obtain ⟨ra1, ra2⟩ := HPS.out.arg2 pc hpc h2
                  obtain ⟨a1, ha1⟩ : ∃ a1 : Nat, (ins L pc).f2 = (a1 : Int) := ⟨(ins L pc).f2.toNat, by omega⟩
                  have han : a1 < n := by omega
                  have hCn : C.length = n := HN.out.2.2.2.1
                  rw [ha1] at z2
                  have HH := Lib.hid (show visH L s (k + 1) (m + 1) pc i S C = visH L s (k + 1) m o1 i (mk1 S i pc) (C.set a1 (i : Int)) by rw [visH_cap hnot h2, ho1, ha1, Int.toNat_natCast, Int.toNat_natCast])
                  obtain ⟨bv2, -, -, -, -, e6, -, -⟩ := HV2.out.cells
                  obtain ⟨old, hold⟩ : ∃ old, old = C[a1]'(by omega) := ⟨_, rfl⟩
                  have hcc : w2.cell? ⟨cb, a1, none⟩ = some (.int .i64 old) := by rw [hold]; exact HV2.out.cp.cell (by omega)
                  have HOLD := Lib.hid (show (C.set a1 (i : Int)).set a1 old = C by rw [List.set_set, hold, List.set_getElem_self])
                  clear hold
                  go_upto_region 10 with (fail)
                  go_quiet (fail)
                  have HV3 := Lib.hid (HV2.out.drewN nq)
                  have HFR3 := Lib.hid (HFR2.out.drewN nq)
                  have HNW3 : Hid ((w2.drewN nq).heap[gb]? = some (.cells #[.int .i64 (ins L pc).f0, .int .i64 (ins L pc).f1, .int .i64 (ins L pc).f2, .slice A3 (ins L pc).f3.length c3] 52 (0, 0))) := Lib.hid HNW.out
                  have hne : gb ≠ cb := by obtain ⟨_, q, _⟩ := HV2.out.cp; exact blk_ne HNW.out q (by decide)
                  clear z0 z1 z2 z3 e6 hcc HV2 HFR2 HNW
                  generalize w2.drewN nq = w3 at *
                  obtain ⟨z0, z1, z2, z3⟩ := blk4 HNW3.out
                  rw [h2] at z0
                  rw [ho1] at z1
                  rw [ha1] at z2
                  obtain ⟨bv2, -, -, -, -, e6, -, -⟩ := HV3.out.cells
                  go_upto_region 11 with (fail)
                  go_still_tail 8, (by kernel_rfl)
                  change wpList _ _ _ _ _ w3.drew
                  have HV4 : Hid (VS W0 (some ad) c0 L st n s long g sb cb n (mk1 S i pc) C o w3.drew) := Lib.hid (HV3.out.drewN 1)
                  have HFR4 : Hid (Fr (fun x => x = g ∨ x = sb ∨ x = cb) w w3.drew) := Lib.hid (HFR3.out.drewN 1)
                  have HNW4 : Hid (w3.drew.heap[gb]? = some (.cells #[.int .i64 (ins L pc).f0, .int .i64 (ins L pc).f1, .int .i64 (ins L pc).f2, .slice A3 (ins L pc).f3.length c3] 52 (0, 0))) := Lib.hid HNW3.out
                  clear z0 z1 z2 z3 e6 HV3 HFR3 HNW3
                  generalize w3.drew = w4 at *
                  have hfc : w4.frozen? ⟨cb, a1, none⟩ = false := by obtain ⟨_, h, _⟩ := HV4.out.cp; exact blk_frozen h a1
                  have hcc2 : w4.cell? ⟨cb, a1, none⟩ = some (.int .i64 (C[a1]'(by omega))) := HV4.out.cp.cell (by omega)
                  have HV5 := Lib.hid (HV4.out.caps han (i : Int))
                  have HFR5 := Lib.hid (HFR4.out.set (g := cb) (j := a1) (.int .i64 (i : Int)) (.inr (.inr rfl)))
                  have HNW5 := Lib.hid ((Below.heap_setCell w4 ⟨cb, a1, none⟩ (.int .i64 (i : Int)) gb hne).trans HNW4.out)
                  obtain ⟨z0, z1, z2, z3⟩ := blk4 HNW5.out
                  rw [h2] at z0
                  rw [ho1] at z1
                  rw [ha1] at z2
                  go_upto_region 12 with (fail)
                  clear hcc2 hfc HV4 HFR4 HNW4
                  generalize w4.setCell ⟨cb, a1, none⟩ (.int .i64 (i : Int)) = w6 at *
                  have HC := Lib.hid (HIM.out o1 i (mk1 S i pc) (C.set a1 (i : Int)) o w6 hol hi HN.out.2.2.2.2.2.1 HL.out.1 HL.out.2 HN.out.2.2.1 (by rw [List.length_set]; exact hCn) HN.out.2.2.2.2.1 HV5.out)
                  go_wp2_with fail
                  refine HC.out.mono ?_
                  rintro e w7 ⟨b, S', C', o', rfl, hfr, hv, hvr⟩
                  have HFR7 := Lib.hid (HFR5.out.trans hfr (fun _ _ h => h))
                  have hgb7 : w7.heap[gb]? = w6.heap[gb]? := hfr.block gb (blk_lt HNW5.out) (by
                    obtain ⟨bvx, nx, _⟩ := HV.out.nd
                    obtain ⟨sax, sx, _⟩ := HV.out.sn
                    have q1 := blk_lt nx
                    have q2 := blk_lt sx
                    have q3 := HV.out.cp.lt
                    rintro (q | q | q) <;> omega)
                  have HNW7 := Lib.hid (hgb7.trans HNW5.out)
                  have HV7 := Lib.hid hv
                  have HVR := Lib.hid hvr
                  clear hfr hv hvr hgb7 z0 z1 z2 z3
                  cases b with
                  | true =>
                    go_wp2_with fail
                    go_ret
                    exact ⟨true, S', C', o', rfl, HFR7.out, HV7.out, by
                      rw [HH.out]
                      rcases HVR.out with ⟨q, _⟩ | ⟨q1, q2, q3⟩
                      · cases q
                      · exact .inr ⟨rfl, q2, q3⟩⟩
                  | false =>
                    have hC' : C' = C.set a1 (i : Int) := by
                      rcases HVR.out with ⟨_, _, q, _⟩ | ⟨q, _⟩
                      · exact q
                      · cases q
                    obtain ⟨z0, z1, z2, z3⟩ := blk4 HNW7.out
                    rw [ha1] at z2
                    obtain ⟨bv7, -, -, -, -, e6, -, -⟩ := HV7.out.cells
                    go_upto_region 14 with (fail)
                    go_still_tail 8, (by kernel_rfl)
                    change wpList _ _ _ _ _ w7.drew
                    have HV8 : Hid (VS W0 (some ad) c0 L st n s long g sb cb n S' C' o' w7.drew) := Lib.hid (HV7.out.drewN 1)
                    have HFR8 : Hid (Fr (fun x => x = g ∨ x = sb ∨ x = cb) w w7.drew) := Lib.hid (HFR7.out.drewN 1)
                    clear z0 z1 z2 z3 e6 HV7 HFR7 HNW7
                    generalize w7.drew = w8 at *
                    have hfc8 : w8.frozen? ⟨cb, a1, none⟩ = false := by obtain ⟨_, h, _⟩ := HV8.out.cp; exact blk_frozen h a1
                    have hcc8 : w8.cell? ⟨cb, a1, none⟩ = some (.int .i64 (C'[a1]'(by rw [hC', List.length_set]; omega))) := HV8.out.cp.cell _
                    have HV9 := Lib.hid (HV8.out.caps han old)
                    have HFR9 := Lib.hid (HFR8.out.set (g := cb) (j := a1) (.int .i64 old) (.inr (.inr rfl)))
                    rw [hC', HOLD.out] at HV9
                    go_wp2_with fail
                    go_ret
                    exact ⟨false, S', C, o', rfl, HFR9.out, HV9.out, by
                      rw [HH.out]
                      rcases HVR.out with ⟨_, q1, q2, q3, q4⟩ | ⟨q, _⟩
                      · exact .inl ⟨rfl, q1, rfl, q3, q4⟩
                      · cases q⟩
                · by_cases h3 : (ins L pc).f0 = 3
                  ·
                    rw [h3] at z0
                    obtain ⟨bv2, -, e3, -, -, -, -, -⟩ := HV2.out.cells
                    have HKP : Hid (∀ w', Below w2.heap.size w2 w' → w'.cell? ⟨g, 3, none⟩ = some (.string s) ∧ w'.cell? ⟨gb, 2, none⟩ = some (.int .i64 (ins L pc).f2) ∧ w'.cell? ⟨gb, 1, none⟩ = some (.int .i64 (o1 : Int))) := Lib.hid fun w' hb => by
                      have gk : ∀ {p : Addr} {v : Value}, w2.cell? p = some v → w'.cell? p = some v := fun h => (hb.cell (World.block_lt_of_cell? w2 _ h)).trans h
                      exact ⟨gk e3, gk z2, gk z1⟩
                    have HB2 := Lib.hid HV2.out.bl
                    obtain ⟨cz, hcz⟩ : ∃ cz, cz = condZ (lastR s i) (dec s i).1 := ⟨_, rfl⟩
                    have hca := fun w' (hb : Below w2.heap.size w2 w') => condat_calls s i w' hi (by omega) (Utf8Tabs_below HT.out (below_step HB2.out hb))
                    rw [← hcz] at hca
                    have HCA := Lib.hid hca
                    have hHH := visH_emp (L := L) (s := s) (k := k + 1) (m := m) (C := C) hnot h3
                    rw [← hcz, ho1, Int.toNat_natCast] at hHH
                    unfold holds at hHH
                    have HH := Lib.hid hHH
                    clear hca hHH hcz
                    generalize (ins L pc).f2 = f2 at *
                    cases hg : (bits .and .i64 cz f2 == f2) with
                    | false =>
                      have HH2 := Lib.hid (show visH L s (k + 1) (m + 1) pc i S C = ([], mk1 S i pc) by rw [HH.out, hg]; rfl)
                      go_upto_region 17 with (fail)
                      refine start_ (n := 20) (S := fun w' => Below w2.heap.size w2 w') (ds := []) #[false, false, false, false, false, false, false, false, false, false, false, false, false, false, false, false, false, false, false, false] (by kernel_rfl) rfl rfl (below_drew (Below.refl _ _)) (fun hHeld => ?_)
                      generalize w2.drew = wd at *
                      refine pure_ (i := 0) (N := some 92) (v := ?_) (a' := ?_) #[true, false, false, false, false, false, false, false, false, false, false, false, false, false, false, false, false, false, false, false] rfl rfl (by kernel_rfl) (fun _ _ _ h => h) (Or.inl ⟨by rfl, ?_⟩) ?_ ?_
                      rotate_left
                      · intro w'
                        go_simp
                        with_reducible rfl
                      rotate_left
                      · simp only [Act.put, List.setIfInBounds_toArray, List.set_cons_zero, List.set_cons_succ]
                        rfl
                      refine pure_ (i := 1) (N := some 93) (v := ?_) (a' := ?_) #[true, true, false, false, false, false, false, false, false, false, false, false, false, false, false, false, false, false, false, false] rfl rfl (by kernel_rfl) (fun _ _ _ h => h) (Or.inl ⟨by rfl, ?_⟩) ?_ ?_
                      rotate_left
                      · intro w'
                        go_simp
                        with_reducible rfl
                      rotate_left
                      · simp only [Act.put, List.setIfInBounds_toArray, List.set_cons_zero, List.set_cons_succ]
                        rfl
                      refine pure_ (i := 2) (N := some 94) (v := ?_) (a' := ?_) #[true, true, true, false, false, false, false, false, false, false, false, false, false, false, false, false, false, false, false, false] rfl rfl (by kernel_rfl) (fun _ _ _ h => h) (Or.inl ⟨by rfl, ?_⟩) ?_ ?_
                      rotate_left
                      · intro w'
                        go_simp
                        with_reducible rfl
                      rotate_left
                      · simp only [Act.put, List.setIfInBounds_toArray, List.set_cons_zero, List.set_cons_succ]
                        rfl
                      refine take_ (i := 3) (N := some 95) (v := ?_) (a' := ?_) #[true, true, true, true, false, false, false, false, false, false, false, false, false, false, false, false, false, false, false, false] rfl rfl (by kernel_rfl) (fun _ _ _ h => h) (Or.inl ⟨by rfl, ?_⟩) hHeld ?_ ?_
                      rotate_left
                      · intro w' hs'
                        have hv := (HKP.out w' hs').1
                        go_simp
                        with_reducible rfl
                      rotate_left
                      · simp only [Act.put, List.setIfInBounds_toArray, List.set_cons_zero, List.set_cons_succ]
                        rfl
                      refine pure_ (i := 4) (N := some 96) (v := ?_) (a' := ?_) #[true, true, true, true, true, false, false, false, false, false, false, false, false, false, false, false, false, false, false, false] rfl rfl (by kernel_rfl) (fun _ _ _ h => h) (Or.inl ⟨by rfl, ?_⟩) ?_ ?_
                      rotate_left
                      · intro w'
                        go_simp
                        with_reducible rfl
                      rotate_left
                      · simp only [Act.put, List.setIfInBounds_toArray, List.set_cons_zero, List.set_cons_succ]
                        rfl
                      refine pure_ (i := 6) (N := some 98) (v := ?_) (a' := ?_) #[true, true, true, true, true, false, true, false, false, false, false, false, false, false, false, false, false, false, false, false] rfl rfl (by kernel_rfl) (fun _ _ _ h => h) (Or.inl ⟨by rfl, ?_⟩) ?_ ?_
                      rotate_left
                      · intro w'
                        go_simp
                        with_reducible rfl
                      rotate_left
                      · simp only [Act.put, List.setIfInBounds_toArray, List.set_cons_zero, List.set_cons_succ]
                        rfl
                      refine take_ (i := 7) (N := some 99) (v := ?_) (a' := ?_) #[true, true, true, true, true, false, true, true, false, false, false, false, false, false, false, false, false, false, false, false] rfl rfl (by kernel_rfl) (fun _ _ _ h => h) (Or.inl ⟨by rfl, ?_⟩) hHeld ?_ ?_
                      rotate_left
                      · intro w' hs'
                        have hv := (HKP.out w' hs').2.1
                        go_simp
                        with_reducible rfl
                      rotate_left
                      · simp only [Act.put, List.setIfInBounds_toArray, List.set_cons_zero, List.set_cons_succ]
                        rfl
                      refine pure_ (i := 9) (N := some 101) (v := ?_) (a' := ?_) #[true, true, true, true, true, false, true, true, false, true, false, false, false, false, false, false, false, false, false, false] rfl rfl (by kernel_rfl) (fun _ _ _ h => h) (Or.inl ⟨by rfl, ?_⟩) ?_ ?_
                      rotate_left
                      · intro w'
                        go_simp
                        with_reducible rfl
                      rotate_left
                      · simp only [Act.put, List.setIfInBounds_toArray, List.set_cons_zero, List.set_cons_succ]
                        rfl
                      refine take_ (i := 10) (N := some 102) (v := ?_) (a' := ?_) #[true, true, true, true, true, false, true, true, false, true, true, false, false, false, false, false, false, false, false, false] rfl rfl (by kernel_rfl) (fun _ _ _ h => h) (Or.inl ⟨by rfl, ?_⟩) hHeld ?_ ?_
                      rotate_left
                      · intro w' hs'
                        have hv := (HKP.out w' hs').2.1
                        go_simp
                        with_reducible rfl
                      rotate_left
                      · simp only [Act.put, List.setIfInBounds_toArray, List.set_cons_zero, List.set_cons_succ]
                        rfl
                      refine one_ (i := 5) (N := some 97) #[true, true, true, true, true, true, true, true, false, true, true, false, false, false, false, false, false, false, false, false] rfl rfl (by kernel_rfl) (by simp) (fun K hK => ?_)
                      refine goes_ Tryd.func29 (by kernel_rfl) rfl #[.string s, .int .i64 (i : Int)] (by rfl) rfl rfl (by first | rfl | (simp only [List.map_toArray, List.map_cons, List.map_nil]; rfl) | (simp; rfl)) ?_
                      refine (HCA.out _ hHeld).mono ?_
                      rintro e w4 ⟨rfl, hb4⟩
                      refine ⟨_, rfl, ?_⟩
                      have HB4 := Lib.hid (below_step hHeld hb4)
                      refine hK.out _ _ HB4.out (fun hHeld2 => ?_)
                      clear hK K hHeld hb4
                      have hHeld := hHeld2
                      refine norm_ (a' := ?_) ?_ ?_
                      rotate_left
                      · show Act.put _ (some 97) _ = _
                        simp only [Act.put, List.setIfInBounds_toArray, List.set_cons_zero, List.set_cons_succ]
                        rfl
                      refine pure_ (i := 8) (N := some 100) (v := ?_) (a' := ?_) #[true, true, true, true, true, true, true, true, true, true, true, false, false, false, false, false, false, false, false, false] rfl rfl (by kernel_rfl) (fun _ _ _ h => h) (Or.inl ⟨by rfl, ?_⟩) ?_ ?_
                      rotate_left
                      · intro w'
                        go_simp
                        with_reducible rfl
                      rotate_left
                      · simp only [Act.put, List.setIfInBounds_toArray, List.set_cons_zero, List.set_cons_succ]
                        rfl
                      refine pure_ (i := 11) (N := some 103) (v := ?_) (a' := ?_) #[true, true, true, true, true, true, true, true, true, true, true, true, false, false, false, false, false, false, false, false] rfl rfl (by kernel_rfl) (fun _ _ _ h => h) (Or.inl ⟨by rfl, ?_⟩) ?_ ?_
                      rotate_left
                      · intro w'
                        go_simp
                        with_reducible rfl
                      rotate_left
                      · simp only [Act.put, List.setIfInBounds_toArray, List.set_cons_zero, List.set_cons_succ]
                        rfl
                      try rw [hg]
                      refine pure_ (i := 12) (N := some 104) (v := ?_) (a' := ?_) #[true, true, true, true, true, true, true, true, true, true, true, true, true, false, false, false, false, false, false, false] rfl rfl (by kernel_rfl) (fun _ _ _ h => h) (Or.inl ⟨by rfl, ?_⟩) ?_ ?_
                      rotate_left
                      · intro w'
                        go_simp
                        with_reducible rfl
                      rotate_left
                      · simp only [Act.put, List.setIfInBounds_toArray, List.set_cons_zero, List.set_cons_succ]
                        rfl
                      refine pure_ (i := 13) (N := some 105) (v := ?_) (a' := ?_) #[true, true, true, true, true, true, true, true, true, true, true, true, true, true, false, false, false, false, false, false] rfl rfl (by kernel_rfl) (fun _ _ _ h => h) (Or.inr ⟨by rfl, ?_⟩) ?_ ?_
                      rotate_left
                      · rfl
                      rotate_left
                      · simp only [Act.put, List.setIfInBounds_toArray, List.set_cons_zero, List.set_cons_succ]
                        rfl
                      refine pure_ (i := 14) (N := some 106) (v := ?_) (a' := ?_) #[true, true, true, true, true, true, true, true, true, true, true, true, true, true, true, false, false, false, false, false] rfl rfl (by kernel_rfl) (fun _ _ _ h => h) (Or.inr ⟨by rfl, ?_⟩) ?_ ?_
                      rotate_left
                      · rfl
                      rotate_left
                      · simp only [Act.put, List.setIfInBounds_toArray, List.set_cons_zero, List.set_cons_succ]
                        rfl
                      refine pure_ (i := 15) (N := some 107) (v := ?_) (a' := ?_) #[true, true, true, true, true, true, true, true, true, true, true, true, true, true, true, true, false, false, false, false] rfl rfl (by kernel_rfl) (fun _ _ _ h => h) (Or.inr ⟨by rfl, ?_⟩) ?_ ?_
                      rotate_left
                      · rfl
                      rotate_left
                      · simp only [Act.put, List.setIfInBounds_toArray, List.set_cons_zero, List.set_cons_succ]
                        rfl
                      refine pure_ (i := 16) (N := some 108) (v := ?_) (a' := ?_) #[true, true, true, true, true, true, true, true, true, true, true, true, true, true, true, true, true, false, false, false] rfl rfl (by kernel_rfl) (fun _ _ _ h => h) (Or.inr ⟨by rfl, ?_⟩) ?_ ?_
                      rotate_left
                      · rfl
                      rotate_left
                      · simp only [Act.put, List.setIfInBounds_toArray, List.set_cons_zero, List.set_cons_succ]
                        rfl
                      refine pure_ (i := 17) (N := some 109) (v := ?_) (a' := ?_) #[true, true, true, true, true, true, true, true, true, true, true, true, true, true, true, true, true, true, false, false] rfl rfl (by kernel_rfl) (fun _ _ _ h => h) (Or.inr ⟨by rfl, ?_⟩) ?_ ?_
                      rotate_left
                      · rfl
                      rotate_left
                      · simp only [Act.put, List.setIfInBounds_toArray, List.set_cons_zero, List.set_cons_succ]
                        rfl
                      refine pure_ (i := 18) (N := some 110) (v := ?_) (a' := ?_) #[true, true, true, true, true, true, true, true, true, true, true, true, true, true, true, true, true, true, true, false] rfl rfl (by kernel_rfl) (fun _ _ _ h => h) (Or.inl ⟨by rfl, ?_⟩) ?_ ?_
                      rotate_left
                      · intro w'
                        go_simp
                        with_reducible rfl
                      rotate_left
                      · simp only [Act.put, List.setIfInBounds_toArray, List.set_cons_zero, List.set_cons_succ]
                        rfl
                      refine pure_ (i := 19) (N := some 6) (v := ?_) (a' := ?_) #[true, true, true, true, true, true, true, true, true, true, true, true, true, true, true, true, true, true, true, true] rfl rfl (by kernel_rfl) (fun _ _ _ h => h) (Or.inl ⟨by rfl, ?_⟩) ?_ ?_
                      rotate_left
                      · intro w'
                        go_simp
                        with_reducible rfl
                      rotate_left
                      · simp only [Act.put, List.setIfInBounds_toArray, List.set_cons_zero, List.set_cons_succ]
                        rfl
                      refine done_ (by kernel_rfl) ?_
                      have HL1 := HB4
                      go_wp2_with fail
                      go_ret
                      exact ⟨false, mk1 S i pc, C, o, rfl, HFR2.out.below HL1.out, HV2.out.grow HL1.out, by rw [HH2.out]; exact .inl ⟨rfl, rfl, rfl, fun _ => rfl, fun _ => ⟨rfl, rfl⟩⟩⟩
                    | true =>
                      have HH2 := Lib.hid (show visH L s (k + 1) (m + 1) pc i S C = visH L s (k + 1) m o1 i (mk1 S i pc) C by rw [HH.out, hg]; rfl)
                      have HC := Lib.hid (fun w' hv => HIM.out o1 i (mk1 S i pc) C o w' hol hi HN.out.2.2.2.2.2.1 HL.out.1 HL.out.2 HN.out.2.2.1 HN.out.2.2.2.1 HN.out.2.2.2.2.1 hv)
                      go_upto_region 17 with (fail)
                      refine start_ (n := 20) (S := fun w' => Below w2.heap.size w2 w') (ds := [17]) #[false, false, false, false, false, false, false, false, false, false, false, false, false, false, false, false, false, false, false, false] (by kernel_rfl) rfl rfl (below_drew (Below.refl _ _)) (fun hHeld => ?_)
                      generalize w2.drew = wd at *
                      refine pure_ (i := 0) (N := some 92) (v := ?_) (a' := ?_) #[true, false, false, false, false, false, false, false, false, false, false, false, false, false, false, false, false, false, false, false] rfl rfl (by kernel_rfl) (fun _ _ _ h => h) (Or.inl ⟨by rfl, ?_⟩) ?_ ?_
                      rotate_left
                      · intro w'
                        go_simp
                        with_reducible rfl
                      rotate_left
                      · simp only [Act.put, List.setIfInBounds_toArray, List.set_cons_zero, List.set_cons_succ]
                        rfl
                      refine pure_ (i := 1) (N := some 93) (v := ?_) (a' := ?_) #[true, true, false, false, false, false, false, false, false, false, false, false, false, false, false, false, false, false, false, false] rfl rfl (by kernel_rfl) (fun _ _ _ h => h) (Or.inl ⟨by rfl, ?_⟩) ?_ ?_
                      rotate_left
                      · intro w'
                        go_simp
                        with_reducible rfl
                      rotate_left
                      · simp only [Act.put, List.setIfInBounds_toArray, List.set_cons_zero, List.set_cons_succ]
                        rfl
                      refine pure_ (i := 2) (N := some 94) (v := ?_) (a' := ?_) #[true, true, true, false, false, false, false, false, false, false, false, false, false, false, false, false, false, false, false, false] rfl rfl (by kernel_rfl) (fun _ _ _ h => h) (Or.inl ⟨by rfl, ?_⟩) ?_ ?_
                      rotate_left
                      · intro w'
                        go_simp
                        with_reducible rfl
                      rotate_left
                      · simp only [Act.put, List.setIfInBounds_toArray, List.set_cons_zero, List.set_cons_succ]
                        rfl
                      refine take_ (i := 3) (N := some 95) (v := ?_) (a' := ?_) #[true, true, true, true, false, false, false, false, false, false, false, false, false, false, false, false, false, false, false, false] rfl rfl (by kernel_rfl) (fun _ _ _ h => h) (Or.inl ⟨by rfl, ?_⟩) hHeld ?_ ?_
                      rotate_left
                      · intro w' hs'
                        have hv := (HKP.out w' hs').1
                        go_simp
                        with_reducible rfl
                      rotate_left
                      · simp only [Act.put, List.setIfInBounds_toArray, List.set_cons_zero, List.set_cons_succ]
                        rfl
                      refine pure_ (i := 4) (N := some 96) (v := ?_) (a' := ?_) #[true, true, true, true, true, false, false, false, false, false, false, false, false, false, false, false, false, false, false, false] rfl rfl (by kernel_rfl) (fun _ _ _ h => h) (Or.inl ⟨by rfl, ?_⟩) ?_ ?_
                      rotate_left
                      · intro w'
                        go_simp
                        with_reducible rfl
                      rotate_left
                      · simp only [Act.put, List.setIfInBounds_toArray, List.set_cons_zero, List.set_cons_succ]
                        rfl
                      refine pure_ (i := 6) (N := some 98) (v := ?_) (a' := ?_) #[true, true, true, true, true, false, true, false, false, false, false, false, false, false, false, false, false, false, false, false] rfl rfl (by kernel_rfl) (fun _ _ _ h => h) (Or.inl ⟨by rfl, ?_⟩) ?_ ?_
                      rotate_left
                      · intro w'
                        go_simp
                        with_reducible rfl
                      rotate_left
                      · simp only [Act.put, List.setIfInBounds_toArray, List.set_cons_zero, List.set_cons_succ]
                        rfl
                      refine take_ (i := 7) (N := some 99) (v := ?_) (a' := ?_) #[true, true, true, true, true, false, true, true, false, false, false, false, false, false, false, false, false, false, false, false] rfl rfl (by kernel_rfl) (fun _ _ _ h => h) (Or.inl ⟨by rfl, ?_⟩) hHeld ?_ ?_
                      rotate_left
                      · intro w' hs'
                        have hv := (HKP.out w' hs').2.1
                        go_simp
                        with_reducible rfl
                      rotate_left
                      · simp only [Act.put, List.setIfInBounds_toArray, List.set_cons_zero, List.set_cons_succ]
                        rfl
                      refine pure_ (i := 9) (N := some 101) (v := ?_) (a' := ?_) #[true, true, true, true, true, false, true, true, false, true, false, false, false, false, false, false, false, false, false, false] rfl rfl (by kernel_rfl) (fun _ _ _ h => h) (Or.inl ⟨by rfl, ?_⟩) ?_ ?_
                      rotate_left
                      · intro w'
                        go_simp
                        with_reducible rfl
                      rotate_left
                      · simp only [Act.put, List.setIfInBounds_toArray, List.set_cons_zero, List.set_cons_succ]
                        rfl
                      refine take_ (i := 10) (N := some 102) (v := ?_) (a' := ?_) #[true, true, true, true, true, false, true, true, false, true, true, false, false, false, false, false, false, false, false, false] rfl rfl (by kernel_rfl) (fun _ _ _ h => h) (Or.inl ⟨by rfl, ?_⟩) hHeld ?_ ?_
                      rotate_left
                      · intro w' hs'
                        have hv := (HKP.out w' hs').2.1
                        go_simp
                        with_reducible rfl
                      rotate_left
                      · simp only [Act.put, List.setIfInBounds_toArray, List.set_cons_zero, List.set_cons_succ]
                        rfl
                      refine one_ (i := 5) (N := some 97) #[true, true, true, true, true, true, true, true, false, true, true, false, false, false, false, false, false, false, false, false] rfl rfl (by kernel_rfl) (by simp) (fun K hK => ?_)
                      refine goes_ Tryd.func29 (by kernel_rfl) rfl #[.string s, .int .i64 (i : Int)] (by rfl) rfl rfl (by first | rfl | (simp only [List.map_toArray, List.map_cons, List.map_nil]; rfl) | (simp; rfl)) ?_
                      refine (HCA.out _ hHeld).mono ?_
                      rintro e w4 ⟨rfl, hb4⟩
                      refine ⟨_, rfl, ?_⟩
                      have HB4 := Lib.hid (below_step hHeld hb4)
                      refine hK.out _ _ HB4.out (fun hHeld2 => ?_)
                      clear hK K hHeld hb4
                      have hHeld := hHeld2
                      refine norm_ (a' := ?_) ?_ ?_
                      rotate_left
                      · show Act.put _ (some 97) _ = _
                        simp only [Act.put, List.setIfInBounds_toArray, List.set_cons_zero, List.set_cons_succ]
                        rfl
                      refine pure_ (i := 8) (N := some 100) (v := ?_) (a' := ?_) #[true, true, true, true, true, true, true, true, true, true, true, false, false, false, false, false, false, false, false, false] rfl rfl (by kernel_rfl) (fun _ _ _ h => h) (Or.inl ⟨by rfl, ?_⟩) ?_ ?_
                      rotate_left
                      · intro w'
                        go_simp
                        with_reducible rfl
                      rotate_left
                      · simp only [Act.put, List.setIfInBounds_toArray, List.set_cons_zero, List.set_cons_succ]
                        rfl
                      refine pure_ (i := 11) (N := some 103) (v := ?_) (a' := ?_) #[true, true, true, true, true, true, true, true, true, true, true, true, false, false, false, false, false, false, false, false] rfl rfl (by kernel_rfl) (fun _ _ _ h => h) (Or.inl ⟨by rfl, ?_⟩) ?_ ?_
                      rotate_left
                      · intro w'
                        go_simp
                        with_reducible rfl
                      rotate_left
                      · simp only [Act.put, List.setIfInBounds_toArray, List.set_cons_zero, List.set_cons_succ]
                        rfl
                      try rw [hg]
                      refine pure_ (i := 12) (N := some 104) (v := ?_) (a' := ?_) #[true, true, true, true, true, true, true, true, true, true, true, true, true, false, false, false, false, false, false, false] rfl rfl (by kernel_rfl) (fun _ _ _ h => h) (Or.inl ⟨by rfl, ?_⟩) ?_ ?_
                      rotate_left
                      · intro w'
                        go_simp
                        with_reducible rfl
                      rotate_left
                      · simp only [Act.put, List.setIfInBounds_toArray, List.set_cons_zero, List.set_cons_succ]
                        rfl
                      refine pure_ (i := 13) (N := some 105) (v := ?_) (a' := ?_) #[true, true, true, true, true, true, true, true, true, true, true, true, true, true, false, false, false, false, false, false] rfl rfl (by kernel_rfl) (fun _ _ _ h => h) (Or.inl ⟨by rfl, ?_⟩) ?_ ?_
                      rotate_left
                      · intro w'
                        go_simp
                        with_reducible rfl
                      rotate_left
                      · simp only [Act.put, List.setIfInBounds_toArray, List.set_cons_zero, List.set_cons_succ]
                        rfl
                      refine pure_ (i := 14) (N := some 106) (v := ?_) (a' := ?_) #[true, true, true, true, true, true, true, true, true, true, true, true, true, true, true, false, false, false, false, false] rfl rfl (by kernel_rfl) (fun _ _ _ h => h) (Or.inl ⟨by rfl, ?_⟩) ?_ ?_
                      rotate_left
                      · intro w'
                        go_simp
                        with_reducible rfl
                      rotate_left
                      · simp only [Act.put, List.setIfInBounds_toArray, List.set_cons_zero, List.set_cons_succ]
                        rfl
                      refine take_ (i := 15) (N := some 107) (v := ?_) (a' := ?_) #[true, true, true, true, true, true, true, true, true, true, true, true, true, true, true, true, false, false, false, false] rfl rfl (by kernel_rfl) (fun _ _ _ h => h) (Or.inl ⟨by rfl, ?_⟩) hHeld ?_ ?_
                      rotate_left
                      · intro w' hs'
                        have hv := (HKP.out w' hs').2.2
                        go_simp
                        with_reducible rfl
                      rotate_left
                      · simp only [Act.put, List.setIfInBounds_toArray, List.set_cons_zero, List.set_cons_succ]
                        rfl
                      refine pure_ (i := 16) (N := some 108) (v := ?_) (a' := ?_) #[true, true, true, true, true, true, true, true, true, true, true, true, true, true, true, true, true, false, false, false] rfl rfl (by kernel_rfl) (fun _ _ _ h => h) (Or.inl ⟨by rfl, ?_⟩) ?_ ?_
                      rotate_left
                      · intro w'
                        go_simp
                        with_reducible rfl
                      rotate_left
                      · simp only [Act.put, List.setIfInBounds_toArray, List.set_cons_zero, List.set_cons_succ]
                        rfl
                      refine last9_ (i := 17) (N := some 109) #[true, true, true, true, true, true, true, true, true, true, true, true, true, true, true, true, true, true, false, false] rfl rfl (by kernel_rfl) (by simp) (fun K hK => ?_)
                      refine goes_ Tryd.func16 (by kernel_rfl) rfl #[.pointer (some ⟨g, 0, none⟩), .int .i64 (o1 : Int), .int .i64 (i : Int)] (by rfl) rfl rfl (by first | rfl | (simp only [List.map_toArray, List.map_cons, List.map_nil]; rfl) | (simp; rfl)) ?_
                      refine (HC.out w4 (HV2.out.grow HB4.out)).mono ?_
                      rintro e w5 ⟨b, S', C', o', rfl, hfr, hv, hvr⟩
                      have HR1 := Lib.hid (And.intro hfr (And.intro hv hvr))
                      clear hfr hv hvr
                      refine ⟨_, rfl, ?_⟩
                      refine hK.out _ _ ?_
                      refine norm_ (a' := ?_) ?_ ?_
                      rotate_left
                      · show Act.put _ (some 109) _ = _
                        simp only [Act.put, List.setIfInBounds_toArray, List.set_cons_zero, List.set_cons_succ]
                        rfl
                      refine pure_ (i := 18) (N := some 110) (v := ?_) (a' := ?_) #[true, true, true, true, true, true, true, true, true, true, true, true, true, true, true, true, true, true, true, false] rfl rfl (by kernel_rfl) (fun _ _ _ h => h) (Or.inl ⟨by rfl, ?_⟩) ?_ ?_
                      rotate_left
                      · intro w'
                        go_simp
                        with_reducible rfl
                      rotate_left
                      · simp only [Act.put, List.setIfInBounds_toArray, List.set_cons_zero, List.set_cons_succ]
                        rfl
                      refine pure_ (i := 19) (N := some 6) (v := ?_) (a' := ?_) #[true, true, true, true, true, true, true, true, true, true, true, true, true, true, true, true, true, true, true, true] rfl rfl (by kernel_rfl) (fun _ _ _ h => h) (Or.inl ⟨by rfl, ?_⟩) ?_ ?_
                      rotate_left
                      · intro w'
                        go_simp
                        with_reducible rfl
                      rotate_left
                      · simp only [Act.put, List.setIfInBounds_toArray, List.set_cons_zero, List.set_cons_succ]
                        rfl
                      refine done_ (by kernel_rfl) ?_
                      go_wp2_with fail
                      go_ret
                      exact ⟨b, S', C', o', rfl, (HFR2.out.below HB4.out).trans HR1.out.1 (fun _ _ h => h), HR1.out.2.1, by rw [HH2.out]; exact HR1.out.2.2⟩
                  ·
                    have h7 : 7 ≤ (ins L pc).f0 := by omega
                    have e0' : ((ins L pc).f0 == 0) = false := by rw [beq_eq_false_iff_ne]; exact h0
                    have e2' : ((ins L pc).f0 == 2) = false := by rw [beq_eq_false_iff_ne]; exact h2
                    have e3' : ((ins L pc).f0 == 3) = false := by rw [beq_eq_false_iff_ne]; exact h3
                    have e4' : ((ins L pc).f0 == 4) = false := by rw [beq_eq_false_iff_ne]; exact h4
                    have e5' : ((ins L pc).f0 == 5) = false := by rw [beq_eq_false_iff_ne]; exact h5
                    have e6' : ((ins L pc).f0 == 6) = false := by rw [beq_eq_false_iff_ne]; exact h6
                    obtain ⟨bv2, -, e3, -, -, -, -, -⟩ := HV2.out.cells
                    have HB2 := Lib.hid HV2.out.bl
                    have HCN := Lib.hid (next_calls s i w2 hi (by omega) (Utf8Tabs_below HT.out HB2.out))
                    go_upto_region 27 with (fail)
                    go_wp2_with fail
                    refine HCN.out.mono ?_
                    rintro e w3 ⟨rfl, hb3⟩
                    have HV3 := Lib.hid (HV2.out.grow hb3)
                    have HFR3 := Lib.hid (HFR2.out.below hb3)
                    have HNW3 := Lib.hid (blk_below HNW.out hb3)
                    clear hb3 HCN z0 z1 z2 z3 e3 HV2 HFR2 HNW HB2
                    by_cases hd : (dec s i).2 = 0
                    · have hg : goB L s i pc = false := by unfold goB; rw [decide_eq_false (by omega)]; rfl
                      have HH := Lib.hid (show visH L s (k + 1) (m + 1) pc i S C = ([], mk1 S i pc) from visH_no hnot h7 hg)
                      rw [hd]
                      go_wp2_with fail
                      go_ret
                      exact ⟨false, mk1 S i pc, C, o, rfl, HFR3.out, HV3.out, by rw [HH.out]; exact .inl ⟨rfl, rfl, rfl, fun _ => rfl, fun _ => ⟨rfl, rfl⟩⟩⟩
                    · have his : i < s.size := by
                        unfold dec at hd
                        by_cases q : s.size ≤ i
                        · rw [if_pos q] at hd; exact absurd rfl hd
                        · omega
                      have hdd : decide (0 < (dec s i).2) = true := decide_eq_true (by omega)
                      have hdd2 : decide (((dec s i).2 : Int) > 0) = true := decide_eq_true (by omega)
                      have hwt : waitsB (ins L pc) = true := by
                        unfold waitsB
                        rw [decide_eq_false (by omega), decide_eq_false (by omega), decide_eq_false (by omega), decide_eq_false (by omega), decide_eq_false (by omega)]
                        rfl
                      have htk := HPS.out.tak pc hpc hwt h4
                      have hrl : (ins L pc).f3.length ≤ 4611686018427387000 := by
                        have : ins L pc ∈ L := by rw [ins_lt L pc hpc]; exact List.getElem_mem hpc
                        exact HR.out _ this
                      have HCT := Lib.hid (takes_calls (ins L pc) htk hrl w3 A3 c3 (Kd.C_below HG3.out.2 HV3.out.bl) HG3.out.1 (HF.out.below HV3.out.bl) (dec s i).1)
                      rw [ho1] at HCT
                      clear htk
                      obtain ⟨z0, z1, z2, z3⟩ := blk4 HNW3.out
                      rw [ho1] at z1
                      have hadd : (i : Int) + ((dec s i).2 : Int) = ((nxt s i : Nat) : Int) := by unfold nxt; omega
                      have hnx : nxt s i ≤ s.size := dec_le s i hi
                      have hbn : Bd s (nxt s i) := by
                        have hd0 : (dec s i).2 = (Utf8.decode s i).2 := by unfold dec; rw [if_neg (by omega)]
                        have := Bd.next HN.out.2.2.2.2.2.1 his
                        unfold nxt; rw [hd0]; exact this
                      have HHG := Lib.hid (show goB L s i pc = takesB (ins L pc) (dec s i).1 by unfold goB; rw [decide_eq_true hd, Bool.true_and])
                      generalize hc : (dec s i).1 = cr at *
                      generalize hcd : (dec s i).2 = cd at *
                      generalize hnxt : nxt s i = nx at *
                      go_upto_region 28 with (fail)
                      go_wp2_with fail
                      refine HCT.out.mono ?_
                      rintro e w4 ⟨rfl, hb4⟩
                      have HV4 := Lib.hid (HV3.out.grow hb4)
                      have HFR4 := Lib.hid (HFR3.out.below hb4)
                      have HNW4 := Lib.hid (blk_below HNW3.out hb4)
                      clear hb4 HCT z0 z1 z2 z3 HV3 HFR3 HNW3
                      obtain ⟨z0, z1, z2, z3⟩ := blk4 HNW4.out
                      rw [ho1] at z1
                      cases htb : takesB (ins L pc) cr with
                      | false =>
                        have HH := Lib.hid (show visH L s (k + 1) (m + 1) pc i S C = ([], mk1 S i pc) from visH_no hnot h7 (HHG.out.trans htb))
                        go_wp2_with fail
                        go_ret
                        exact ⟨false, mk1 S i pc, C, o, rfl, HFR4.out, HV4.out, by rw [HH.out]; exact .inl ⟨rfl, rfl, rfl, fun _ => rfl, fun _ => ⟨rfl, rfl⟩⟩⟩
                      | true =>
                        have HH := Lib.hid (show visH L s (k + 1) (m + 1) pc i S C = visH L s k (L.length + 1) o1 nx (mk1 S i pc) C by rw [visH_go hnot h7 (HHG.out.trans htb) HN.out.2.2.2.2.2.1 his, ho1, Int.toNat_natCast, hnxt])
                        have hnlt : i < nx := by rw [← hnxt]; exact nxt_lt (HHG.out.trans htb)
                        have hkk : s.size < nx + k := by have := HN.out.2.2.1; omega
                        have HC := Lib.hid (HIK.out (L.length + 1) o1 nx (mk1 S i pc) C o w4 hol hnx hbn HL.out.1 (Nat.lt_succ_of_le (Nat.sub_le _ _)) hkk HN.out.2.2.2.1 HN.out.2.2.2.2.1 HV4.out)
                        go_wp2_with fail
                        refine HC.out.mono ?_
                        rintro e w5 ⟨b, S', C', o', rfl, hfr, hv, hvr⟩
                        have HR1 := Lib.hid (And.intro hfr (And.intro hv hvr))
                        clear hfr hv hvr
                        go_wp2_with fail
                        go_ret
                        exact ⟨b, S', C', o', rfl, HFR4.out.trans HR1.out.1 (fun _ _ h => h), HR1.out.2.1, by rw [HH.out]; exact HR1.out.2.2⟩
end Go.Proofs.YtmccgfjhmbioeaaDoor.PgFnPgThreads
