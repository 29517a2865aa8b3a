import Derived.Test.YtmccgfjhmbioeaaDoorMxFnPgThreads
namespace Go.Proofs.YtmccgfjhmbioeaaDoor.PgFnPgThreads
open Go.RowKit Go.Proofs.YtmccgfjhmbioeaaDoor.EvN Go.Proofs.YtmccgfjhmbioeaaDoor.Row Go.Proofs.YtmccgfjhmbioeaaDoor.Sf Go.Proofs.YtmccgfjhmbioeaaDoor.PFnPgThreads Go.Proofs.YtmccgfjhmbioeaaDoorW.PrintWords Go.Proofs.YtmccgfjhmbioeaaDoorW.PrintLast Go.Proofs.YtmccgfjhmbioeaaDoorW.PrintMore
set_option linter.unusedSimpArgs false
set_option linter.unusedVariables false
set_option maxRecDepth 100000 in
theorem method_step (a : Addr) (w : World) : (method 293 134 (.pointer (some a)) "pub-searce/pub/regexp.step").run Tryd.prog w = .ok (105, .pointer (some a)) w := by kernel_rfl
set_option maxRecDepth 100000 in
theorem method_context (a : Addr) (w : World) : (method 293 134 (.pointer (some a)) "pub-searce/pub/regexp.context").run Tryd.prog w = .ok (102, .pointer (some a)) w := by kernel_rfl
theorem lazyF_some (a b : Int) : ∃ F, regexp_newLazyFlag.f a b = some F := ⟨_, rfl⟩
theorem and4 (cv : Int) (h : 0 ≤ cv ∧ cv < 64) : (bits .and .u8 cv 4 = 0) ↔ ¬ (decide (cv.toNat &&& 4 ≠ 0)) = true := by
  obtain ⟨v, rfl⟩ : ∃ v : Nat, cv = v := ⟨cv.toNat, by omega⟩
  have h2 : ∀ v : Fin 64, (bits .and .u8 ((v.1 : Nat) : Int) 4 = 0) ↔ ¬ (decide (((v.1 : Nat) : Int).toNat &&& 4 ≠ 0)) = true := by decide
  exact h2 ⟨v, by omega⟩
def mF (L : List I) (st cv : Int) (long : Bool) (s : ByteArray) (i0 n : Nat) : Bool × List Int :=
  if cv = 255 then (false, []) else mLoop L st.toNat long (decide (cv.toNat &&& 4 ≠ 0)) s (s.size + 2) (lastR s i0) i0 [] false (List.replicate n (-1))
set_option maxRecDepth 100000 in
set_option maxHeartbeats 8000000 in
theorem match_calls {L : List I} {st ncp most : Int} (h : PSound L st ncp most) (hm : L.length ≤ 2000) (W0 : World) (p : Nat) (ad : Addr) (hP : Prg W0 L p ad) (hst : W0.cell? ⟨p, 1, none⟩ = some (.int .i64 st)) (hF : Folds W0) (hT : Tabs W0) (s : ByteArray) (i0 : Nat) (hi : i0 ≤ s.size) (hsz : s.size ≤ 1000000) (hwk : L.length * (s.size + 1) ≤ 1048576)
    (rb : Nat) (cv : Int) (long : Bool) (hre : ReX W0 rb cv long) (hcv : 0 ≤ cv ∧ cv < 64 ∨ cv = 255) (mb sp de sp1 de1 mcb z n cc : Nat) (hn0 : n = 0 ∨ 2 ≤ n) (hncc : n ≤ cc) (hcc : cc ≤ 100000) (hNz : L.length ≤ z) (hz : z ≤ 1000000) (mc : Nat → Value) (w : World) (hN : New0 W0 w rb mb sp de sp1 de1 mcb p z cc mc (.slice (some ⟨mcb, 0, none⟩) n cc)) (hx : mc 10 = .string s) :
    Calls Tryd.prog 27 #[.pointer (some ⟨mb, 0, none⟩), .iface 134 (.pointer (some ⟨mb, 10, none⟩)), .int .i64 (i0 : Int)] w fun e w' => e = .returned (.bool (mF L st cv long s i0 n).1) ∧ Below W0.heap.size W0 w' ∧ ∃ (mr : Nat → Value), w'.heap[mb]? = some (mach mr) ∧
      mr 8 = .slice (some ⟨mcb, 0, none⟩) n cc ∧ ((mF L st cv long s i0 n).1 = true → CapAt w' n cc mcb (mF L st cv long s i0 n).2) ∧ mr 9 = mc 9 ∧ mr 11 = mc 11 := by
  obtain ⟨t, rfl⟩ : ∃ t : Nat, st = (t : Int) := ⟨st.toNat, by have := h.st0; omega⟩
  have ht1 : t < L.length := by have := h.st1; omega
  obtain ⟨Fin, hFin⟩ : ∃ Fin, Fin = mF L (t : Int) cv long s i0 n := ⟨_, rfl⟩
  rw [← hFin]
  obtain ⟨hr1, hr2, hr3⟩ := hre
  have hbw := hN.bl
  have kc : ∀ {a : Addr} {v : Value}, W0.cell? a = some v → w.cell? a = some v := fun hc => (hbw.cell (World.block_lt_of_cell? W0 _ hc)).trans hc
  have hz0 : w.cell? ⟨mb, 0, none⟩ = some (.pointer (some ⟨rb, 0, none⟩)) := (mach_cell hN.ma 0 (by omega)).trans (congrArg some hN.m0)
  have hz8 : w.cell? ⟨mb, 8, none⟩ = some (.slice (some ⟨mcb, 0, none⟩) n cc) := (mach_cell hN.ma 8 (by omega)).trans (congrArg some hN.m8)
  have hzc := kc hr2
  have hf7 := blk_frozen hN.ma 7
  have hz7 := mach_cell hN.ma 7 (by omega)
  have HS := Lib.hid h
  have HP := Lib.hid hP
  have HST := Lib.hid hst
  have HF := Lib.hid hF
  have HT := Lib.hid hT
  have HR := Lib.hid (show ReX W0 rb cv long from ⟨hr1, hr2, hr3⟩)
  have HN := Lib.hid hN
  have HX := Lib.hid hx
  have HWK := Lib.hid hwk
  have HN0 := Lib.hid hn0
  clear h hP hst hF hT hr1 hr2 hr3 hN hx hwk hn0 hbw kc
  by_cases h255 : cv = 255
  ·
    as_aux_lemma =>
      subst h255
      go_enter Tryd.func27, Tryd.ntmps27
      go_wp2_with fail
      have hfe : Fin = (false, []) := hFin.trans (if_pos rfl)
      clear hFin
      subst hfe
      exact bodyPost_ret (v := .bool false) (by simp [results, Tryd.results27, go_sem]) rfl ⟨rfl, HN.out.bl, mc, HN.out.ma, HN.out.m8, (fun e => by cases e), rfl, rfl⟩
  · have hc255 : (cv == 255) = false := by rw [beq_eq_false_iff_ne]; exact h255
    have HCV : Hid (0 ≤ cv ∧ cv < 64) := Lib.hid (by omega)
    unfold mF at hFin
    rw [Int.toNat_natCast] at hFin
    rw [if_neg h255] at hFin
    have HFIN := Lib.hid hFin.symm
    clear hFin hcv h255
    have hmst := method_step
    have hmcx := method_context
    go_enter Tryd.func27, Tryd.ntmps27
    go_wp2_with fail
    have hN1 : New0 W0 (w.setCell ⟨mb, 7, none⟩ (.bool false)) rb mb sp de sp1 de1 mcb p z cc (up mc 7 (.bool false)) (.slice (some ⟨mcb, 0, none⟩) n cc) := by
      have hN := HN.out
      have k : ∀ {g : Nat} {cs : Array Value} {t : TypeId}, w.heap[g]? = some (.cells cs t (0, 0)) → t ≠ 81 → (w.setCell ⟨mb, 7, none⟩ (.bool false)).heap[g]? = some (.cells cs t (0, 0)) := fun hg ht => (Below.heap_setCell _ _ _ _ (blk_ne hg hN.ma ht)).trans hg
      exact ⟨mach_set hN.ma 7 (by omega) _, hN.m0, hN.m1, hN.m6, hN.m8, hN.q2, hN.q3, hN.q4, hN.q5, k hN.sa (by decide), k hN.da (by decide), k hN.sb (by decide), k hN.db (by decide), k hN.cb (by decide), hN.lo, hN.ne, below_set hN.bl hN.lo.1⟩
    have HN1 := Lib.hid hN1
    clear hN1
    have HMA := Lib.hid HN1.out.ma
    have HCP := Lib.hid (HN1.out.cap hncc)
    generalize w.setCell ⟨mb, 7, none⟩ (.bool false) = w1 at *
    clear hz0 hz8 hzc hf7 hz7
    have h8 : up mc 7 (.bool false) 8 = .slice (some ⟨mcb, 0, none⟩) n cc := HN1.out.m8
    go_loopg [34, 8] n (fun gk s34 s8 wr => ∃ (j : Nat) (C : List Int), s34 = .int .i64 j ∧ gk + j = n ∧ Hid (CapAt wr n cc mcb C ∧ Fr (fun b => b = mcb) w1 wr ∧ ∀ i, i < j → C[i]? = some (-1)))
    case atStart => exact ⟨0, List.replicate n 0, rfl, by omega, Lib.hid ⟨HCP.out, Fr.refl _ _, fun i hi => by omega⟩⟩
    case round =>
      obtain ⟨j, C, rfl, hgk, HI⟩ := hrel
      have hne : mb ≠ mcb := by obtain ⟨r, k, _⟩ := HI.out.1; obtain ⟨r2, k2, _⟩ := HCP.out; exact Ne.symm (blk_ne k2 HMA.out (by decide))
      have HMW := Lib.hid ((HI.out.2.1.block mb (blk_lt HMA.out) hne).trans HMA.out)
      have hz8 := (mach_cell HMW.out 8 (by omega)).trans (congrArg some h8)
      by_cases hlt : j < n
      · have hd1 : decide (j < n) = true := decide_eq_true hlt
        as_aux_lemma =>
          have hCl : C.length = n := by obtain ⟨_, _, k, _⟩ := HI.out.1; exact k
          have hzm := HI.out.1.cell (k := j) (by omega)
          have hfm : wr.frozen? ⟨mcb, j, none⟩ = false := by obtain ⟨_, k, _⟩ := HI.out.1; exact blk_frozen k j
          go_wp2_with fail
          go_roundg (gk - 1)
          case measure => omega
          case rel => exact ⟨j + 1, C.set j (-1), by go_num, by omega, Lib.hid ⟨HI.out.1.set hlt (-1), HI.out.2.1.set _ (show mcb = mcb from rfl), fun i hi => by
            rw [List.getElem?_set]
            by_cases e : j = i
            · rw [if_pos e, if_pos (by omega)]
            · rw [if_neg e]; exact HI.out.2.2 i (by omega)⟩⟩
      · have hd1 : decide (j < n) = false := decide_eq_false hlt
        go_wp2_with fail
        go_quiet (fail)
        obtain rfl : C = List.replicate n (-1) := by
          have hCl : C.length = n := by obtain ⟨_, _, k, _⟩ := HI.out.1; exact k
          refine List.ext_getElem? fun i => ?_
          by_cases e : i < n
          · rw [HI.out.2.2 i (by omega), List.getElem?_replicate, if_pos e]
          · rw [List.getElem?_eq_none (by omega), List.getElem?_replicate, if_neg e]
        have HC2 : Hid (CapAt (wr.drewN nq) n cc mcb (List.replicate n (-1))) := Lib.hid (HI.out.1.keep rfl)
        have HFR := Lib.hid (HI.out.2.1.drewN nq)
        have HM2 : Hid ((wr.drewN nq).heap[mb]? = some (mach (up mc 7 (.bool false)))) := Lib.hid HMW.out
        clear HI HMW hz8 HCP
        generalize wr.drewN nq = w2 at *
        have hz0 := (mach_cell HM2.out 0 (by omega)).trans (congrArg some HN1.out.m0)
        have hzx := (mach_cell HM2.out 10 (by omega)).trans (congrArg some ((up_ne _ _ (by decide)).trans HX.out))
        have HTW : Hid (∀ w', Below W0.heap.size W0 w' → Tabs w') := Lib.hid fun w' hb => Utf8Tabs_below HT.out hb
        have HB2 := Lib.hid (HN1.out.bl.trans (HFR.out.to_below HN1.out.bl.size (fun i e => by rw [e]; exact HN1.out.lo.2.2.2.1)))
        have HS1 := Lib.hid (istep_calls s i0 w2 mb hi (by omega) (HTW.out _ HB2.out) hzx)
        go_wp2_with fail
        refine HS1.out.mono ?_
        rintro e w3 ⟨rfl, hb3⟩
        clear HS1
        have hdw : (dec s i0).1 = -1 ↔ (dec s i0).2 = 0 := dec_z s i0
        have hdr : i0 + (dec s i0).2 ≤ s.size := dec_le s i0 hi
        generalize hd0 : dec s i0 = d0 at *
        obtain ⟨c0, w0⟩ := d0
        simp only at hdw hdr
        go_upto_if 57 with (fail)
        go_cut [12, 14] (fun v12 v14 wc' => (v12 = .int .i32 (dec s (i0 + w0)).1 ∧ v14 = .int .i64 ((dec s (i0 + w0)).2 : Nat)) ∧ Below w3.heap.size w3 wc')
        case first =>
          as_aux_lemma =>
            by_cases hc : c0 = -1
            · have hc1 : (c0 != -1) = false := by rw [hc]; rfl
              have hw : w0 = 0 := hdw.1 hc
              have hd1 : dec s (i0 + w0) = (-1, 0) := by rw [hw, Nat.add_zero, hd0, hc, hw]
              go_wp2_with fail
              go_meet
              exact ⟨⟨by rw [hd1], by rw [hd1]; rfl⟩, Below.refl _ _⟩
            · have hc1 : (c0 != -1) = true := bne_iff_ne.mpr hc
              have HS1 := Lib.hid (istep_calls s (i0 + w0) w3 mb hdr (by omega) (HTW.out _ (below_step HB2.out hb3)) ((hb3.cell (World.block_lt_of_cell? w2 _ hzx)).trans hzx))
              go_wp2_with fail
              refine HS1.out.mono ?_
              rintro e w4 ⟨rfl, hb4⟩
              clear HS1
              go_wp2_with fail
              go_meet
              exact ⟨⟨rfl, rfl⟩, hb4⟩
        case rest =>
          obtain ⟨⟨rfl, rfl⟩, hb4⟩ := hcut
          have HB4 := Lib.hid (below_step hb3 hb4)
          have hzx4 := (HB4.out.cell (World.block_lt_of_cell? w2 _ hzx)).trans hzx
          clear hb3 hb4 hz0 hdw
          obtain ⟨F0, hF0⟩ : ∃ F0, regexp_newLazyFlag.f (lastR s i0) c0 = some F0 := ⟨_, rfl⟩
          have HF0 := Lib.hid hF0
          clear hF0
          go_upto_if 67 with (fail)
          have hlf := heap_alloc_new wc (.cells #[.int .u64 0] 118)
          have HB5 := Lib.hid (below_alloc HB4.out (.cells #[.int .u64 0] 118))
          have hzx5 := ((below_alloc (Below.refl _ wc) (.cells #[.int .u64 0] 118)).cell (World.block_lt_of_cell? wc _ hzx4)).trans hzx4
          have hlw : w2.heap.size ≤ wc.heap.size := HB4.out.size
          obtain ⟨lf, hlfe⟩ : ∃ lf, lf = wc.heap.size := ⟨_, rfl⟩
          rw [← hlfe] at hlf hlw ⊢
          generalize wc.alloc (.cells #[.int .u64 0] 118) = w5 at *
          clear hlfe hzx4 HB4
          go_cut [15] (fun v15 wd => v15 = .pointer (some ⟨lf, 0, none⟩) ∧ Below w2.heap.size w2 wd ∧ wd.heap[lf]? = some (.cells #[.int .u64 F0] 118 (0, 0)))
          case first =>
            as_aux_lemma =>
              by_cases hi00 : i0 = 0
              · have hi1 : ((i0 : Int) == 0) = true := by rw [beq_iff_eq]; omega
                have HF1 := HF0.out
                rw [show lastR s i0 = -1 from if_pos hi00] at HF1
                clear hi00
                go_wp2_with fail
                refine (regexp_newLazyFlag.calls _ _ F0 w5 HF1).mono ?_
                rintro e w6 ⟨rfl, hd⟩
                have hl6 := blk_below hlf hd.below
                have hc6 := blk_cell hl6 0
                have hf6 := blk_frozen hl6 0
                go_wp2_with fail
                go_meet
                exact ⟨rfl, below_set (below_step HB5.out hd.below) hlw, (blk_set hl6 0 _).trans rfl⟩
              · have hi1 : ((i0 : Int) == 0) = false := by rw [beq_eq_false_iff_ne]; omega
                have HS1 := Lib.hid (icontext_calls s i0 w5 mb (by omega) hi (by omega) (HTW.out _ (below_step HB2.out HB5.out)) hzx5 F0 (by rw [hd0]; exact HF0.out))
                go_wp2_with fail
                refine HS1.out.mono ?_
                rintro e w6 ⟨rfl, hd⟩
                have hl6 := blk_below hlf hd
                have hc6 := blk_cell hl6 0
                have hf6 := blk_frozen hl6 0
                clear HS1
                go_wp2_with fail
                go_meet
                exact ⟨rfl, below_set (below_step HB5.out hd) hlw, (blk_set hl6 0 _).trans rfl⟩
          case rest =>
            obtain ⟨rfl, HB6, hl6⟩ := hcut
            obtain ⟨hSI, hJX⟩ := HN1.out.start (N := L.length) (p := p) (lf := lf) (F := F0) (ad := ad) (tx := s) HFR.out HC2.out HB6 hl6 hNz hz hncc hcc (up_same _ _ _) ((up_ne _ _ (by decide)).trans HX.out)
            have HLF : Hid (W0.heap.size ≤ lf) := Lib.hid (Nat.le_trans HB2.out.size hlw)
            have hr0 := dec_rng s i0
            rw [hd0] at hr0
            have HL0 : Hid (LoopI L W0 p mb lf z n cc ad mcb rb s long (decide (cv.toNat &&& 4 ≠ 0)) t Fin mc i0 (s.size + 2) (lastR s i0) 4 2 sp sp1 de de1 0 (up mc 7 (.bool false)) [] [] [] false (List.replicate n (-1)) F0 wc) := Lib.hid
              ⟨⟨hSI, hJX, (fun a ha => by cases ha), up_ne _ _ (by decide), up_ne _ _ (by decide)⟩, HFIN.out, lastR_rng s i0, by rw [hd0]; exact lazy_match (lastR_rng s i0).1 (lastR_rng s i0).2 hr0.1 hr0.2 HF0.out (cond_z _ _), hi, by omega, Nat.zero_le _⟩
            clear hSI hJX hl6 HB6 hlf hzx hzx5 HB5 HFR HC2 hr0 HM2 HF0
            go_wp2_with fail
            go_loopg [2, 9, 10, 11, 12, 13, 14] (s.size + 2) (fun gk s2 s9 s10 s11 s12 s13 s14 wr => ∃ (i : Nat) (last : Int) (ra qo sp sq de rde pl : Nat) (mr : Nat → Value) (E : List En) (pool : List Th) (A : List Ae) (mt : Bool) (M : List Int) (F : Int),
              s2 = .int .i64 (i : Int) ∧ s9 = .pointer (some ⟨mb, qo, none⟩) ∧ s10 = .pointer (some ⟨mb, ra, none⟩) ∧ s11 = .int .i32 (dec s i).1 ∧ s12 = .int .i32 (dec s (i + (dec s i).2)).1 ∧ s13 = .int .i64 ((dec s i).2 : Nat) ∧ s14 = .int .i64 ((dec s (i + (dec s i).2)).2 : Nat) ∧
              Hid (LoopI L W0 p mb lf z n cc ad mcb rb s long (decide (cv.toNat &&& 4 ≠ 0)) t Fin mc i gk last ra qo sp sq de rde pl mr E pool A mt M F wr))
            case atStart => exact ⟨i0, lastR s i0, 4, 2, sp, sp1, de, de1, 0, _, [], [], [], false, _, F0, rfl, rfl, rfl, by rw [hd0], by rw [hd0], by rw [hd0], by rw [hd0], HL0⟩
            case round =>
              obtain ⟨i, last, ra, qo, sp', sq, de', rde, pl, mr, E, pool, A, mt, M, F, rfl, rfl, rfl, rfl, rfl, rfl, rfl, HI⟩ := hrel
              clear HL0
              have hrq := HI.out.pi.si.rq
              have hzq := (mach_cell HI.out.pi.si.ms.ma (qo + 1) (by omega)).trans (congrArg some HI.out.pi.si.ms.md)
              have hz7 := (mach_cell HI.out.pi.si.ms.ma 7 (by omega)).trans (congrArg some HI.out.pi.si.m7)
              have hz8 := (mach_cell HI.out.pi.si.ms.ma 8 (by omega)).trans (congrArg some HI.out.pi.si.m8)
              have hz0 := (mach_cell HI.out.pi.si.ms.ma 0 (by omega)).trans (congrArg some HI.out.pi.jx.m0)
              have hzp := (HI.out.pi.si.ms.bl.cell (World.block_lt_of_cell? W0 _ HR.out.1)).trans HR.out.1
              obtain ⟨k, rfl⟩ : ∃ k, gk = k + 1 := ⟨gk - 1, by have := HI.out.ile; have := HI.out.fu; omega⟩
              have HPL : Hid (pl + L.length ≤ 1048576) := Lib.hid (by
                have h1 := HI.out.plb
                have h2 : L.length * (i + 1) ≤ L.length * (s.size + 1) := Nat.mul_le_mul_left _ (by have := HI.out.ile; omega)
                have h3 := HWK.out
                rw [Nat.mul_succ] at h2
                omega)
              have HB4 : Hid ((bits .and .u8 cv 4 = 0) ↔ ¬ (decide (cv.toNat &&& 4 ≠ 0)) = true) := Lib.hid (and4 cv HCV.out)
              by_cases hbr : A = [] ∧ ((decide (cv.toNat &&& 4 ≠ 0)) = true ∧ i ≠ 0 ∨ mt = true)
              ·
                as_aux_lemma =>
                  have hE : E = [] := by
                    have h1 := HI.out.pi.si.rE.length
                    rw [hbr.1] at h1
                    exact List.length_eq_zero_iff.1 h1
                  subst hE
                  have hfe : (mt, M) = Fin := by
                    have h1 := HI.out.fin
                    rw [mLoop, if_pos hbr] at h1
                    exact h1
                  obtain ⟨rfl, hbr2⟩ := hbr
                  have HFE := Lib.hid hfe
                  clear hfe
                  have hEl : ((([] : List En).length : Int) == 0) = true := rfl
                  have HCL := Lib.hid (HI.out.pi.clear0 (by have := HPL.out; omega))
                  have HEN : Hid (∀ w6, EndI L W0 mb n cc mcb mc mt M w6 → Below W0.heap.size W0 w6 ∧ ∃ (mr : Nat → Value), w6.heap[mb]? = some (mach mr) ∧ mr 8 = .slice (some ⟨mcb, 0, none⟩) n cc ∧ (Fin.1 = true → CapAt w6 n cc mcb Fin.2) ∧ mr 9 = mc 9 ∧ mr 11 = mc 11) := Lib.hid fun w6 ⟨h1, mr, h2, h3, h4, h5, h6, h7⟩ => ⟨h1, mr, h2, h4, fun _ => by rw [← HFE.out]; exact h5, h6, h7⟩
                  have hb : (bits .and .u8 cv 4 != 0) = true ∧ ((i : Int) != 0) = true ∨ ((bits .and .u8 cv 4 != 0) = true ∧ ((i : Int) != 0) = false ∨ (bits .and .u8 cv 4 != 0) = false) ∧ mt = true := by
                    by_cases h4 : bits .and .u8 cv 4 = 0
                    · refine .inr ⟨.inr (by rw [h4]; rfl), ?_⟩
                      rcases hbr2 with h | h
                      · exact absurd h.1 (HB4.out.1 h4)
                      · exact h
                    · by_cases h5 : i = 0
                      · refine .inr ⟨.inl ⟨bne_iff_ne.2 h4, by rw [h5]; rfl⟩, ?_⟩
                        rcases hbr2 with h | h
                        · exact absurd h5 h.2
                        · exact h
                      · exact .inl ⟨bne_iff_ne.2 h4, by rw [bne_iff_ne]; omega⟩
                  clear hbr2
                  rcases hb with ⟨hb1, hb2⟩ | ⟨⟨hb1, hb2⟩ | hb1, hmt⟩
                  all_goals
                    try subst hmt
                    go_wp2_with fail
                    refine HCL.out.mono ?_
                    rintro e w6 ⟨rfl, hend⟩
                    have HE := Lib.hid hend
                    obtain ⟨_, mr2, hma2, h72, _⟩ := hend
                    have hz72 := (mach_cell hma2 7 (by omega)).trans (congrArg some h72)
                    clear hma2 h72
                    go_wp2_with fail
                    go_ret
                    exact ⟨by rw [← HFE.out]; rfl, HEN.out _ HE.out⟩
              · go_upto_if 78 with (fail)
                go_cut [2, 11, 12, 13, 14] (fun v2 v11 v12 v13 v14 wc => v2 = .int .i64 (i : Int) ∧ v11 = .int .i32 (dec s i).1 ∧ v12 = .int .i32 (dec s (i + (dec s i).2)).1 ∧ v13 = .int .i64 ((dec s i).2 : Nat) ∧ v14 = .int .i64 ((dec s (i + (dec s i).2)).2 : Nat) ∧ wr = wc)
                case first =>
                  as_aux_lemma =>
                    by_cases hE : E = []
                    · subst hE
                      have hA : A = [] := List.length_eq_zero_iff.1 HI.out.pi.si.rE.length.symm
                      have hmt : mt = false := by
                        cases mt with
                        | false => rfl
                        | true => exact absurd ⟨hA, .inr rfl⟩ hbr
                      subst hmt
                      have hEl : ((([] : List En).length : Int) == 0) = true := rfl
                      have hb : (bits .and .u8 cv 4 != 0) = true ∧ ((i : Int) != 0) = false ∨ (bits .and .u8 cv 4 != 0) = false := by
                        by_cases h4 : bits .and .u8 cv 4 = 0
                        · exact .inr (by rw [h4]; rfl)
                        · by_cases h5 : i = 0
                          · exact .inl ⟨bne_iff_ne.2 h4, by rw [h5]; rfl⟩
                          · exact absurd ⟨hA, .inl ⟨Decidable.byContradiction fun e => h4 (HB4.out.2 e), h5⟩⟩ hbr
                      clear hbr hA
                      rcases hb with ⟨hb1, hb2⟩ | hb1
                      all_goals
                        go_wp2_with fail
                        go_meet
                        exact ⟨rfl, rfl, rfl, rfl, rfl, rfl⟩
                    · have hEl : ((E.length : Int) == 0) = false := by rw [beq_eq_false_iff_ne]; have := List.length_pos_iff.2 hE; omega
                      go_wp2_with fail
                      go_meet
                      exact ⟨rfl, rfl, rfl, rfl, rfl, rfl⟩
                case rest =>
                  obtain ⟨rfl, rfl, rfl, rfl, rfl, rfl⟩ := hcut
                  have HBR := Lib.hid hbr
                  clear hbr HB4 hzq hzp hz0
                  obtain ⟨M1, hM1⟩ : ∃ M1, M1 = (if mt = true then M else M.set 0 (i : Int)) := ⟨_, rfl⟩
                  obtain ⟨A1, hA1⟩ : ∃ A1, A1 = (if mt = true then A else A ++ aF L (condZ last (dec s i).1) (i : Int) (L.length + 1) (A.map Prod.fst) t M1) := ⟨_, rfl⟩
                  have HM1 := Lib.hid hM1
                  have HA1 := Lib.hid hA1
                  go_upto_if 147 with (fail)
                  go_cut [] (fun wc => ∃ mr1 E1 pool1, Hid (PutI L W0 p mb lf z n cc ad mcb rb s mc ra qo sp' sq de' rde pl mr1 E1 pool1 A1 mt M1 F wc))
                  case first =>
                    as_aux_lemma =>
                      cases mt with
                      | true =>
                        have e1 : M1 = M := hM1
                        have e2 : A1 = A := hA1
                        subst e1 e2
                        go_wp2_with fail
                        go_meet
                        exact ⟨mr, E, pool, Lib.hid HI.out.pi⟩
                      | false =>
                        have e1 : M1 = M.set 0 (i : Int) := hM1
                        have e2 : A1 = A ++ aF L (condZ last (dec s i).1) (i : Int) (L.length + 1) (A.map Prod.fst) t M1 := hA1
                        clear hM1 hA1
                        go_upto_if 153 with (fail)
                        go_cut [] (fun wc => Hid (PutI L W0 p mb lf z n cc ad mcb rb s mc ra qo sp' sq de' rde pl mr E pool A false M1 F wc))
                        case first =>
                          by_cases hn : n = 0
                          · have hn1 : decide ((n : Int) > 0) = false := decide_eq_false (by omega)
                            have e3 : M1 = M := by
                              have hML : M.length = n := by obtain ⟨_, _, k, _⟩ := HI.out.pi.si.cp; exact k
                              rw [e1, List.length_eq_zero_iff.1 (hML.trans hn)]; rfl
                            go_wp2_with fail
                            go_meet
                            rw [e3]
                            exact Lib.hid HI.out.pi
                          · have hn1 : decide ((n : Int) > 0) = true := decide_eq_true (by omega)
                            have hn2 : 0 < n := by omega
                            have hcf : wr.frozen? ⟨mcb, 0, none⟩ = false := by obtain ⟨_, k, _⟩ := HI.out.pi.si.cp; exact blk_frozen k 0
                            have hcm : wr.cell? ⟨mcb, 0, none⟩ = some (.int .i64 M[0]!) := by
                              have hML : M.length = n := by obtain ⟨_, _, k, _⟩ := HI.out.pi.si.cp; exact k
                              rw [HI.out.pi.si.cp.cell (k := 0) (by omega)]
                              rw [getElem!_pos M 0 (by omega)]
                            go_wp2_with fail
                            go_meet
                            rw [e1]
                            exact Lib.hid (HI.out.pi.capm hn2 _)
                        case rest =>
                          have HPI := hcut
                          have hz1 := (mach_cell HPI.out.si.ms.ma 1 (by omega)).trans (congrArg some HPI.out.si.ms.m1)
                          have hp1 := (HPI.out.si.ms.bl.cell (World.block_lt_of_cell? W0 _ HST.out)).trans HST.out
                          have hz8 := (mach_cell HPI.out.si.ms.ma 8 (by omega)).trans (congrArg some HPI.out.si.m8)
                          have HCALL := Lib.hid ((HPI.out.drewN 1).add HS.out hm _ HI.out.fl HP.out t ht1 (i : Int))
                          clear hz7
                          go_upto_region 32 with (fail)
                          go_still_tail 15, (by kernel_rfl)
                          change wpList _ _ _ _ _ wc.drew
                          go_wp2_with fail
                          refine HCALL.out.mono ?_
                          rintro e w6 ⟨mr6, E6, pool6, t6, rfl, hpi⟩
                          rw [← e2] at hpi
                          have HP6 := Lib.hid hpi
                          clear hpi HCALL
                          go_wp2_with fail
                          go_meet
                          exact ⟨mr6, E6, pool6, HP6⟩
                  case rest =>
                    obtain ⟨mr1, E1, pool1, HP1⟩ := hcut
                    have HFI := Lib.hid HI.out.fin
                    have HIL := Lib.hid (And.intro HI.out.ile (And.intro HI.out.fu HI.out.plb))
                    have hle := dec_le s i HI.out.ile
                    have hdw := dec_z s i
                    obtain ⟨r1, r2⟩ := dec_rng s i
                    obtain ⟨r3, r4⟩ := dec_rng s (i + (dec s i).2)
                    obtain ⟨F2, hF2⟩ : ∃ F2, regexp_newLazyFlag.f (dec s i).1 (dec s (i + (dec s i).2)).1 = some F2 := lazyF_some _ _
                    have HF2 := Lib.hid hF2
                    have HM2 := Lib.hid (lazy_match r1 r2 r3 r4 hF2 (cond_z (dec s i).1 (dec s (i + (dec s i).2)).1))
                    have HLN : Hid (∀ (A2 : List Ae) (mt2 : Bool) (M2 : List Int), stepF L long n (dec s i).1 (condZ (dec s i).1 (dec s (i + (dec s i).2)).1) (i : Int) ((i + (dec s i).2 : Nat) : Int) A1 ([], mt, M1) = (A2, mt2, M2) → ((dec s i).2 = 0 → (mt2, M2) = Fin) ∧ ((dec s i).2 ≠ 0 → n = 0 → mt2 = true → (mt2, M2) = Fin) ∧ ((dec s i).2 ≠ 0 → ¬ (n = 0 ∧ mt2 = true) → mLoop L t long (decide (cv.toNat &&& 4 ≠ 0)) s k (dec s i).1 (i + (dec s i).2) A2 mt2 M2 = Fin)) := Lib.hid fun A2 mt2 M2 he => HI.out.next HBR.out HM1.out HA1.out he
                    obtain ⟨X, hX⟩ : ∃ X, X = stepF L long n (dec s i).1 (condZ (dec s i).1 (dec s (i + (dec s i).2)).1) (i : Int) ((i + (dec s i).2 : Nat) : Int) A1 ([], mt, M1) := ⟨_, rfl⟩
                    have HX2 := Lib.hid hX
                    clear HI HBR HFI hz7 hz8 hF2 r1 r2 r3 r4 hX hM1 hA1 HM1 HA1
                    go_wp2_with fail
                    refine (regexp_newLazyFlag.calls _ _ F2 wc HF2.out).mono ?_
                    rintro e w6 ⟨rfl, hd⟩
                    have HP2 := Lib.hid (HP1.out.grow hd.below)
                    have hlc := blk_cell HP2.out.si.ms.fl 0
                    have hlf := blk_frozen HP2.out.si.ms.fl 0
                    have HP3 := Lib.hid (HP2.out.flag HLF.out F2)
                    clear hd
                    have hcast : ((i : Int) + ((dec s i).2 : Nat) : Int) = ((i + (dec s i).2 : Nat) : Int) := by push_cast; rfl
                    have HCALL := Lib.hid (HP3.out.step HS.out hm _ HM2.out HP.out HF.out HN0.out long HR.out.2.2 (by have := HPL.out; omega) (dec s i).1 (i : Int) ((i + (dec s i).2 : Nat) : Int))
                    rw [← HX2.out] at HCALL
                    rw [← hcast] at HCALL
                    clear HP2 HP1 hcast
                    go_wp2_with fail
                    refine HCALL.out.mono ?_
                    rintro e w7 ⟨mr7, E7, pool7, rfl, hpi7⟩
                    have HP7 := Lib.hid hpi7
                    clear hpi7 HCALL HP3 hlc hlf
                    obtain ⟨g1, g2, g3⟩ := HLN.out X.1 X.2.1 X.2.2 HX2.out.symm
                    have HG2 := Lib.hid g2
                    have HG3 := Lib.hid g3
                    have hz77 := (mach_cell HP7.out.si.ms.ma 7 (by omega)).trans (congrArg some HP7.out.si.m7)
                    have hz78 := (mach_cell HP7.out.si.ms.ma 8 (by omega)).trans (congrArg some HP7.out.si.m8)
                    have HTW7 := Lib.hid (HTW.out _ HP7.out.si.ms.bl)
                    have HX7 := Lib.hid ((mach_cell HP7.out.si.ms.ma 10 (by omega)).trans (congrArg some HP7.out.jx.mx))
                    clear HLN HX2
                    obtain ⟨A7, mt7, M7⟩ := X
                    simp only at hz77 hz78 g1 HG2 HG3 HP7
                    generalize hw0 : (dec s i).2 = w0 at *
                    have HEN : Hid (∀ w6, (mt7, M7) = Fin → EndI L W0 mb n cc mcb mc mt7 M7 w6 → Below W0.heap.size W0 w6 ∧ ∃ (mr : Nat → Value), w6.heap[mb]? = some (mach mr) ∧ mr 8 = .slice (some ⟨mcb, 0, none⟩) n cc ∧ (Fin.1 = true → CapAt w6 n cc mcb Fin.2) ∧ mr 9 = mc 9 ∧ mr 11 = mc 11) := Lib.hid fun w6 hfe ⟨h1, mr, h2, h3, h4, h5, h6, h7⟩ => ⟨h1, mr, h2, h4, fun _ => by rw [← hfe]; exact h5, h6, h7⟩
                    have HCL := Lib.hid (HP7.out.clear (by have := HPL.out; omega))
                    by_cases h0 : w0 = 0
                    ·
                      as_aux_lemma =>
                        have HFE := Lib.hid (g1 h0)
                        have hw1 : ((w0 : Int) == 0) = true := by rw [beq_iff_eq]; omega
                        clear g1 h0
                        go_wp2_with fail
                        refine HCL.out.mono ?_
                        rintro e w8 ⟨rfl, hend⟩
                        have HE := Lib.hid hend
                        obtain ⟨_, mr2, hma2, h72, _⟩ := hend
                        have hz72 := (mach_cell hma2 7 (by omega)).trans (congrArg some h72)
                        clear hma2 h72
                        go_wp2_with fail
                        go_ret
                        exact ⟨by rw [← HFE.out]; rfl, HEN.out _ HFE.out HE.out⟩
                    · have hw1 : ((w0 : Int) == 0) = false := by rw [beq_eq_false_iff_ne]; omega
                      clear g1
                      by_cases hb : n = 0 ∧ mt7 = true
                      ·
                        as_aux_lemma =>
                          have HFE := Lib.hid (HG2.out h0 hb.1 hb.2)
                          have hn1 : ((n : Int) == 0) = true := by rw [beq_iff_eq]; omega
                          obtain ⟨_, rfl⟩ := hb
                          go_wp2_with fail
                          refine HCL.out.mono ?_
                          rintro e w8 ⟨rfl, hend⟩
                          have HE := Lib.hid hend
                          obtain ⟨_, mr2, hma2, h72, _⟩ := hend
                          have hz72 := (mach_cell hma2 7 (by omega)).trans (congrArg some h72)
                          clear hma2 h72
                          go_wp2_with fail
                          go_ret
                          exact ⟨by rw [← HFE.out]; rfl, HEN.out _ HFE.out HE.out⟩
                      · have hfin := HG3.out h0 hb
                        have hb2 : ((n : Int) == 0) = false ∨ ((n : Int) == 0) = true ∧ mt7 = false := by
                          by_cases hn : n = 0
                          · refine .inr ⟨by rw [beq_iff_eq]; omega, ?_⟩
                            cases mt7 with
                            | false => rfl
                            | true => exact absurd ⟨hn, rfl⟩ hb
                          · exact .inl (by rw [beq_eq_false_iff_ne]; omega)
                        have HFN := Lib.hid hfin
                        clear hfin hb HG2 HG3 HCL HEN
                        go_upto_region 36 with (fail)
                        go_cut [201] (fun v wc => v = .bool false ∧ w7 = wc)
                        case first =>
                          as_aux_lemma =>
                            rcases hb2 with hn1 | ⟨hn1, hmt⟩
                            · go_wp2_with fail
                              go_meet
                              exact ⟨rfl, rfl⟩
                            · subst hmt
                              go_wp2_with fail
                              go_meet
                              exact ⟨rfl, rfl⟩
                        case rest =>
                          obtain ⟨rfl, rfl⟩ := hcut
                          clear hb2 hz77 hz78
                          have hle2 := dec_le s (i + w0) hle
                          have hdw2 := dec_z s (i + w0)
                          generalize hd7 : dec s (i + w0) = d7 at *
                          obtain ⟨c1, w1⟩ := d7
                          simp only at hle2 hdw2
                          go_upto_if 208 with (fail)
                          go_cut [12, 14] (fun v12 v14 wc' => (v12 = .int .i32 (dec s (i + w0 + w1)).1 ∧ v14 = .int .i64 ((dec s (i + w0 + w1)).2 : Nat)) ∧ Below w7.heap.size w7 wc')
                          case first =>
                            by_cases hc : c1 = -1
                            · have hc1 : (c1 != -1) = false := by rw [hc]; rfl
                              have hw : w1 = 0 := hdw2.1 hc
                              have hd1 : dec s (i + w0 + w1) = (-1, 0) := by rw [hw, Nat.add_zero, hd7, hc, hw]
                              have HD1 := Lib.hid hd1
                              have HZ := Lib.hid (And.intro hc hw)
                              clear hd1 hc hw
                              go_wp2_with fail
                              go_meet
                              exact ⟨⟨by rw [HD1.out]; exact congrArg (Value.int .i32) HZ.out.1, by rw [HD1.out]; exact congrArg (fun x : Nat => Value.int .i64 (x : Int)) HZ.out.2⟩, Below.refl _ _⟩
                            · have hc1 : (c1 != -1) = true := bne_iff_ne.mpr hc
                              have HS1 := Lib.hid (istep_calls s (i + w0 + w1) w7 mb hle2 (by omega) HTW7.out HX7.out)
                              go_wp2_with fail
                              refine HS1.out.mono ?_
                              rintro e w8 ⟨rfl, hb8⟩
                              clear HS1
                              go_wp2_with fail
                              go_meet
                              exact ⟨⟨rfl, rfl⟩, hb8⟩
                          case rest =>
                            obtain ⟨⟨rfl, rfl⟩, hb8⟩ := hcut
                            have HP8 := Lib.hid (HP7.out.grow hb8)
                            clear HP7 hb8
                            go_wp2_with fail
                            go_roundg k
                            case measure => omega
                            case rel =>
                              obtain ⟨l1, l2, l3⟩ := HIL.out
                              refine ⟨i + w0, (dec s i).1, qo, ra, sq, sp', rde, de', pl + L.length, mr7, E7, pool7, A7, mt7, M7, F2, by go_num, rfl, rfl, by rw [hd7], by rw [hd7], by rw [hd7], by rw [hd7], Lib.hid ⟨HP8.out, HFN.out, dec_rng s i, by rw [hd7]; exact HM2.out, hle, by omega, ?_⟩⟩
                              have h1 : L.length * (i + 1) ≤ L.length * (i + w0) := Nat.mul_le_mul_left _ (by omega)
                              rw [Nat.mul_succ] at h1
                              omega
end Go.Proofs.YtmccgfjhmbioeaaDoor.PgFnPgThreads
