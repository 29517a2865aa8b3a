import Derived.Test.YtmccgfjhmbioeaaDoorKaFnPgThreads
import Derived.Test.YtmccgfjhmbioeaaDoorFiFnPgThreads
import Derived.StillTailTactics
namespace Go.Proofs.YtmccgfjhmbioeaaDoor.PgFnPgThreads
open Go.RowKit Go.Proofs.YtmccgfjhmbioeaaDoor.EvN Go.Proofs.YtmccgfjhmbioeaaDoor.Row Go.Proofs.YtmccgfjhmbioeaaDoor.Sf Go.Proofs.YtmccgfjhmbioeaaDoor.PFnPgThreads Go.Proofs.YtmccgfjhmbioeaaDoorW.PrintWords Go.Proofs.YtmccgfjhmbioeaaDoorW.PrintLast Go.Proofs.YtmccgfjhmbioeaaDoorW.PrintMore
set_option linter.unusedVariables false
set_option linter.unusedSimpArgs false
theorem ithp : (Tryd.prog.info? 107).map (fun i => (i.zero, i.size, i.bytes)) = some (some (.pointer none), 1, 8) := by kernel_rfl
section
variable {N : Nat} {W0 : World} {p mb qo sp de lf S n cc : Nat} {F : Int} {ad : Addr} {R : List En} {RA : List Ae} {mcb ra rde pl0 : Nat} {mc : Nat → Value} {w : World} {t : Option Th} {j : Nat} {wr w1 : World} {mr mr1 : Nat → Value} {E new : List En} {pool pool1 : List Th} {A A1 : List Ae} {mt : Bool} {M : List Int} {out_ : List Th}
theorem up_self (mc : Nat → Value) (i : Nat) (v : Value) (h : mc i = v) : up mc i v = mc := by
  funext k
  by_cases e : k = i
  · subst e; rw [up_same, h]
  · exact up_ne mc v e
theorem SI.cut (h : SI N W0 p mb qo sp de lf S n cc F ad R RA mcb ra rde pl0 mc w t R.length wr mr E pool A mt M) :
    SI N W0 p mb qo sp de lf S n cc F ad [] [] mcb ra rde (pl0 + R.length) (up mc (ra + 1) (.slice (some ⟨rde, 0, none⟩) 0 S)) w t 0 (wr.setCell ⟨mb, ra + 1, none⟩ (.slice (some ⟨rde, 0, none⟩) 0 S)) (up mr (ra + 1) (.slice (some ⟨rde, 0, none⟩) 0 S)) E pool A mt M := by
  have hq := h.rq
  have hb := h.ms.other (ra + 1) (.slice (some ⟨rde, 0, none⟩) 0 S) (by omega) (by omega) (by omega) (by omega) (by omega) (by omega)
  have hd : thr (R.drop R.length) = [] := by rw [List.drop_length]; rfl
  rw [hd] at hb
  have kt : ∀ {y : Th} {i0 : Value} {C : List Int}, ThAt wr n cc y i0 C → (wr.setCell ⟨mb, ra + 1, none⟩ (.slice (some ⟨rde, 0, none⟩) 0 S)).heap[y.1]? = wr.heap[y.1]? ∧ (wr.setCell ⟨mb, ra + 1, none⟩ (.slice (some ⟨rde, 0, none⟩) 0 S)).heap[y.2]? = wr.heap[y.2]? := fun {y i0 C} hC => by
    obtain ⟨c1, _⟩ := h.ms.th_ne hC
    exact ⟨Below.heap_setCell _ _ _ _ c1.1, Below.heap_setCell _ _ _ _ c1.2⟩
  have hmc1 : mcb ≠ mb := by obtain ⟨r, k, _⟩ := h.cp; exact blk_ne k h.ms.ma (by decide)
  have hnm := h.nm
  rw [hd] at hnm
  refine ⟨hb, h.rE.keep fun y hy => ?_, trivial, by rw [up_ne _ _ (by omega)]; exact h.m7, by rw [up_ne _ _ (by omega)]; exact h.m8, h.cp.keep (Below.heap_setCell _ _ _ _ hmc1), h.cl, hnm, up_same _ _ _, fun i a b c => ?_, h.rq, by have := h.pl; omega, h.kp.trans ?_⟩
  · obtain ⟨i0, C, hC⟩ := h.ms.th y (by simp [hy])
    exact kt hC
  · by_cases e : i = ra + 1
    · rw [e, up_same, up_same]
    · rw [up_ne _ _ e, up_ne _ _ e]; exact h.mm i a b c
  · intro g cs t ht h1 h2 h3
    have hg : g ≠ mb := blk_ne h3 h.ms.ma (by rcases ht with rfl | rfl <;> decide)
    exact (Below.heap_setCell _ _ _ _ hg).trans h3
theorem SI.cut0 (h : SI N W0 p mb qo sp de lf S n cc F ad [] [] mcb ra rde pl0 (up mc (ra + 1) (.slice (some ⟨rde, 0, none⟩) 0 S)) w t 0 wr mr E pool A mt M) :
    SI N W0 p mb qo sp de lf S n cc F ad [] [] mcb ra rde pl0 (up mc (ra + 1) (.slice (some ⟨rde, 0, none⟩) 0 S)) w t 0 (wr.setCell ⟨mb, ra + 1, none⟩ (.slice (some ⟨rde, 0, none⟩) 0 S)) mr E pool A mt M := by
  have h2 : SI N W0 p mb qo sp de lf S n cc F ad [] [] mcb ra rde pl0 (up mc (ra + 1) (.slice (some ⟨rde, 0, none⟩) 0 S)) w t ([] : List En).length wr mr E pool A mt M := h
  have h3 := h2.cut
  rw [up_self (up mc (ra + 1) (.slice (some ⟨rde, 0, none⟩) 0 S)) (ra + 1) _ (up_same _ _ _)] at h3
  rw [show up mr (ra + 1) (.slice (some ⟨rde, 0, none⟩) 0 S) = mr from up_self mr _ _ h.rd] at h3
  exact h3
theorem MS.ma_grown (h : MS N W0 wr p mb qo sp de lf S n cc F mr E pool out_) (hgr : wr.grownBy w1 (mr 6).ownBlock) : w1.heap[mb]? = some (mach mr) :=
  (hgr.block _ (blk_lt h.ma) (fun e => (h.pool_ne _ e.symm).1 rfl)).trans h.ma
theorem SI.apart {x : Th} (h : SI N W0 p mb qo sp de lf S n cc F ad R RA mcb ra rde pl0 mc w (some x) j wr mr E pool A mt M) : ∀ y ∈ pool, y.2 ≠ x.2 := fun y hy e => by
  have hp : (x :: (thr E ++ (thr (R.drop j) ++ pool))).Perm (thr E ++ (((some x).toList ++ thr (R.drop j)) ++ pool)) := by
    simp only [Option.toList_some, List.cons_append, List.nil_append]
    exact List.perm_middle.symm
  have := ((hp.map Prod.snd).nodup_iff).2 h.ms.n2
  rw [List.map_cons, List.nodup_cons] at this
  exact this.1 (by rw [← e]; exact List.mem_map_of_mem (by simp [hy]))
theorem MS.perm {out out' : List Th} (h : MS N W0 wr p mb qo sp de lf S n cc F mr E pool out) (hp : out.Perm out') : MS N W0 wr p mb qo sp de lf S n cc F mr E pool out' := by
  have h1 : (thr E ++ (out ++ pool)).Perm (thr E ++ (out' ++ pool)) := List.Perm.append_left _ (List.Perm.append_right _ hp)
  have h2 : (thr E ++ out).Perm (thr E ++ out') := List.Perm.append_left _ hp
  exact ⟨h.ma, h.m1, h.m8, h.q2, h.mq, h.md, h.sa, h.da, h.fl, h.pl, fun x hx => h.th x (h2.mem_iff.2 hx), ((h1.map Prod.fst).nodup_iff).1 h.n1, ((h1.map Prod.snd).nodup_iff).1 h.n2, ⟨h.lo.1, h.lo.2.1, h.lo.2.2.1, fun x hx => h.lo.2.2.2 x (h1.mem_iff.2 hx)⟩, h.bl, h.fi, h.ls, h.lm, h.nc, h.cm, h.pm⟩
theorem SI.pass (h : SI N W0 p mb qo sp de lf S n cc F ad R RA mcb ra rde pl0 mc w t j wr mr E pool A mt M) (hj : j < R.length) (hn : R[j].2 = none) :
    SI N W0 p mb qo sp de lf S n cc F ad R RA mcb ra rde pl0 mc w t (j + 1) wr mr E pool A mt M := by
  obtain ⟨hA, e1, e2, e3, e4⟩ := h.rR.drop_cons hj
  have ht : thr (R.drop j) = thr (R.drop (j + 1)) := by rw [e1, thr_none hn]
  have h1 := h.ms
  have h2 := h.nm
  rw [ht] at h1 h2
  exact ⟨h1, h.rE, e4, h.m7, h.m8, h.cp, h.cl, h2, h.rd, h.mm, h.rq, by have := h.pl; omega, h.kp⟩
theorem SI.drop_ {x y : Th} {pv' : Value} (h : SI N W0 p mb qo sp de lf S n cc F ad R RA mcb ra rde pl0 mc w (some x) j wr mr E pool A mt M) (hj : j < R.length) (hn : R[j].2 = some y) (hgr : wr.grownBy w1 (mr 6).ownBlock)
    (hown : w1.ownsRow W0.heap.size 107 1 pv' (pool.length + 1) (pool.map (fun x => Value.pointer (some ⟨x.1, 0, none⟩)) ++ [.pointer (some ⟨y.1, 0, none⟩)])) (hpl : pl0 + j ≤ 2000000) :
    SI N W0 p mb qo sp de lf S n cc F ad R RA mcb ra rde pl0 mc w (some x) (j + 1) (w1.setCell ⟨mb, 6, none⟩ pv') (up mr 6 pv') E (pool ++ [y]) A mt M := by
  have hq := h.rq
  have hp := h.pl
  simp at hp
  obtain ⟨hA, e1, e2, e3, e4⟩ := h.rR.drop_cons hj
  have ht : thr (R.drop j) = y :: thr (R.drop (j + 1)) := by rw [e1, thr_some hn]
  have h1 := h.ms
  rw [ht] at h1
  have hms : MS N W0 wr p mb qo sp de lf S n cc F mr E pool (y :: ((some x).toList ++ thr (R.drop (j + 1)))) := h1.perm (by simpa using List.Perm.swap y x _)
  have hb := hms.back hgr hown (by omega)
  have hpn := h.ms.pool_ne
  have kt : ∀ {y : Th} {i0 : Value} {C : List Int}, ThAt wr n cc y i0 C → (w1.setCell ⟨mb, 6, none⟩ pv').heap[y.1]? = wr.heap[y.1]? ∧ (w1.setCell ⟨mb, 6, none⟩ pv').heap[y.2]? = wr.heap[y.2]? := fun {y i0 C} hC => by
    obtain ⟨c1, _⟩ := h.ms.th_ne hC
    have d1 : (mr 6).ownBlock ≠ some y.1 := fun e => ((hpn _ e).2.2.2 y i0 C hC).1 rfl
    have d2 : (mr 6).ownBlock ≠ some y.2 := fun e => ((hpn _ e).2.2.2 y i0 C hC).2 rfl
    exact ⟨(Below.heap_setCell _ _ _ _ c1.1).trans (hgr.block _ (blk_lt hC.1) (fun e => d1 e.symm)), (Below.heap_setCell _ _ _ _ c1.2).trans (hgr.block _ hC.2.lt (fun e => d2 e.symm))⟩
  have hmc1 : mcb ≠ mb := by obtain ⟨r, k, _⟩ := h.cp; exact blk_ne k h.ms.ma (by decide)
  have hmc2 : (mr 6).ownBlock ≠ some mcb := by obtain ⟨r, k, _⟩ := h.cp; exact own_not h.ms.pl.own k (by decide)
  have hnm := h.nm
  rw [ht] at hnm
  refine ⟨hb, h.rE.keep fun z hz => ?_, e4.keep fun z hz => ?_, by rw [up_ne _ _ (by omega)]; exact h.m7, by rw [up_ne _ _ (by omega)]; exact h.m8, h.cp.keep ((Below.heap_setCell _ _ _ _ hmc1).trans (hgr.block _ h.cp.lt (fun e => hmc2 e.symm))), h.cl, fun z hz => hnm z ?_, by rw [up_ne _ _ (by omega)]; exact h.rd, fun i a b c => by rw [up_ne _ _ b]; exact h.mm i a b c, h.rq, by simp; omega, ?_⟩
  · obtain ⟨i0, C, hC⟩ := h.ms.th z (by simp [hz])
    exact kt hC
  · obtain ⟨i0, C, hC⟩ := h.ms.th z (by rw [ht]; simp [hz])
    exact kt hC
  · simp only [List.mem_append, Option.toList_some, List.mem_cons, List.not_mem_nil, or_false] at hz ⊢
    rcases hz with a | (a | a) | a | a
    · exact .inl a
    · exact .inr (.inl (.inl a))
    · exact .inr (.inl (.inr (.inr a)))
    · exact .inr (.inr a)
    · exact .inr (.inl (.inr (.inl a)))
  · refine h.kp.trans ((Kpt.grown hgr h.ms.pl.own).trans ?_)
    intro g cs t ht h1 h2 h3
    have hma1 : w1.heap[mb]? = some (mach mr) := (hgr.block _ (blk_lt h.ms.ma) (fun e => (hpn _ e.symm).1 rfl)).trans h.ms.ma
    have hg : g ≠ mb := blk_ne h3 hma1 (by rcases ht with rfl | rfl <;> decide)
    exact (Below.heap_setCell _ _ _ _ hg).trans h3
end
theorem _root_.Go.Proofs.YtmccgfjhmbioeaaDoor.Sf.Folds.below' {W0 w : World} (h : Folds W0) (hb : Below W0.heap.size W0 w) : Folds w := h.below hb
set_option maxRecDepth 100000 in
set_option maxHeartbeats 8000000 in
theorem mstep_calls {L : List I} {st ncp most : Int} (h : PSound L st ncp most) (hm : L.length ≤ 2000) (cond F : Int) (hmatch : ∀ a, 0 < a → a < 64 → ∃ k, regexp_lazyFlag_match.f k F a = some (holds cond a)) (W0 : World) (p : Nat) (ad : Addr) (hP : Prg W0 L p ad) (hF : Folds W0)
    (mb qo sp de lf S n cc mcb ra rde rb pl0 : Nat) (hn : n = 0 ∨ 2 ≤ n) (long : Bool) (hre : W0.cell? ⟨rb, 15, none⟩ = some (.bool long)) (c pos np : Int) (R : List En) (RA : List Ae) (mc : Nat → Value) (w : World) (pool : List Th) (mt : Bool) (M : List Int)
    (hm0 : mc 0 = .pointer (some ⟨rb, 0, none⟩)) (rd : Array Value) (hrd : w.heap[rde]? = some (.cells rd 137 (0, 0))) (hrE : ∀ (i : Nat) (e : En), R[i]? = some e → rd[i * 2]? = some (.int .u32 e.1) ∧ rd[i * 2 + 1]? = some (ptrT e.2)) (hne : rde ≠ sp ∧ rde ≠ de)
    (hRp : ∀ e ∈ R, e.1 < L.length ∧ (e.2.isSome = true → waitsB (ins L e.1) = true))
    (hS : SI L.length W0 p mb qo sp de lf S n cc F ad R RA mcb ra rde pl0 mc w none 0 w mc [] pool [] mt M) (hpl : pl0 + R.length ≤ 1900000) (hRL : R.length ≤ S) :
    Calls Tryd.prog 45 #[.pointer (some ⟨mb, 0, none⟩), .pointer (some ⟨mb, ra, none⟩), .pointer (some ⟨mb, qo, none⟩), .int .i64 pos, .int .i64 np, .int .i32 c, .pointer (some ⟨lf, 0, none⟩)] w fun e w' =>
      ∃ mr E pool', e = .returned (.tuple #[]) ∧ SI L.length W0 p mb qo sp de lf S n cc F ad [] [] mcb ra rde (pl0 + R.length) (up mc (ra + 1) (.slice (some ⟨rde, 0, none⟩) 0 S)) w none 0 w' mr E pool' (stepF L long n c cond pos np RA ([], mt, M)).1 (stepF L long n c cond pos np RA ([], mt, M)).2.1 (stepF L long n c cond pos np RA ([], mt, M)).2.2 := by
  obtain ⟨Fin, hFin⟩ : ∃ Fin, Fin = stepF L long n c cond pos np RA ([], mt, M) := ⟨_, rfl⟩
  rw [← hFin]
  have HFIN := Lib.hid hFin.symm
  have HS := Lib.hid h
  have HP := Lib.hid hP
  have HF := Lib.hid hF
  have HMT := Lib.hid hmatch
  have HRE := Lib.hid hre
  have HM0 := Lib.hid hm0
  have HRD := Lib.hid hrd
  have HRdE := Lib.hid hrE
  have HNE := Lib.hid hne
  have HRP := Lib.hid hRp
  have HI0 := Lib.hid hS
  have HN := Lib.hid hn
  have hrl : R.length ≤ 1900000 := by omega
  have hz0 : w.cell? ⟨mb, 0, none⟩ = some (.pointer (some ⟨rb, 0, none⟩)) := by rw [mach_cell hS.ms.ma 0 (by omega), hm0]
  have hz1 : w.cell? ⟨rb, 15, none⟩ = some (.bool long) := (hS.ms.bl.cell (World.block_lt_of_cell? W0 _ hre)).trans hre
  clear hFin h hP hF hmatch hre hm0 hrd hrE hne hRp hS hn
  go_enter Tryd.func45, Tryd.ntmps45
  go_wp2_with fail
  clear hz0 hz1
  go_loopg [15] (R.length + 1) (fun gk s15 wr => ∃ (j : Nat) (mr : Nat → Value) (E : List En) (pool : List Th) (A : List Ae) (mt : Bool) (M : List Int), s15 = .int .i64 j ∧ j ≤ R.length ∧ Hid ((SI L.length W0 p mb qo sp de lf S n cc F ad R RA mcb ra rde pl0 mc w none j wr mr E pool A mt M ∧ stepF L long n c cond pos np (RA.drop j) (A, mt, M) = Fin ∧ gk + j = R.length + 1) ∨
    (SI L.length W0 p mb qo sp de lf S n cc F ad [] [] mcb ra rde (pl0 + R.length) (up mc (ra + 1) (.slice (some ⟨rde, 0, none⟩) 0 S)) w none 0 wr mr E pool A mt M ∧ (A, mt, M) = Fin)))
  case atStart => exact ⟨0, mc, [], pool, [], mt, M, rfl, Nat.zero_le _, Lib.hid (.inl ⟨HI0.out, HFIN.out, by omega⟩)⟩
  case round =>
    obtain ⟨j, mr, E, pool, A, mt, M, rfl, hj, HD⟩ := hrel
    clear HI0 HFIN
    rcases HD.out with ⟨hI, hst, hgk⟩ | ⟨hI, hst⟩
    rotate_left
    · have HI := Lib.hid hI
      as_aux_lemma =>
        have hz := (mach_cell hI.ms.ma (ra + 1) (by have := hI.rq; omega)).trans (congrArg some hI.rd)
        have hfz := blk_frozen hI.ms.ma (ra + 1)
        have HST := Lib.hid hst
        have hj0 : decide ((j : Int) < 0) = false := decide_eq_false (by omega)
        clear hI hst HD
        go_wp2_with fail
        go_end0
        have hf := HI.out.cut0
        refine ⟨mr, E, pool, rfl, ?_⟩
        rw [← HST.out]
        exact hf
    · have HI := Lib.hid hI
      have HST := Lib.hid hst
      have HGK := Lib.hid hgk
      have hz := (mach_cell hI.ms.ma (ra + 1) (by have := hI.rq; omega)).trans (congrArg some hI.rd)
      have hfz := blk_frozen hI.ms.ma (ra + 1)
      clear hI hst hgk HD
      by_cases hlt : j < R.length
      · have hd1 : decide (j < R.length) = true := decide_eq_true hlt
        have hrdw := HI.out.kp rde rd 137 (.inr rfl) HNE.out.1 HNE.out.2 HRD.out
        obtain ⟨hx0, hx1⟩ := HRdE.out j R[j] (List.getElem?_eq_getElem hlt)
        have hy1 : wr.cell? ⟨rde, j * 2 + 1, none⟩ = some (ptrT R[j].2) := (blk_cell hrdw _).trans hx1
        clear hrdw hx0 hx1
        cases hR2 : R[j].2 with
        | none =>
          as_aux_lemma =>
            rw [hR2] at hy1
            obtain ⟨⟨pc, hpc⟩, hI2⟩ := HI.out.none_ hlt hR2
            have HI2 := Lib.hid hI2
            have HS2 : Hid (stepF L long n c cond pos np (RA.drop (j + 1)) (A, mt, M) = Fin) := Lib.hid (by have := HST.out; rw [hpc, stepF] at this; exact this)
            clear hR2 hpc hI2
            simp only [ptrT] at hy1
            go_wp2_with fail
            go_roundg (gk - 1)
            case measure => have := HGK.out; omega
            case rel => exact ⟨j + 1, mr, E, pool, A, mt, M, by go_num, by omega, Lib.hid (.inl ⟨HI2.out, HS2.out, by have := HGK.out; omega⟩)⟩
        | some x =>
          rw [hR2] at hy1
          obtain ⟨⟨pc, C, hRj, hRA, hth⟩, hI2⟩ := HI.out.some_ hlt hR2
          have HI2 := Lib.hid hI2
          have HTH := Lib.hid hth
          obtain ⟨hpcL, hpcw⟩ := HRP.out R[j] (List.getElem_mem hlt)
          rw [hRj] at hpcL hpcw
          have hpcw := hpcw rfl
          have HS2 := HST.out
          rw [hRA, stepF] at HS2
          have HST2 := Lib.hid HS2
          have hCn : C.length = n := by obtain ⟨_, _, h, _⟩ := hth.2; exact h
          have hMn : M.length = n := by obtain ⟨_, _, h, _⟩ := hI2.cp; exact h
          have HPL : Hid (pool.length + 1 ≤ 1900001) := Lib.hid (by have := hI2.pl; simp at this; omega)
          have HTA := HTH
          obtain ⟨ht0, ht1⟩ := blk2 hth.1
          have h7 := (mach_cell hI2.ms.ma 7 (by omega)).trans (congrArg some hI2.m7)
          have h8 := (mach_cell hI2.ms.ma 8 (by omega)).trans (congrArg some hI2.m8)
          have hncc := hI2.ms.nc
          have hcm := hI2.ms.cm
          obtain ⟨b1, hb1⟩ : ∃ b1, b1 = (long && mt && (decide (0 < n) && decide (M.getD 0 0 < C.getD 0 0))) := ⟨_, rfl⟩
          rw [← hb1] at HST2
          have HB1 := Lib.hid hb1
          have hM0 : 0 < n → wr.cell? ⟨mcb, 0, none⟩ = some (.int .i64 (M.getD 0 0)) := fun h0 => by
            rw [hI2.cp.cell (k := 0) (by omega), List.getD_eq_getElem?_getD, List.getElem?_eq_getElem (by omega)]; rfl
          have hC0 : 0 < n → wr.cell? ⟨x.2, 0, none⟩ = some (.int .i64 (C.getD 0 0)) := fun h0 => by
            rw [hth.2.cell (k := 0) (by omega), List.getD_eq_getElem?_getD, List.getElem?_eq_getElem (by omega)]; rfl
          have HM0 := Lib.hid hM0
          have HC0 := Lib.hid hC0
          have HMN := Lib.hid (And.intro hCn hMn)
          clear hR2 hRj hRA hth hI2 hb1 hM0 hC0 HS2 hCn hMn
          simp only [ptrT] at hy1
          go_upto_region 7 with (fail)
          go_cut [17, 79] (fun v17 v wc => (v17 = .pointer (some ⟨x.1, 0, none⟩) ∧ v = .bool b1) ∧ ∃ m, wc = wr.drewN m)
          case first =>
            as_aux_lemma =>
              generalize hmv : M.getD 0 0 = mv at *
              generalize hcv : C.getD 0 0 = cv at *
              clear hmv hcv HST2 hz hfz
              cases long with
              | false =>
                obtain rfl : b1 = false := HB1.out
                go_quiet (fail)
                go_wp2_with fail
                go_meet
                exact ⟨⟨rfl, rfl⟩, nq, rfl⟩
              | true =>
                cases mt with
                | false =>
                  obtain rfl : b1 = false := HB1.out
                  go_quiet (fail)
                  go_wp2_with fail
                  go_meet
                  exact ⟨⟨rfl, rfl⟩, nq, rfl⟩
                | true =>
                  by_cases n0 : n = 0
                  · have hd2 : decide ((n : Int) > 0) = false := decide_eq_false (by omega)
                    have hd3 : decide (0 < (n : Int)) = false := decide_eq_false (by omega)
                    obtain rfl : b1 = false := by rw [HB1.out, decide_eq_false (show ¬ 0 < n by omega)]; rfl
                    go_quiet (fail)
                    go_wp2_with fail
                    go_meet
                    exact ⟨⟨rfl, rfl⟩, nq, rfl⟩
                  · have hd2 : decide ((n : Int) > 0) = true := decide_eq_true (by omega)
                    have hd3 : decide (0 < (n : Int)) = true := decide_eq_true (by omega)
                    have hn1 : 0 < n := by omega
                    have hm0 := HM0.out hn1
                    have hc0 := HC0.out hn1
                    have hbb : b1 = decide (mv < cv) := by rw [HB1.out, decide_eq_true hn1]; rfl
                    by_cases hmc : mv < cv
                    · have hd4 : decide (mv < cv) = true := decide_eq_true hmc
                      obtain rfl : b1 = true := hbb.trans hd4
                      clear hbb
                      go_quiet (fail)
                      go_wp2_with fail
                      go_meet
                      exact ⟨⟨rfl, rfl⟩, nq, rfl⟩
                    · have hd4 : decide (mv < cv) = false := decide_eq_false hmc
                      obtain rfl : b1 = false := hbb.trans hd4
                      clear hbb
                      go_quiet (fail)
                      go_wp2_with fail
                      go_meet
                      exact ⟨⟨rfl, rfl⟩, nq, rfl⟩
          case rest =>
            obtain ⟨⟨rfl, rfl⟩, m, rfl⟩ := hcut
            have HI3 := Lib.hid (HI2.out.drewN m)
            have HTH3 := Lib.hid (HTH.out.keep (w' := wr.drewN m) rfl rfl)
            have HRM := Lib.hid (show Kpt sp de wr (wr.drewN m) from fun _ _ _ _ _ _ h => h)
            clear hy1 hz hfz ht0 ht1 h7 h8 HM0 HC0
            generalize wr.drewN m = w2 at *
            obtain ⟨ht0, ht1⟩ := blk2 HTH3.out.1
            have h6 := mach_cell HI3.out.ms.ma 6 (by omega)
            have hf6 := blk_frozen HI3.out.ms.ma 6
            cases b1 with
            | true =>
              as_aux_lemma =>
                have HS3 : Hid (stepF L long n c cond pos np (RA.drop (j + 1)) (A, mt, M) = Fin) := Lib.hid (by
                  have := HST2.out
                  rw [if_pos rfl] at this
                  exact this)
                go_wp2_with (at_builtin; refine My.app1 rfl (.tmp 84) (.tmp 86) 68 rfl 107 (.pointer none) 8 Tryd.underlying68 ithp rfl _ pool.length _ rfl W0.heap.size W0 (HI3.out.ms.pl.own.alloc _) (below_alloc HI3.out.ms.bl _) (Nat.le_refl _) w2.heap.size rfl (.pointer (some ⟨x.1, 0, none⟩)) (by simp) rfl (by have := HPL.out; omega) (by unfold maxLen; have := HPL.out; omega) ?_; intro v1 w3 hown1 hbel1 hg1; obtain ⟨gg, cpp, rfl, -, -⟩ := hown1.out.form (by omega); have HG := Lib.hid (grown_trans (grown_alloc (grown_refl w2 _) _) hg1.out); have HMA := Lib.hid (HI3.out.ms.ma_grown HG.out); have hfz3 := blk_frozen HMA.out 6; have hz63 := mach_cell HMA.out 6 (by omega))
                go_roundg (gk - 1)
                case measure => have := HGK.out; omega
                case rel => exact ⟨j + 1, _, E, _, A, mt, M, by go_num, by omega, Lib.hid (.inl ⟨HI3.out.pool_ HG.out hown1.out (by omega), HS3.out, by have := HGK.out; omega⟩)⟩
            | false =>
              have HS3 : Hid ((if (ins L pc).f0 = 4 then (if long = true then stepF L long n c cond pos np (RA.drop (j + 1)) else id) (A, true, if (decide (0 < n) && (!long || (!mt || decide (M.getD 1 0 < pos)))) = true then C.set 1 pos else M)
                  else if takesB (ins L pc) c = true then stepF L long n c cond pos np (RA.drop (j + 1)) (A ++ aF L cond np (L.length + 1) (A.map Prod.fst) (ins L pc).f1.toNat C, mt, M) else stepF L long n c cond pos np (RA.drop (j + 1)) (A, mt, M)) = Fin) := Lib.hid (by
                have := HST2.out
                rw [if_neg (by simp)] at this
                exact this)
              obtain ⟨_, _, _, _, _, hpi⟩ := HP.out.below HI3.out.ms.bl
              obtain ⟨A3, c3, hx0, hx1, hx2, hx3, hl3, hg3⟩ := hpi pc hpcL
              have HG3 := Lib.hid (And.intro hl3 hg3)
              rw [pin_op] at hx0
              clear hpi hl3 hg3 HST2
              obtain ⟨op0, op1, op2⟩ := HS.out.op pc hpcL
              by_cases h4 : (ins L pc).f0 = 4
              · rw [h4] at hx0
                have HS4 := HS3.out
                rw [if_pos h4] at HS4
                have HS5 := Lib.hid HS4
                clear HS4 HS3 h4
                go_upto_region 14 with (fail)
                obtain ⟨b2, hb2⟩ : ∃ b2, b2 = (decide (0 < n) && (!long || (!mt || decide (M.getD 1 0 < pos)))) := ⟨_, rfl⟩
                rw [← hb2] at HS5
                have HB2 := Lib.hid hb2
                have h7 := (mach_cell HI3.out.ms.ma 7 (by omega)).trans (congrArg some HI3.out.m7)
                have h8 := (mach_cell HI3.out.ms.ma 8 (by omega)).trans (congrArg some HI3.out.m8)
                have HM1 := Lib.hid (show 0 < n → w2.cell? ⟨mcb, 1, none⟩ = some (.int .i64 (M.getD 1 0)) from fun h0 => by
                  have hn2 : 2 ≤ n := by have := HN.out; omega
                  rw [HI3.out.cp.cell (k := 1) (by rw [HMN.out.2]; omega), List.getD_eq_getElem?_getD, List.getElem?_eq_getElem (by rw [HMN.out.2]; omega)]; rfl)
                have HNN := Lib.hid (show 0 < n → 1 < n from fun h0 => by have := HN.out; omega)
                clear hb2 hx0 hx1 hx2 hx3 h6 hf6
                go_cut [17, 127] (fun v17 v wc => v17 = .pointer (some ⟨x.1, 0, none⟩) ∧ v = .bool b2 ∧ w2 = wc)
                case first =>
                  as_aux_lemma =>
                    generalize hmv : M.getD 1 0 = mv at *
                    clear hmv HS5
                    by_cases n0 : n = 0
                    · have hd2 : decide ((n : Int) > 0) = false := decide_eq_false (by omega)
                      have hd3 : decide (0 < (n : Int)) = false := decide_eq_false (by omega)
                      obtain rfl : b2 = false := by rw [HB2.out, decide_eq_false (show ¬ 0 < n by omega)]; rfl
                      go_wp2_with fail
                      go_meet
                      exact ⟨rfl, rfl, rfl⟩
                    · have hd2 : decide ((n : Int) > 0) = true := decide_eq_true (by omega)
                      have hd3 : decide (0 < (n : Int)) = true := decide_eq_true (by omega)
                      have hn1 : 0 < n := by omega
                      have hn2 := HNN.out hn1
                      have hm1 := HM1.out hn1
                      have hbb : b2 = (!long || (!mt || decide (mv < pos))) := by rw [HB2.out, decide_eq_true hn1]; rfl
                      cases long with
                      | false =>
                        obtain rfl : b2 = true := hbb
                        go_wp2_with fail
                        go_meet
                        exact ⟨rfl, rfl, rfl⟩
                      | true =>
                        cases mt with
                        | false =>
                          obtain rfl : b2 = true := hbb
                          go_wp2_with fail
                          go_meet
                          exact ⟨rfl, rfl, rfl⟩
                        | true =>
                          by_cases hmc : mv < pos
                          · have hd4 : decide (mv < pos) = true := decide_eq_true hmc
                            obtain rfl : b2 = true := hbb.trans hd4
                            clear hbb
                            go_wp2_with fail
                            go_meet
                            exact ⟨rfl, rfl, rfl⟩
                          · have hd4 : decide (mv < pos) = false := decide_eq_false hmc
                            obtain rfl : b2 = false := hbb.trans hd4
                            clear hbb
                            go_wp2_with fail
                            go_meet
                            exact ⟨rfl, rfl, rfl⟩
                case rest =>
                  obtain ⟨rfl, rfl, rfl⟩ := hcut
                  obtain ⟨M', hM'⟩ : ∃ M', M' = (if b2 = true then C.set 1 pos else M) := ⟨_, rfl⟩
                  rw [← hM'] at HS5
                  go_upto_if 127 with (fail)
                  go_cut [17] (fun v17 wc => v17 = .pointer (some ⟨x.1, 0, none⟩) ∧ Hid (SI L.length W0 p mb qo sp de lf S n cc F ad R RA mcb ra rde pl0 mc w (some x) (j + 1) wc mr E pool A mt M'))
                  case first =>
                    as_aux_lemma =>
                      clear HS5 HM1 h7
                      cases b2 with
                      | false =>
                        obtain rfl : M' = M := hM'
                        go_wp2_with fail
                        go_meet
                        exact ⟨rfl, HI3⟩
                      | true =>
                        obtain rfl : M' = C.set 1 pos := hM'
                        have hn0 : 0 < n := by
                          by_cases h0 : 0 < n
                          · exact h0
                          · have := HB2.out
                            rw [decide_eq_false h0] at this
                            cases this
                        have hn1 := HNN.out hn0
                        have hc1 := HTH3.out.2.cell (k := 1) (by rw [HMN.out.1]; omega)
                        have hfc : w2.frozen? ⟨x.2, 1, none⟩ = false := by obtain ⟨_, h, _⟩ := HTH3.out.2; exact blk_frozen h 1
                        have HCS := Lib.hid (HTH3.out.2.set hn1 pos)
                        have HI4 := Lib.hid (HI3.out.capx HTH3.out ((Fr.refl (fun b => b = x.2) w2).set _ rfl) HCS.out)
                        have HT4 := Lib.hid (show ThAt (w2.setCell ⟨x.2, 1, none⟩ (.int .i64 pos)) n cc x (.pointer (some (ad.add (pc * 4)))) (C.set 1 pos) from ⟨(Below.heap_setCell _ _ _ _ HTH3.out.ne).trans HTH3.out.1, HCS.out⟩)
                        have hxb : x.2 ≠ mb := (HI3.out.ms.th_ne HTH3.out).1.2
                        have hxx : x.2 ≠ x.1 := Ne.symm HTH3.out.ne
                        go_wp2_with fail
                        generalize w2.setCell ⟨x.2, 1, none⟩ (.int .i64 pos) = w3 at *
                        clear hc1 hfc ht0 ht1 h8
                        obtain ⟨ht0, ht1⟩ := blk2 HT4.out.1
                        have h8 := (mach_cell HI4.out.ms.ma 8 (by omega)).trans (congrArg some HI4.out.m8)
                        go_still_tail 8, (by kernel_rfl)
                        change wpList _ _ _ _ _ w3.drew
                        obtain ⟨w5, hrun, hfr5, hc5⟩ := run_copy_cap w3.drew mcb x.2 n cc (C.set 1 pos) M (HI4.out.drewN 1).cp (HT4.out.2.keep rfl)
                        have HI5 := Lib.hid ((HI4.out.drewN 1).capm hfr5 hc5)
                        clear hfr5 hc5
                        go_wp2_with fail
                        go_meet
                        exact ⟨rfl, HI5⟩
                  case rest =>
                    obtain ⟨rfl, HI4⟩ := hcut
                    clear HI3 HTH3 HM1 h7 h8 ht0 ht1 HRM HB2 hM'
                    have h7 := (mach_cell HI4.out.ms.ma 7 (by omega)).trans (congrArg some HI4.out.m7)
                    have hf7 := blk_frozen HI4.out.ms.ma 7
                    have h6 := mach_cell HI4.out.ms.ma 6 (by omega)
                    cases long with
                    | true =>
                      have HS6 : Hid (stepF L true n c cond pos np (RA.drop (j + 1)) (A, true, M') = Fin) := Lib.hid (by
                        have := HS5.out
                        rw [if_pos rfl] at this
                        exact this)
                      have HI5 := Lib.hid (HI4.out.told true)
                      have h66 : up mr 7 (.bool true) 6 = mr 6 := up_ne _ _ (by decide)
                      have hw6 : wc.heap.size = (wc.setCell ⟨mb, 7, none⟩ (.bool true)).heap.size := by simp [World.setCell]
                      have HOW := Lib.hid (show (wc.setCell ⟨mb, 7, none⟩ (.bool true)).ownsRow W0.heap.size 107 1 (mr 6) pool.length (pool.map fun x => .pointer (some ⟨x.1, 0, none⟩)) by rw [← h66]; exact HI5.out.ms.pl.own)
                      have h65 := mach_cell HI5.out.ms.ma 6 (by omega)
                      rw [h66] at h65
                      have H66 := Lib.hid h66
                      clear HS5 h66 hw6
                      go_upto_region 36 with (fail)
                      clear h6 h7 hf7
                      generalize wc.setCell ⟨mb, 7, none⟩ (.bool true) = w6 at *
                      go_wp2_with (at_builtin; refine My.app1 rfl (.tmp 225) (.tmp 227) 68 rfl 107 (.pointer none) 8 Tryd.underlying68 ithp rfl _ pool.length _ rfl W0.heap.size W0 (HOW.out.alloc _) (below_alloc HI5.out.ms.bl _) (Nat.le_refl _) w6.heap.size rfl (.pointer (some ⟨x.1, 0, none⟩)) (by simp) rfl (by have := HPL.out; omega) (by unfold maxLen; have := HPL.out; omega) ?_; intro v1 w5 hown1 hbel1 hg1; obtain ⟨gg, cpp, rfl, -, -⟩ := hown1.out.form (by omega); have HG := Lib.hid (show w6.grownBy w5 (up mr 7 (.bool true) 6).ownBlock by rw [H66.out]; exact grown_trans (grown_alloc (grown_refl _ _) _) hg1.out); have HMA := Lib.hid (HI5.out.ms.ma_grown HG.out); have hfz3 := blk_frozen HMA.out 6; have hz63 := mach_cell HMA.out 6 (by omega))
                      go_roundg (gk - 1)
                      case measure => have := HGK.out; omega
                      case rel => exact ⟨j + 1, _, E, _, A, true, M', by go_num, by omega, Lib.hid (.inl ⟨HI5.out.pool_ HG.out hown1.out (by omega), HS6.out, by have := HGK.out; omega⟩)⟩
                    | false =>
                      have HS6 : Hid ((A, true, M') = Fin) := Lib.hid (by
                        have := HS5.out
                        rw [if_neg (by simp)] at this
                        exact this)
                      as_aux_lemma =>
                        have HGK2 := HGK
                        have hz := (mach_cell HI4.out.ms.ma (ra + 1) (by have := HI4.out.rq; omega)).trans (congrArg some HI4.out.rd)
                        have hj1 : (j : Int) + 1 ≤ (R.length : Int) := by omega
                        have hj2 : ((j : Int) + 1).toNat = j + 1 := by omega
                        clear HS5 h7 hf7 h6
                        go_upto_region 18 with (fail)
                        go_cut [151, 152, 153] (fun v1 v2 v3 wc2 => ∃ off : Nat, v1 = .slice (some ⟨rde, off, none⟩) (R.length - (j + 1)) (S - (j + 1)) ∧ v2 = .int .i64 ((R.length - (j + 1) : Nat) : Int) ∧ v3 = .int .i64 0 ∧ (j + 1 < R.length → off = (j + 1) * 2) ∧ wc = wc2)
                        case first =>
                          go_wp2_with fail
                          · go_meet
                            exact ⟨0, by rw [show S - (j + 1) = 0 by omega], by go_num, rfl, fun h2 => by omega, rfl⟩
                          · go_meet
                            exact ⟨_, rfl, by go_num, rfl, fun h2 => by omega, rfl⟩
                        case rest =>
                          obtain ⟨off, rfl, rfl, rfl, hoff, rfl⟩ := hcut
                          have HOFF := Lib.hid hoff
                          clear hz hj1 hj2 hoff
                          have hk0 : gk = gk := rfl
                          obtain ⟨gz, hgz⟩ : ∃ gz, gz = gk := ⟨_, rfl⟩
                          have HGZ : Hid (gz + j = R.length + 1) := Lib.hid (by have := HGK.out; omega)
                          clear hk0
                          go_wp2_with fail
                          go_loopg [153] (R.length - (j + 1) + 1) (fun gk s153 wr2 => ∃ (q : Nat) (mr2 : Nat → Value) (pool2 : List Th), s153 = .int .i64 q ∧ q ≤ R.length - (j + 1) ∧ Hid (gk + q = R.length - (j + 1) + 1 ∧ SI L.length W0 p mb qo sp de lf S n cc F ad R RA mcb ra rde pl0 mc w (some x) (j + 1 + q) wr2 mr2 E pool2 A mt M'))
                          case atStart => exact ⟨0, mr, pool, rfl, Nat.zero_le _, Lib.hid ⟨by omega, HI4.out⟩⟩
                          case round =>
                            obtain ⟨q, mr2, pool2, rfl, hq, HQ⟩ := hrel
                            have hgk2 : gk + q = R.length - (j + 1) + 1 := HQ.out.1
                            have HI5 := Lib.hid HQ.out.2
                            clear HI4 HQ
                            by_cases hql : q < R.length - (j + 1)
                            · have hd5 : decide (q < R.length - (j + 1)) = true := decide_eq_true hql
                              have hjl : j + 1 + q < R.length := by omega
                              obtain rfl : off = (j + 1) * 2 := HOFF.out (by omega)
                              have hrdw := HI5.out.kp rde rd 137 (.inr rfl) HNE.out.1 HNE.out.2 HRD.out
                              obtain ⟨hx0, hx1⟩ := HRdE.out (j + 1 + q) R[j + 1 + q] (List.getElem?_eq_getElem hjl)
                              have hy0 : wr.cell? ⟨rde, (j + 1) * 2 + q * 2, none⟩ = some (.int .u32 R[j + 1 + q].1) := by rw [show (j + 1) * 2 + q * 2 = (j + 1 + q) * 2 by omega]; exact (blk_cell hrdw _).trans hx0
                              have hy1 : wr.cell? ⟨rde, (j + 1) * 2 + q * 2 + 1, none⟩ = some (ptrT R[j + 1 + q].2) := by rw [show (j + 1) * 2 + q * 2 + 1 = (j + 1 + q) * 2 + 1 by omega]; exact (blk_cell hrdw _).trans hx1
                              clear hrdw hx0 hx1
                              cases hR2 : R[j + 1 + q].2 with
                              | none =>
                                rw [hR2] at hy1
                                have HI6 := Lib.hid (HI5.out.pass hjl hR2)
                                simp only [ptrT] at hy1
                                clear hR2
                                go_wp2_with fail
                                go_roundg (gk - 1)
                                case measure => omega
                                case rel =>
                                  refine ⟨q + 1, mr2, pool2, by go_num, by omega, Lib.hid ⟨by omega, ?_⟩⟩
                                  exact HI6.out.grow (below_alloc (Below.refl _ _) _)
                              | some y =>
                                rw [hR2] at hy1
                                simp only [ptrT] at hy1
                                go_upto_region 22 with (fail)
                                have HI6 := Lib.hid (HI5.out.grow (below_alloc (Below.refl _ wr) (.cells #[.int .u32 R[j + 1 + q].1, .pointer (some ⟨y.1, 0, none⟩)] 137)))
                                have hnw := heap_alloc_new wr (.cells #[.int .u32 R[j + 1 + q].1, .pointer (some ⟨y.1, 0, none⟩)] 137)
                                clear hy0 hy1 HI5
                                generalize wr.alloc (.cells #[.int .u32 R[j + 1 + q].1, .pointer (some ⟨y.1, 0, none⟩)] 137) = w6 at *
                                generalize wr.heap.size = gb at *
                                have hc1 : w6.cell? ⟨gb, 1, none⟩ = some (.pointer (some ⟨y.1, 0, none⟩)) := (blk_cell hnw 1).trans rfl
                                clear hnw
                                have HPL2 : Hid (pool2.length + 1 ≤ 1900001) := Lib.hid (by have := HI6.out.pl; simp at this; omega)
                                have h6 := mach_cell HI6.out.ms.ma 6 (by omega)
                                have hf6 := blk_frozen HI6.out.ms.ma 6
                                have h6a : ∀ o, (w6.alloc o).cell? ⟨mb, 6, none⟩ = some (mr2 6) := fun o => mach_cell (blk_alloc HI6.out.ms.ma o) 6 (by omega)
                                have hcda : ∀ o, (w6.alloc o).cell? ⟨gb, 1, none⟩ = some (.pointer (some ⟨y.1, 0, none⟩)) := fun o => (Below.cell (below_alloc (Below.refl _ w6) o) (World.block_lt_of_cell? w6 _ hc1)).trans hc1
                                obtain ⟨i0, hi0, hi1, hi2, hi3⟩ := info_parts ithp
                                go_region_law
                                  (first
                                    | (refine step_append_lies _ (by rfl) _ _ _ (by rfl) W0.heap.size 107 i0 _ 1 8 Tryd.underlying68 hi0 hi1 hi2 hi3 rfl (by omega) (mr2 6) pool2.length (pool2.map fun (z : Th) => Value.pointer (some ⟨z.1, 0, none⟩)) (by rfl) (own_drew (HI6.out.ms.pl.own.alloc (.cells #[.pointer (some ⟨y.1, 0, none⟩)] 107))) ⟨w6.heap.size, 0, none⟩ 1 1 [.pointer (some ⟨y.1, 0, none⟩)] (by rfl) (by rfl) (World.news_of_block (cs := #[.pointer (some ⟨y.1, 0, none⟩)]) (t := 107) (fr := (0, 0)) (heap_alloc_new w6 _)) (by simp [Value.oneCell']) (by omega) (by have := HPL2.out; unfold maxLen; omega) (by have := HPL2.out; omega) (by have := HI6.out.ms.bl.size; simp; omega) (w6.heap.size + 1) (by simp) ?_; intro gg cap w3 hown1 hgrow1 hat1 hlt1; have HOWN := Lib.hid hown1; have HG : Hid (w6.grownBy w3 (mr2 6).ownBlock) := Lib.hid (grown_trans (grown_drew' (grown_alloc (grown_refl w6 _) (.cells #[.pointer (some ⟨y.1, 0, none⟩)] 107))) hgrow1); have HMA := Lib.hid (HI6.out.ms.ma_grown HG.out); have hfz3 := blk_frozen HMA.out 6; have hz63 := mach_cell HMA.out 6 (by omega); clear hown1 hgrow1 hat1 hlt1))
                                all_goals
                                  go_wp2_with fail
                                  go_roundg (gk - 1)
                                  case measure => omega
                                  case rel => exact ⟨q + 1, _, _, by go_num, by omega, Lib.hid ⟨by omega, HI6.out.drop_ hjl hR2 HG.out HOWN.out (by omega)⟩⟩
                            · have hd5 : decide (q < R.length - (j + 1)) = false := decide_eq_false hql
                              have hqe : q = R.length - (j + 1) := by omega
                              have h7 := (mach_cell HI5.out.ms.ma 7 (by omega)).trans (congrArg some HI5.out.m7)
                              have hf7 := blk_frozen HI5.out.ms.ma 7
                              have hz := (mach_cell HI5.out.ms.ma (ra + 1) (by have := HI5.out.rq; omega)).trans (congrArg some HI5.out.rd)
                              have hfz := blk_frozen HI5.out.ms.ma (ra + 1)
                              have hqe2 : j + 1 + q = R.length := by omega
                              have HI6 : Hid (SI L.length W0 p mb qo sp de lf S n cc F ad [] [] mcb ra rde (pl0 + R.length) (up mc (ra + 1) (.slice (some ⟨rde, 0, none⟩) 0 S)) w (some x) 0 (wr.setCell ⟨mb, ra + 1, none⟩ (.slice (some ⟨rde, 0, none⟩) 0 S)) (up mr2 (ra + 1) (.slice (some ⟨rde, 0, none⟩) 0 S)) E pool2 A mt M') := Lib.hid (by have h := HI5.out; rw [hqe2] at h; exact h.cut)
                              have HI7 := Lib.hid (HI6.out.told true)
                              obtain ⟨mr3, hmr3⟩ : ∃ mr3, mr3 = up (up mr2 (ra + 1) (.slice (some ⟨rde, 0, none⟩) 0 S)) 7 (.bool true) := ⟨_, rfl⟩
                              rw [← hmr3] at HI7
                              have h6 := mach_cell HI7.out.ms.ma 6 (by omega)
                              have hf6 := blk_frozen HI7.out.ms.ma 6
                              have HPL2 : Hid (pool2.length + 1 ≤ 1900001) := Lib.hid (by have := HI5.out.pl; simp at this; omega)
                              have hf7b := blk_frozen HI6.out.ms.ma 7
                              have h7b := mach_cell HI6.out.ms.ma 7 (by omega)
                              clear h7 hf7
                              clear HI5 HI6 hmr3
                              go_upto_region 36 with (fail)
                              clear h7b hz hfz hf7b
                              generalize (wr.setCell ⟨mb, ra + 1, none⟩ (.slice (some ⟨rde, 0, none⟩) 0 S)).setCell ⟨mb, 7, none⟩ (.bool true) = w6 at *
                              go_wp2_with (at_builtin; refine My.app1 rfl (.tmp 225) (.tmp 227) 68 rfl 107 (.pointer none) 8 Tryd.underlying68 ithp rfl _ pool2.length _ rfl W0.heap.size W0 (HI7.out.ms.pl.own.alloc _) (below_alloc HI7.out.ms.bl _) (Nat.le_refl _) w6.heap.size rfl (.pointer (some ⟨x.1, 0, none⟩)) (by simp) rfl (by have := HPL2.out; omega) (by unfold maxLen; have := HPL2.out; omega) ?_; intro v1 w3 hown1 hbel1 hg1; obtain ⟨gg, cpp, rfl, -, -⟩ := hown1.out.form (by omega); have HG := Lib.hid (grown_trans (grown_alloc (grown_refl w6 _) _) hg1.out); have HMA := Lib.hid (HI7.out.ms.ma_grown HG.out); have hfz3 := blk_frozen HMA.out 6; have hz63 := mach_cell HMA.out 6 (by omega))
                              go_roundg (gz - 1)
                              case measure => have := HGZ.out; omega
                              case rel => exact ⟨j + 1, _, E, _, A, true, M', by go_num, by omega, Lib.hid (.inr ⟨HI7.out.pool_ HG.out hown1.out (by omega), HS6.out⟩)⟩
              · have hop : (ins L pc).f0 = 7 ∨ (ins L pc).f0 = 8 ∨ (ins L pc).f0 = 9 ∨ (ins L pc).f0 = 10 := (HS.out.tak pc hpcL hpcw h4).op
                have HS5 : Hid ((if takesB (ins L pc) c = true then stepF L long n c cond pos np (RA.drop (j + 1)) (A ++ aF L cond np (L.length + 1) (A.map Prod.fst) (ins L pc).f1.toNat C, mt, M) else stepF L long n c cond pos np (RA.drop (j + 1)) (A, mt, M)) = Fin) := Lib.hid (by
                  have := HS3.out
                  rw [if_neg h4] at this
                  exact this)
                have e4 : ((ins L pc).f0 == 4) = false := by rw [beq_eq_false_iff_ne]; exact h4
                clear HS3
                go_upto_region 11 with (fail)
                go_upto_block 2 with (fail)
                have hpin : pin (ins L pc) = ⟨(ins L pc).f0, (ins L pc).f1, IntKind.u32.wrap (ins L pc).f2, (ins L pc).f3⟩ := by unfold pin; rw [if_neg (by omega)]
                rw [hpin] at hx1 hx2 hx3 HG3
                simp only at hx1 hx2 hx3 HG3
                have HF2 := Lib.hid (HF.out.below' HI3.out.ms.bl)
                have HT7 := Lib.hid (show (ins L pc).f0 = 7 → Tak7 (ins L pc) from fun h7 => HS.out.tak7 pc hpcL h7)
                have HT8 := Lib.hid (show (ins L pc).f0 = 8 → 1 ≤ (ins L pc).f3.length from fun h8 => (HS.out.tak pc hpcL hpcw h4).one h8)
                have HO := Lib.hid (HS.out.outIn pc hpcL (by omega))
                have HL3 := Lib.hid (HG3.out.2.2.1)
                clear hpin h4 h6 hf6
                generalize hb3 : takesB (ins L pc) c = b3 at *
                have HB3 := Lib.hid hb3
                clear hb3
                go_cut [17, 18, 19] (fun v17 v18 v19 wc => (v17 = .pointer (some ⟨x.1, 0, none⟩) ∧ v18 = .pointer (some (ad.add (pc * 4))) ∧ v19 = .bool b3) ∧ ∃ m, wc = w2.drewN m)
                case first =>
                  as_aux_lemma =>
                    clear HS5 hx1
                    rcases hop with ho | ho | ho | ho
                    · have hT7 := HT7.out ho
                      have hw2 : IntKind.u32.wrap (ins L pc).f2 = (ins L pc).f2 := by
                        by_cases h1 : (ins L pc).f3.length = 1
                        · rw [(hT7.one h1).1]; rfl
                        · rw [(hT7.cls h1).1]; rfl
                      rw [hw2] at hx2
                      have hcall := mrune_calls (ad.add (pc * 4)) (ins L pc) hT7 w2 A3 c3 hx2 hx3 HG3.out.2 HG3.out.1 HL3.out HF2.out c
                      rw [HB3.out] at hcall
                      have HCALL := Lib.hid hcall
                      have e7 : ((ins L pc).f0 == 7) = true := by rw [ho]; rfl
                      clear hT7 hcall hw2 hx2 hx3 hx0 ho
                      go_wp2_with fail
                      refine HCALL.out.mono ?_
                      rintro e w4 ⟨rfl, nn, rfl⟩
                      go_wp2_with fail
                      go_meet
                      exact ⟨⟨rfl, rfl, rfl⟩, nn, rfl⟩
                    · have h1 := HT8.out ho
                      obtain ⟨a3, e, hr⟩ := kd_cell HG3.out.2 (Below.refl _ w2) 0 (by omega)
                      rw [add_0] at hr
                      subst e
                      have hb3 : b3 = (c == (ins L pc).f3[0]) := by
                        rw [← HB3.out]
                        unfold takesB
                        rw [if_pos ho, List.getD_eq_getElem?_getD, List.getElem?_eq_getElem (by omega), Option.getD_some, Bool.beq_comm]
                      have HB4 := Lib.hid hb3
                      generalize (ins L pc).f3[0] = r0 at *
                      generalize (ins L pc).f3.length = ln at *
                      have e7 : ((ins L pc).f0 == 7) = false := by rw [ho]; rfl
                      have e8 : ((ins L pc).f0 == 8) = true := by rw [ho]; rfl
                      clear hx2 hx0 ho hb3
                      go_wp2_with fail
                      go_meet
                      exact ⟨⟨rfl, rfl, by rw [HB4.out]⟩, 0, rfl⟩
                    · have hb3 : b3 = true := by rw [← HB3.out]; unfold takesB; rw [if_neg (by omega), if_pos ho]
                      subst hb3
                      have e7 : ((ins L pc).f0 == 7) = false := by rw [ho]; rfl
                      have e8 : ((ins L pc).f0 == 8) = false := by rw [ho]; rfl
                      have e9 : ((ins L pc).f0 == 9) = true := by rw [ho]; rfl
                      clear hx2 hx3 hx0 ho
                      go_wp2_with fail
                      go_meet
                      exact ⟨⟨rfl, rfl, rfl⟩, 0, rfl⟩
                    · have hb3 : b3 = (c != 10) := by rw [← HB3.out]; unfold takesB; rw [if_neg (by omega), if_neg (by omega), if_pos ho]
                      have HB4 := Lib.hid hb3
                      have e7 : ((ins L pc).f0 == 7) = false := by rw [ho]; rfl
                      have e8 : ((ins L pc).f0 == 8) = false := by rw [ho]; rfl
                      have e9 : ((ins L pc).f0 == 9) = false := by rw [ho]; rfl
                      have e10 : ((ins L pc).f0 == 10) = true := by rw [ho]; rfl
                      clear hx2 hx3 hx0 ho hb3
                      go_wp2_with fail
                      go_meet
                      exact ⟨⟨rfl, rfl, by rw [HB4.out]⟩, 0, rfl⟩
                case rest =>
                  obtain ⟨⟨rfl, rfl, rfl⟩, m2, rfl⟩ := hcut
                  have HI4 := Lib.hid (HI3.out.drewN m2)
                  have HTH4 := Lib.hid (HTH3.out.keep (w' := w2.drewN m2) rfl rfl)
                  clear hx0 hx1 hx2 hx3 ht0 ht1 HG3 HF2 HT7 HT8 HL3 HI3 HTH3
                  generalize w2.drewN m2 = w3 at *
                  obtain ⟨ht0, ht1⟩ := blk2 HTH4.out.1
                  cases b3 with
                  | false =>
                    have h6 := mach_cell HI4.out.ms.ma 6 (by omega)
                    have hf6 := blk_frozen HI4.out.ms.ma 6
                    have HS6 : Hid (stepF L long n c cond pos np (RA.drop (j + 1)) (A, mt, M) = Fin) := Lib.hid (by
                      have := HS5.out
                      rw [if_neg (by simp)] at this
                      exact this)
                    clear HS5
                    go_wp2_with (at_builtin; refine My.app1 rfl (.tmp 225) (.tmp 227) 68 rfl 107 (.pointer none) 8 Tryd.underlying68 ithp rfl _ pool.length _ rfl W0.heap.size W0 (HI4.out.ms.pl.own.alloc _) (below_alloc HI4.out.ms.bl _) (Nat.le_refl _) w3.heap.size rfl (.pointer (some ⟨x.1, 0, none⟩)) (by simp) rfl (by have := HPL.out; omega) (by unfold maxLen; have := HPL.out; omega) ?_; intro v1 w5 hown1 hbel1 hg1; obtain ⟨gg, cpp, rfl, -, -⟩ := hown1.out.form (by omega); have HG := Lib.hid (grown_trans (grown_alloc (grown_refl w3 _) _) hg1.out); have HMA := Lib.hid (HI4.out.ms.ma_grown HG.out); have hfz3 := blk_frozen HMA.out 6; have hz63 := mach_cell HMA.out 6 (by omega))
                    go_roundg (gk - 1)
                    case measure => have := HGK.out; omega
                    case rel => exact ⟨j + 1, _, E, _, A, mt, M, by go_num, by omega, Lib.hid (.inl ⟨HI4.out.pool_ HG.out hown1.out (by omega), HS6.out, by have := HGK.out; omega⟩)⟩
                  | true =>
                    as_aux_lemma =>
                      have HS6 : Hid (stepF L long n c cond pos np (RA.drop (j + 1)) (A ++ aF L cond np (L.length + 1) (A.map Prod.fst) (ins L pc).f1.toNat C, mt, M) = Fin) := Lib.hid (by
                        have := HS5.out
                        rw [if_pos rfl] at this
                        exact this)
                      obtain ⟨o, hoo⟩ : ∃ o : Nat, (ins L pc).f1 = (o : Int) := ⟨(ins L pc).f1.toNat, by have := HO.out.1; omega⟩
                      have hol : o < L.length := by have := HO.out.2; omega
                      obtain ⟨_, _, _, _, _, hpi⟩ := HP.out.below HI4.out.ms.bl
                      obtain ⟨A3', c3', -, hx1, -, -, -, -⟩ := hpi pc hpcL
                      rw [pin_out (by omega), hoo] at hx1
                      rw [hoo, Int.toNat_natCast] at HS6
                      have hlen := HI4.out.ms.len
                      have hcall := madd_calls HS.out.leads hm HS.out.op HS.out.arg3 (fun pc hpc h2 => by have := HS.out.arg2 pc hpc h2; have := HS.out.nc1; omega) cond F HMT.out W0 p ad HP.out mb qo sp de lf S n cc x.2 (HI4.out.ms.lo.2.2.2 x (by simp)).2 np (L.length + 1) w3.drew mr E pool (thr (R.drop (j + 1))) (some x) o C (HI4.out.drewN 1).ms (HTH4.out.2.keep rfl) HI4.out.apart (fun y hy => by cases hy; rfl) hol (by omega)
                      have HCALL := Lib.hid hcall
                      have HDR := Lib.hid (HI4.out.drewN 1)
                      clear hpi hcall HS5 hlen hop hoo
                      go_upto_region 35 with (fail)
                      go_still_tail 13, (by kernel_rfl)
                      change wpList _ _ _ _ _ w3.drew
                      go_wp2_with fail
                      refine HCALL.out.mono ?_
                      rintro e w4 ⟨mc4, new, pool4, t4, rfl, har⟩
                      have HI5 := Lib.hid (HDR.out.add_ har)
                      rw [HDR.out.rE.fst] at HI5
                      have htt := har.tt
                      have HPL5 : Hid (pool4.length + 1 ≤ 1900001) := Lib.hid (by
                        obtain ⟨r, hr⟩ := har.pp
                        have h1 := congrArg List.length hr
                        rw [List.length_append] at h1
                        have := HPL.out
                        omega)
                      clear har HCALL HDR hx1 ht0 ht1 HPL
                      cases t4 with
                      | none =>
                        simp only [ptrT]
                        go_wp2_with fail
                        go_roundg (gk - 1)
                        case measure => have := HGK.out; omega
                        case rel => exact ⟨j + 1, mc4, E ++ new, pool4, _, mt, M, by go_num, by omega, Lib.hid (.inl ⟨HI5.out, HS6.out, by have := HGK.out; omega⟩)⟩
                      | some y =>
                        simp only [ptrT]
                        have h6 := mach_cell HI5.out.ms.ma 6 (by omega)
                        have hf6 := blk_frozen HI5.out.ms.ma 6
                        have HPL := HPL5
                        clear HPL5
                        go_wp2_with (at_builtin; refine My.app1 rfl (.tmp 225) (.tmp 227) 68 rfl 107 (.pointer none) 8 Tryd.underlying68 ithp rfl _ pool4.length _ rfl W0.heap.size W0 (HI5.out.ms.pl.own.alloc _) (below_alloc HI5.out.ms.bl _) (Nat.le_refl _) w4.heap.size rfl (.pointer (some ⟨y.1, 0, none⟩)) (by simp) rfl (by have := HPL.out; omega) (by unfold maxLen; have := HPL.out; omega) ?_; intro v1 w5 hown1 hbel1 hg1; obtain ⟨gg, cpp, rfl, -, -⟩ := hown1.out.form (by omega); have HG := Lib.hid (grown_trans (grown_alloc (grown_refl w4 _) _) hg1.out); have HMA := Lib.hid (HI5.out.ms.ma_grown HG.out); have hfz3 := blk_frozen HMA.out 6; have hz63 := mach_cell HMA.out 6 (by omega))
                        go_roundg (gk - 1)
                        case measure => have := HGK.out; omega
                        case rel => exact ⟨j + 1, _, E ++ new, _, _, mt, M, by go_num, by omega, Lib.hid (.inl ⟨HI5.out.pool_ HG.out hown1.out (by omega), HS6.out, by have := HGK.out; omega⟩)⟩
      · have hd1 : decide (j < R.length) = false := decide_eq_false hlt
        as_aux_lemma =>
          have hje : j = R.length := by omega
          subst hje
          go_wp2_with fail
          go_end0
          have HS2 := HST.out
          have hlen := HI.out.rR.length
          rw [List.length_drop, List.length_drop] at hlen
          rw [List.drop_of_length_le (by omega), stepF] at HS2
          have hf := HI.out.cut
          rw [← HS2]
          exact ⟨_, E, pool, rfl, hf⟩
end Go.Proofs.YtmccgfjhmbioeaaDoor.PgFnPgThreads
