import Derived.Test.YtmccgfjhmbioeaaDoorVeFnPgThreads
import Derived.Test.YtmccgfjhmbioeaaDoorJxFnPgThreads
namespace Go.Proofs.YtmccgfjhmbioeaaDoor.PgFnPgThreads
open Go.RowKit Go.Proofs.YtmccgfjhmbioeaaDoor.EvN Go.Proofs.YtmccgfjhmbioeaaDoor.Row Go.Proofs.YtmccgfjhmbioeaaDoor.PFnPgThreads Go.Proofs.YtmccgfjhmbioeaaDoorW.PrintWords Go.Proofs.YtmccgfjhmbioeaaDoorW.PrintLast Go.Proofs.YtmccgfjhmbioeaaDoorW.PrintMore
set_option linter.unusedVariables false
set_option linter.unusedSimpArgs false
def stepF (L : List I) (long : Bool) (n : Nat) (c cond pos np : Int) : List Ae → List Ae × Bool × List Int → List Ae × Bool × List Int
  | [], s => s
  | (_, none) :: r, s => stepF L long n c cond pos np r s
  | (pc, some C) :: r, s =>
    if (long && s.2.1 && (decide (0 < n) && decide (s.2.2.getD 0 0 < C.getD 0 0))) = true then stepF L long n c cond pos np r s
    else if (ins L pc).f0 = 4 then
      (if long = true then stepF L long n c cond pos np r else id)
        (s.1, true, if (decide (0 < n) && (!long || (!s.2.1 || decide (s.2.2.getD 1 0 < pos)))) = true then C.set 1 pos else s.2.2)
    else if takesB (ins L pc) c = true then stepF L long n c cond pos np r (s.1 ++ aF L cond np (L.length + 1) (s.1.map Prod.fst) (ins L pc).f1.toNat C, s.2.1, s.2.2)
    else stepF L long n c cond pos np r s
theorem thr_none {e : En} (h : e.2 = none) (l : List En) : thr (e :: l) = thr l := by unfold thr; rw [List.filterMap_cons, h]
theorem thr_some {e : En} {x : Th} (h : e.2 = some x) (l : List En) : thr (e :: l) = x :: thr l := by unfold thr; rw [List.filterMap_cons, h]
theorem own_not {w : World} {B n : Nat} {e : TypeId} {v : Value} {xs : List Value} (h : w.ownsRow B e 1 v n xs) {g : Nat} {cs : Array Value} {t : TypeId} (hg : w.heap[g]? = some (.cells cs t (0, 0))) (ht : e ≠ t) : v.ownBlock ≠ some g := by
  rcases h.2 with ⟨e2, _⟩ | ⟨g', cap, cur, e2, _, hgg, _⟩
  · rw [e2]; simp [Value.ownBlock]
  · rw [e2]
    intro e3
    have e4 : g' = g := by simpa [Value.ownBlock] using e3
    exact blk_ne hgg hg ht e4
section
variable {N : Nat} {W0 w w' w1 : World} {p mb qo sp de lf S n cc : Nat} {F : Int} {mc : Nat → Value} {E : List En} {pool out : List Th} {ad : Addr}
theorem MS.other (h : MS N W0 w p mb qo sp de lf S n cc F mc E pool out) (i : Nat) (v : Value) (hi : i < 14) (h1 : i ≠ 1) (h6 : i ≠ 6) (h8 : i ≠ 8) (hq : i ≠ qo) (hd : i ≠ qo + 1) :
    MS N W0 (w.setCell ⟨mb, i, none⟩ v) p mb qo sp de lf S n cc F (up mc i v) E pool out := by
  obtain ⟨e1, e2, e3, e4, e5, e6⟩ := h.sp_ne
  have hfr : Fr (fun b => b = mb) w (w.setCell ⟨mb, i, none⟩ v) := (Fr.refl _ w).set _ rfl
  have kp : ∀ {g : Nat} {o : Obj}, w.heap[g]? = some o → g ≠ mb → (w.setCell ⟨mb, i, none⟩ v).heap[g]? = some o := fun hg hne => (hfr.block _ (blk_lt hg) hne).trans hg
  have u : ∀ j, j ≠ i → up mc i v j = mc j := fun j hj => up_ne _ _ hj
  have kt : ∀ {y : Th}, (∃ i C, ThAt w n cc y i C) → ∃ i0 C, ThAt (w.setCell ⟨mb, i, none⟩ v) n cc y i0 C := fun {y} ⟨i0, C, hC⟩ => by
    obtain ⟨c1, _⟩ := h.th_ne hC
    exact ⟨i0, C, hC.keep (Below.heap_setCell _ _ _ _ c1.1) (Below.heap_setCell _ _ _ _ c1.2)⟩
  obtain ⟨sa, s1, s2⟩ := h.sa
  obtain ⟨da, d1, d2⟩ := h.da
  exact ⟨mach_set h.ma i hi v, by rw [u 1 (Ne.symm h1)]; exact h.m1, by rw [u 8 (Ne.symm h8)]; exact h.m8, h.q2, by rw [u qo (Ne.symm hq)]; exact h.mq, by rw [u (qo + 1) (Ne.symm hd)]; exact h.md, ⟨sa, kp s1 e1, s2⟩, ⟨da, kp d1 e3, d2⟩, kp h.fl (by omega),
    ⟨by rw [u 6 (Ne.symm h6)]; exact hfr.own h.pl.own (fun g hg e => (h.pool_ne g hg).1 e), fun y hy => kt (h.pl.th y hy)⟩, fun y hy => kt (h.th y hy), h.n1, h.n2, h.lo, below_set h.bl h.lo.1, h.fi, h.ls, h.lm, h.nc, h.cm, h.pm⟩
theorem MS.back {x : Th} {pv' : Value} (h : MS N W0 w p mb qo sp de lf S n cc F mc E pool (x :: out)) (hgr : w.grownBy w1 (mc 6).ownBlock)
    (hown : w1.ownsRow W0.heap.size 107 1 pv' (pool.length + 1) (pool.map (fun x => Value.pointer (some ⟨x.1, 0, none⟩)) ++ [.pointer (some ⟨x.1, 0, none⟩)])) (hpl : pool.length + 1 ≤ 2000000) :
    MS N W0 (w1.setCell ⟨mb, 6, none⟩ pv') p mb qo sp de lf S n cc F (up mc 6 pv') E (pool ++ [x]) out := by
  obtain ⟨e1, e2, e3, e4, e5, e6⟩ := h.sp_ne
  have hpn := h.pool_ne
  have hlf : (mc 6).ownBlock ≠ some lf := own_not h.pl.own h.fl (by decide)
  have kp : ∀ {g : Nat} {o : Obj}, w.heap[g]? = some o → g ≠ mb → (mc 6).ownBlock ≠ some g → (w1.setCell ⟨mb, 6, none⟩ pv').heap[g]? = some o := fun hg a b => (Below.heap_setCell _ _ _ _ a).trans ((hgr.block _ (blk_lt hg) (fun e => b e.symm)).trans hg)
  have hne : ∀ g, g = mb ∨ g = sp ∨ g = de → (mc 6).ownBlock ≠ some g := fun g hg e => by
    obtain ⟨a, b, c, _⟩ := hpn g e
    rcases hg with hg | hg | hg
    · exact a hg
    · exact b hg
    · exact c hg
  have kt : ∀ {y : Th}, (∃ i C, ThAt w n cc y i C) → ∃ i0 C, ThAt (w1.setCell ⟨mb, 6, none⟩ pv') n cc y i0 C := fun {y} ⟨i0, C, hC⟩ => by
    obtain ⟨c1, _⟩ := h.th_ne hC
    have d1 : (mc 6).ownBlock ≠ some y.1 := fun e => ((hpn _ e).2.2.2 y i0 C hC).1 rfl
    have d2 : (mc 6).ownBlock ≠ some y.2 := fun e => ((hpn _ e).2.2.2 y i0 C hC).2 rfl
    refine ⟨i0, C, kp hC.1 c1.1 d1, ?_⟩
    obtain ⟨r, k1, k2⟩ := hC.2
    exact ⟨r, kp k1 c1.2 d2, k2⟩
  have hma1 : w1.heap[mb]? = some (mach mc) := (hgr.block _ (blk_lt h.ma) (fun e => hne mb (.inl rfl) e.symm)).trans h.ma
  have hperm : (thr E ++ (out ++ (pool ++ [x]))).Perm (thr E ++ (x :: out ++ pool)) := by
    refine List.Perm.append_left _ ?_
    rw [← List.append_assoc]
    exact List.perm_append_singleton x (out ++ pool)
  have u : ∀ i, i ≠ 6 → up mc 6 pv' i = mc i := fun i hi => up_ne _ _ hi
  have hq := h.q2
  obtain ⟨sa, s1, s2⟩ := h.sa
  obtain ⟨da, d1, d2⟩ := h.da
  have hown2 : (w1.setCell ⟨mb, 6, none⟩ pv').ownsRow W0.heap.size 107 1 pv' (pool.length + 1) (pool.map (fun x => Value.pointer (some ⟨x.1, 0, none⟩)) ++ [.pointer (some ⟨x.1, 0, none⟩)]) :=
    ((Fr.refl (fun b => b = mb) w1).set pv' rfl).own hown (fun g hg e => own_not hown hma1 (by decide) (by rw [hg, e]))
  refine ⟨mach_set hma1 6 (by omega) pv', by rw [u 1 (by omega)]; exact h.m1, by rw [u 8 (by omega)]; exact h.m8, h.q2, by rw [u qo (by omega)]; exact h.mq, by rw [u (qo + 1) (by omega)]; exact h.md, ⟨sa, kp s1 e1 (hne sp (.inr (.inl rfl))), s2⟩, ⟨da, kp d1 e3 (hne de (.inr (.inr rfl))), d2⟩, kp h.fl e4 hlf,
    ⟨by rw [up_same, List.length_append, List.length_singleton, List.map_append]; exact hown2, fun y hy => ?_⟩, fun y hy => ?_, ?_, ?_, ?_, below_set (h.bl.grown hgr h.bl.size (fun k hk => (h.pl.own.lt k hk).1)) h.lo.1, h.fi, h.ls, h.lm, h.nc, h.cm, by rw [List.length_append, List.length_singleton]; exact hpl⟩
  · rcases List.mem_append.1 hy with hy | hy
    · exact kt (h.pl.th y hy)
    · simp only [List.mem_singleton] at hy
      subst hy
      exact kt (h.th y (by simp))
  · rcases List.mem_append.1 hy with hy | hy
    · exact kt (h.th y (by simp [hy]))
    · exact kt (h.th y (by simp [hy]))
  · exact ((hperm.map Prod.fst).nodup_iff).2 h.n1
  · exact ((hperm.map Prod.snd).nodup_iff).2 h.n2
  · exact ⟨h.lo.1, h.lo.2.1, h.lo.2.2.1, fun y hy => h.lo.2.2.2 y (hperm.mem_iff.1 hy)⟩
theorem Rel.length {E : List En} {A : List Ae} (h : Rel w ad n cc E A) : E.length = A.length := by have := congrArg List.length h.fst; simpa using this
theorem Rel.drop_cons {R : List En} {RA : List Ae} {j : Nat} (h : Rel w ad n cc (R.drop j) (RA.drop j)) (hj : j < R.length) :
    ∃ hA : j < RA.length, R.drop j = R[j] :: R.drop (j + 1) ∧ RA.drop j = RA[j] :: RA.drop (j + 1) ∧ RelE w ad n cc R[j] RA[j] ∧ Rel w ad n cc (R.drop (j + 1)) (RA.drop (j + 1)) := by
  have hl := h.length
  rw [List.length_drop, List.length_drop] at hl
  have hA : j < RA.length := by omega
  rw [List.drop_eq_getElem_cons hj, List.drop_eq_getElem_cons hA] at h
  exact ⟨hA, List.drop_eq_getElem_cons hj, List.drop_eq_getElem_cons hA, h.1, h.2⟩
def Kpt (sp de : Nat) (w w' : World) : Prop := ∀ g cs t, t = 96 ∨ t = 137 → g ≠ sp → g ≠ de → w.heap[g]? = some (.cells cs t (0, 0)) → w'.heap[g]? = some (.cells cs t (0, 0))
theorem Kpt.refl (sp de : Nat) (w : World) : Kpt sp de w w := fun _ _ _ _ _ _ h => h
theorem Kpt.trans {sp de : Nat} {a b c : World} (h : Kpt sp de a b) (k : Kpt sp de b c) : Kpt sp de a c := fun g cs t ht h1 h2 h3 => k g cs t ht h1 h2 (h g cs t ht h1 h2 h3)
theorem Kpt.fr {sp de : Nat} {T : Nat → Prop} (h : Fr T w w1) (hT : ∀ g cs t, t = 96 ∨ t = 137 → g ≠ sp → g ≠ de → w.heap[g]? = some (.cells cs t (0, 0)) → ¬ T g) : Kpt sp de w w1 :=
  fun g cs t ht h1 h2 h3 => (h.block g (blk_lt h3) (hT g cs t ht h1 h2 h3)).trans h3
theorem Kpt.grown {sp de : Nat} {B k : Nat} {v : Value} {xs : List Value} (h : w.grownBy w1 v.ownBlock) (ho : w.ownsRow B 107 1 v k xs) : Kpt sp de w w1 :=
  fun g cs t ht h1 h2 h3 => (h.block g (blk_lt h3) (fun e => own_not ho h3 (by rcases ht with rfl | rfl <;> decide) e.symm)).trans h3
end
structure SI (N : Nat) (W0 : World) (p mb qo sp de lf S n cc : Nat) (F : Int) (ad : Addr) (R : List En) (RA : List Ae) (mcb ra rde pl0 : Nat) (mc : Nat → Value) (w : World) (t : Option Th) (j : Nat) (wr : World) (mr : Nat → Value) (E : List En) (pool : List Th) (A : List Ae) (mt : Bool) (M : List Int) : Prop where
  ms : MS N W0 wr p mb qo sp de lf S n cc F mr E pool (t.toList ++ thr (R.drop j))
  rE : Rel wr ad n cc E A
  rR : Rel wr ad n cc (R.drop j) (RA.drop j)
  m7 : mr 7 = .bool mt
  m8 : mr 8 = .slice (some ⟨mcb, 0, none⟩) n cc
  cp : CapAt wr n cc mcb M
  cl : W0.heap.size ≤ mcb
  nm : ∀ x ∈ thr E ++ ((t.toList ++ thr (R.drop j)) ++ pool), x.2 ≠ mcb
  rd : mr (ra + 1) = .slice (some ⟨rde, 0, none⟩) R.length S
  mm : ∀ i, i ≠ qo + 1 → i ≠ 6 → i ≠ 7 → mr i = mc i
  rq : (ra = 2 ∧ qo = 4) ∨ (ra = 4 ∧ qo = 2)
  pl : pool.length + t.toList.length ≤ pl0 + j
  kp : Kpt sp de w wr
section
variable {N : Nat} {W0 : World} {p mb qo sp de lf S n cc : Nat} {F : Int} {ad : Addr} {R : List En} {RA : List Ae} {mcb ra rde pl0 : Nat} {mc : Nat → Value} {w : World} {t : Option Th} {j : Nat} {wr w1 : World} {mr mr1 : Nat → Value} {E new : List En} {pool pool1 : List Th} {A A1 : List Ae} {mt : Bool} {M : List Int}
theorem SI.none_ (h : SI N W0 p mb qo sp de lf S n cc F ad R RA mcb ra rde pl0 mc w none j wr mr E pool A mt M) (hj : j < R.length) (hn : R[j].2 = none) :
    (∃ pc, RA.drop j = (pc, none) :: RA.drop (j + 1)) ∧ SI N W0 p mb qo sp de lf S n cc F ad R RA mcb ra rde pl0 mc w none (j + 1) wr mr E pool A mt M := by
  obtain ⟨hA, e1, e2, e3, e4⟩ := h.rR.drop_cons hj
  have ht : thr (R.drop j) = thr (R.drop (j + 1)) := by rw [e1, thr_none hn]
  have ha : RA[j].2 = none := by
    have := e3.2
    rw [hn] at this
    cases hq : RA[j].2 with
    | none => rfl
    | some C => rw [hq] at this; exact this.elim
  refine ⟨⟨RA[j].1, by rw [e2, ← ha]⟩, ?_⟩
  have h1 := h.ms
  have h2 := h.nm
  rw [ht] at h1 h2
  exact ⟨h1, h.rE, e4, h.m7, h.m8, h.cp, h.cl, h2, h.rd, h.mm, h.rq, by have := h.pl; omega, h.kp⟩
theorem SI.some_ (h : SI N W0 p mb qo sp de lf S n cc F ad R RA mcb ra rde pl0 mc w none j wr mr E pool A mt M) (hj : j < R.length) {x : Th} (hn : R[j].2 = some x) :
    (∃ pc C, R[j] = (pc, some x) ∧ RA.drop j = (pc, some C) :: RA.drop (j + 1) ∧ ThAt wr n cc x (.pointer (some (ad.add (pc * 4)))) C) ∧ SI N W0 p mb qo sp de lf S n cc F ad R RA mcb ra rde pl0 mc w (some x) (j + 1) wr mr E pool A mt M := by
  obtain ⟨hA, e1, e2, e3, e4⟩ := h.rR.drop_cons hj
  have ht : thr (R.drop j) = x :: thr (R.drop (j + 1)) := by rw [e1, thr_some hn]
  obtain ⟨C, ha, hth⟩ : ∃ C, RA[j].2 = some C ∧ ThAt wr n cc x (.pointer (some (ad.add (R[j].1 * 4)))) C := by
    have := e3.2
    rw [hn] at this
    cases hq : RA[j].2 with
    | none => rw [hq] at this; exact this.elim
    | some C => rw [hq] at this; exact ⟨C, rfl, this⟩
  refine ⟨⟨R[j].1, C, by rw [← hn], by rw [e2, e3.1, ← ha], hth⟩, ?_⟩
  have h1 := h.ms
  have h2 := h.nm
  rw [ht] at h1 h2
  exact ⟨h1, h.rE, e4, h.m7, h.m8, h.cp, h.cl, h2, h.rd, h.mm, h.rq, by have := h.pl; simp at this ⊢; omega, h.kp⟩
theorem SI.drewN (h : SI N W0 p mb qo sp de lf S n cc F ad R RA mcb ra rde pl0 mc w t j wr mr E pool A mt M) (m : Nat) : SI N W0 p mb qo sp de lf S n cc F ad R RA mcb ra rde pl0 mc w t j (wr.drewN m) mr E pool A mt M :=
  ⟨h.ms.drewN m, h.rE.keep (fun _ _ => ⟨rfl, rfl⟩), h.rR.keep (fun _ _ => ⟨rfl, rfl⟩), h.m7, h.m8, h.cp.keep rfl, h.cl, h.nm, h.rd, h.mm, h.rq, h.pl, h.kp⟩
theorem SI.pool_ {x : Th} {pv' : Value} (h : SI N W0 p mb qo sp de lf S n cc F ad R RA mcb ra rde pl0 mc w (some x) j wr mr E pool A mt M) (hgr : wr.grownBy w1 (mr 6).ownBlock)
    (hown : w1.ownsRow W0.heap.size 107 1 pv' (pool.length + 1) (pool.map (fun x => Value.pointer (some ⟨x.1, 0, none⟩)) ++ [.pointer (some ⟨x.1, 0, none⟩)])) (hpl : pl0 + j ≤ 2000000) :
    SI N W0 p mb qo sp de lf S n cc F ad R RA mcb ra rde pl0 mc w none j (w1.setCell ⟨mb, 6, none⟩ pv') (up mr 6 pv') E (pool ++ [x]) A mt M := by
  have hq := h.rq
  have hp := h.pl
  simp at hp
  have hb := h.ms.back (out := thr (R.drop j)) hgr hown (by omega)
  have hpn := h.ms.pool_ne
  have kt : ∀ {y : Th} {i0 : Value} {C : List Int}, ThAt wr n cc y i0 C → (w1.setCell ⟨mb, 6, none⟩ pv').heap[y.1]? = wr.heap[y.1]? ∧ (w1.setCell ⟨mb, 6, none⟩ pv').heap[y.2]? = wr.heap[y.2]? := fun {y i0 C} hC => by
    obtain ⟨c1, _⟩ := h.ms.th_ne hC
    have d1 : (mr 6).ownBlock ≠ some y.1 := fun e => ((hpn _ e).2.2.2 y i0 C hC).1 rfl
    have d2 : (mr 6).ownBlock ≠ some y.2 := fun e => ((hpn _ e).2.2.2 y i0 C hC).2 rfl
    exact ⟨(Below.heap_setCell _ _ _ _ c1.1).trans (hgr.block _ (blk_lt hC.1) (fun e => d1 e.symm)), (Below.heap_setCell _ _ _ _ c1.2).trans (hgr.block _ hC.2.lt (fun e => d2 e.symm))⟩
  have hmc1 : mcb ≠ mb := by obtain ⟨r, k, _⟩ := h.cp; exact blk_ne k h.ms.ma (by decide)
  have hmc2 : (mr 6).ownBlock ≠ some mcb := by obtain ⟨r, k, _⟩ := h.cp; exact own_not h.ms.pl.own k (by decide)
  refine ⟨hb, h.rE.keep fun y hy => ?_, h.rR.keep fun y hy => ?_, by rw [up_ne _ _ (by omega)]; exact h.m7, by rw [up_ne _ _ (by omega)]; exact h.m8, h.cp.keep ((Below.heap_setCell _ _ _ _ hmc1).trans (hgr.block _ h.cp.lt (fun e => hmc2 e.symm))), h.cl, fun y hy => h.nm y ?_, by rw [up_ne _ _ (by omega)]; exact h.rd, fun i a b c => by rw [up_ne _ _ b]; exact h.mm i a b c, h.rq, by simp; omega, ?_⟩
  · obtain ⟨i0, C, hC⟩ := h.ms.th y (by simp [hy])
    exact kt hC
  · obtain ⟨i0, C, hC⟩ := h.ms.th y (by simp [hy])
    exact kt hC
  · simp only [List.mem_append, Option.toList_none, Option.toList_some, List.mem_cons, List.not_mem_nil, or_false, false_or] at hy ⊢
    rcases hy with a | a | a | a
    · exact .inl a
    · exact .inr (.inl (.inr a))
    · exact .inr (.inr a)
    · exact .inr (.inl (.inl a))
  · refine h.kp.trans ((Kpt.grown hgr h.ms.pl.own).trans ?_)
    intro g cs t ht h1 h2 h3
    have hma1 : w1.heap[mb]? = some (mach mr) := (hgr.block _ (blk_lt h.ms.ma) (fun e => (hpn _ e.symm).1 rfl)).trans h.ms.ma
    have hg : g ≠ mb := blk_ne h3 hma1 (by rcases ht with rfl | rfl <;> decide)
    exact (Below.heap_setCell _ _ _ _ hg).trans h3
theorem SI.told (h : SI N W0 p mb qo sp de lf S n cc F ad R RA mcb ra rde pl0 mc w t j wr mr E pool A mt M) (b : Bool) :
    SI N W0 p mb qo sp de lf S n cc F ad R RA mcb ra rde pl0 mc w t j (wr.setCell ⟨mb, 7, none⟩ (.bool b)) (up mr 7 (.bool b)) E pool A b M := by
  have hq := h.rq
  have hb := h.ms.other 7 (.bool b) (by omega) (by omega) (by omega) (by omega) (by omega) (by omega)
  have kt : ∀ {y : Th} {i0 : Value} {C : List Int}, ThAt wr n cc y i0 C → (wr.setCell ⟨mb, 7, none⟩ (.bool b)).heap[y.1]? = wr.heap[y.1]? ∧ (wr.setCell ⟨mb, 7, none⟩ (.bool b)).heap[y.2]? = wr.heap[y.2]? := fun {y i0 C} hC => by
    obtain ⟨c1, _⟩ := h.ms.th_ne hC
    exact ⟨Below.heap_setCell _ _ _ _ c1.1, Below.heap_setCell _ _ _ _ c1.2⟩
  have hmc1 : mcb ≠ mb := by obtain ⟨r, k, _⟩ := h.cp; exact blk_ne k h.ms.ma (by decide)
  refine ⟨hb, h.rE.keep fun y hy => ?_, h.rR.keep fun y hy => ?_, up_same _ _ _, by rw [up_ne _ _ (by omega)]; exact h.m8, h.cp.keep (Below.heap_setCell _ _ _ _ hmc1), h.cl, h.nm, by rw [up_ne _ _ (by omega)]; exact h.rd, fun i a b c => by rw [up_ne _ _ c]; exact h.mm i a b c, h.rq, h.pl, h.kp.trans ?_⟩
  · obtain ⟨i0, C, hC⟩ := h.ms.th y (by simp [hy])
    exact kt hC
  · obtain ⟨i0, C, hC⟩ := h.ms.th y (by simp [hy])
    exact kt hC
  · intro g cs t ht h1 h2 h3
    have hg : g ≠ mb := blk_ne h3 h.ms.ma (by rcases ht with rfl | rfl <;> decide)
    exact (Below.heap_setCell _ _ _ _ hg).trans h3
theorem SI.capx {x : Th} {i0 : Value} {C C' : List Int} (h : SI N W0 p mb qo sp de lf S n cc F ad R RA mcb ra rde pl0 mc w (some x) j wr mr E pool A mt M) (hx : ThAt wr n cc x i0 C) (hfr : Fr (fun b => b = x.2) wr w1) (hc : CapAt w1 n cc x.2 C') :
    SI N W0 p mb qo sp de lf S n cc F ad R RA mcb ra rde pl0 mc w (some x) j w1 mr E pool A mt M := by
  have hlx : W0.heap.size ≤ x.2 := (h.ms.lo.2.2.2 x (by simp)).2
  have hxm : x.2 ≠ mcb := h.nm x (by simp)
  have hb := h.ms.cap hx.2 hfr hlx hc
  have hd : ∀ y, y ∈ thr E ++ (thr (R.drop j) ++ pool) → y.2 ≠ x.2 := fun y hy e => by
    have hp : (x :: (thr E ++ (thr (R.drop j) ++ pool))).Perm (thr E ++ (((some x).toList ++ thr (R.drop j)) ++ pool)) := by
      simp only [Option.toList_some, List.cons_append, List.nil_append]
      exact List.perm_middle.symm
    have := ((hp.map Prod.snd).nodup_iff).2 h.ms.n2
    rw [List.map_cons, List.nodup_cons] at this
    exact this.1 (by rw [← e]; exact List.mem_map_of_mem hy)
  have hd1 : ∀ {y : Th} {i1 : Value} {C1 : List Int}, ThAt wr n cc y i1 C1 → y.1 ≠ x.2 := fun {y i1 C1} hy => by obtain ⟨r, k, _⟩ := hx.2; exact blk_ne hy.1 k (by decide)
  refine ⟨hb, h.rE.keep fun y hy => ?_, h.rR.keep fun y hy => ?_, h.m7, h.m8, h.cp.keep (hfr.block _ h.cp.lt (Ne.symm hxm)), h.cl, h.nm, h.rd, h.mm, h.rq, h.pl, h.kp.trans (Kpt.fr hfr fun g cs t ht h1 h2 h3 e => ?_)⟩
  · obtain ⟨i1, C1, hC⟩ := h.ms.th y (by simp [hy])
    exact ⟨hfr.block _ (blk_lt hC.1) (hd1 hC), hfr.block _ hC.2.lt (hd y (by simp [hy]))⟩
  · obtain ⟨i1, C1, hC⟩ := h.ms.th y (by simp [hy])
    exact ⟨hfr.block _ (blk_lt hC.1) (hd1 hC), hfr.block _ hC.2.lt (hd y (by simp [hy]))⟩
  · obtain ⟨r, k, _⟩ := hx.2
    exact blk_ne h3 k (by rcases ht with rfl | rfl <;> decide) e
theorem SI.capm {M' : List Int} (h : SI N W0 p mb qo sp de lf S n cc F ad R RA mcb ra rde pl0 mc w t j wr mr E pool A mt M) (hfr : Fr (fun b => b = mcb) wr w1) (hc : CapAt w1 n cc mcb M') :
    SI N W0 p mb qo sp de lf S n cc F ad R RA mcb ra rde pl0 mc w t j w1 mr E pool A mt M' := by
  have hb := h.ms.cap h.cp hfr h.cl hc
  have hd1 : ∀ {y : Th} {i1 : Value} {C1 : List Int}, ThAt wr n cc y i1 C1 → y.1 ≠ mcb := fun {y i1 C1} hy => by obtain ⟨r, k, _⟩ := h.cp; exact blk_ne hy.1 k (by decide)
  refine ⟨hb, h.rE.keep fun y hy => ?_, h.rR.keep fun y hy => ?_, h.m7, h.m8, hc, h.cl, h.nm, h.rd, h.mm, h.rq, h.pl, h.kp.trans (Kpt.fr hfr fun g cs t ht h1 h2 h3 e => ?_)⟩
  · obtain ⟨i1, C1, hC⟩ := h.ms.th y (by simp [hy])
    exact ⟨hfr.block _ (blk_lt hC.1) (hd1 hC), hfr.block _ hC.2.lt (h.nm y (by simp [hy]))⟩
  · obtain ⟨i1, C1, hC⟩ := h.ms.th y (by simp [hy])
    exact ⟨hfr.block _ (blk_lt hC.1) (hd1 hC), hfr.block _ hC.2.lt (h.nm y (by simp [hy]))⟩
  · obtain ⟨r, k, _⟩ := h.cp
    exact blk_ne h3 k (by rcases ht with rfl | rfl <;> decide) e
theorem SI.add_ {t1 : Option Th} (h : SI N W0 p mb qo sp de lf S n cc F ad R RA mcb ra rde pl0 mc w t j wr mr E pool A mt M) (k : AR N W0 p mb qo sp de lf S n cc F ad A1 wr mr E pool t (thr (R.drop j)) w1 mr1 new pool1 t1) :
    SI N W0 p mb qo sp de lf S n cc F ad R RA mcb ra rde pl0 mc w t1 j w1 mr1 (E ++ new) pool1 (A ++ A1) mt M := by
  have hq := h.rq
  obtain ⟨r1, p1⟩ := k.pp
  have hp : ∀ x ∈ pool1, x ∈ pool := fun x hx => by rw [p1]; simp [hx]
  have kt : ∀ y ∈ thr E ++ thr (R.drop j), w1.heap[y.1]? = wr.heap[y.1]? ∧ w1.heap[y.2]? = wr.heap[y.2]? := fun y hy => by
    obtain ⟨u1, u2⟩ := h.ms.untouched hy
    obtain ⟨i, C, hC⟩ := h.ms.th y (by rcases List.mem_append.1 hy with a | a <;> simp [a])
    exact ⟨k.fr.block _ (blk_lt hC.1) u1, k.fr.block _ hC.2.lt u2⟩
  obtain ⟨sa, s1, _⟩ := h.ms.sa
  obtain ⟨da, d1, _⟩ := h.ms.da
  have hcm : ¬ touched mb sp de pool t mcb := by
    obtain ⟨r, kc, _⟩ := h.cp
    rintro (a | a | a | ⟨y, hy1, a | a⟩ | ⟨y, hy1, a⟩)
    · exact blk_ne kc h.ms.ma (by decide) a
    · exact blk_ne kc s1 (by decide) a
    · exact blk_ne kc d1 (by decide) a
    · obtain ⟨i, C, hC⟩ := h.ms.pl.th y hy1
      exact blk_ne kc hC.1 (by decide) a
    · exact h.nm y (by simp [hy1]) a.symm
    · obtain ⟨i, C, hC⟩ := h.ms.th y (by simp [hy1])
      exact blk_ne kc hC.1 (by decide) a
  refine ⟨k.ms, (h.rE.keep fun y hy => kt y (by simp [hy])).append k.rel, h.rR.keep fun y hy => kt y (by simp [hy]), by rw [k.mm 7 (by omega) (by omega)]; exact h.m7, by rw [k.mm 8 (by omega) (by omega)]; exact h.m8, h.cp.keep (k.fr.block _ h.cp.lt hcm), h.cl, fun y hy => ?_, by rw [k.mm (ra + 1) (by omega) (by omega)]; exact h.rd, fun i a b c => (k.mm i a b).trans (h.mm i a b c), h.rq, ?_, h.kp.trans (Kpt.fr k.fr fun g cs ty ht h1 h2 h3 e => ?_)⟩
  · rw [thr_append] at hy
    simp only [List.mem_append] at hy
    rcases hy with (a | a) | (a | a) | a
    · exact h.nm y (by simp [a])
    · rcases k.nt y a with b | b | ⟨_, b⟩
      · exact h.nm y (by simp [b])
      · exact h.nm y (by simp [b])
      · have := h.cp.lt; omega
    · rcases k.tt with b | b
      · rw [b] at a; exact h.nm y (by simp only [List.mem_append]; exact .inr (.inl (.inl a)))
      · rw [b] at a; simp at a
    · exact h.nm y (by simp [a])
    · exact h.nm y (by simp [hp y a])
  · have h1 := h.pl
    have h2 : t1.toList.length ≤ t.toList.length := by
      rcases k.tt with b | b
      · rw [b]; exact Nat.le_refl _
      · rw [b]; simp
    have h3 := congrArg List.length p1
    rw [List.length_append] at h3
    omega
  · rcases e with a | a | a | ⟨y, hy1, a | a⟩ | ⟨y, hy1, a⟩
    · exact blk_ne h3 h.ms.ma (by rcases ht with rfl | rfl <;> decide) a
    · exact h1 a
    · exact h2 a
    · obtain ⟨i, C, hC⟩ := h.ms.pl.th y hy1
      exact blk_ne h3 hC.1 (by rcases ht with rfl | rfl <;> decide) a
    · obtain ⟨i, C, hC⟩ := h.ms.pl.th y hy1
      obtain ⟨r, kc, _⟩ := hC.2
      exact blk_ne h3 kc (by rcases ht with rfl | rfl <;> decide) a
    · obtain ⟨i, C, hC⟩ := h.ms.th y (by simp [hy1])
      exact blk_ne h3 hC.1 (by rcases ht with rfl | rfl <;> decide) a
end
section
variable {N : Nat} {W0 w w' : World} {p mb qo sp de lf S n cc : Nat} {F : Int} {mc : Nat → Value} {E : List En} {pool out : List Th}
theorem MS.grow (h : MS N W0 w p mb qo sp de lf S n cc F mc E pool out) (hb : Below w.heap.size w w') : MS N W0 w' p mb qo sp de lf S n cc F mc E pool out := by
  have kt : ∀ {y : Th}, (∃ i C, ThAt w n cc y i C) → ∃ i C, ThAt w' n cc y i C := fun {y} ⟨i0, C, hC⟩ => ⟨i0, C, hC.keep (hb.block _ (blk_lt hC.1)) (hb.block _ hC.2.lt)⟩
  obtain ⟨sa, s1, s2⟩ := h.sa
  obtain ⟨da, d1, d2⟩ := h.da
  exact ⟨blk_below h.ma hb, h.m1, h.m8, h.q2, h.mq, h.md, ⟨sa, blk_below s1 hb, s2⟩, ⟨da, blk_below d1 hb, d2⟩, blk_below h.fl hb,
    ⟨h.pl.own.kept (Row.grown_of_below hb none) (by cases (mc 6).ownBlock <;> simp), fun y hy => kt (h.pl.th y hy)⟩, fun y hy => kt (h.th y hy), h.n1, h.n2, h.lo, below_step h.bl hb, h.fi, h.ls, h.lm, h.nc, h.cm, h.pm⟩
end
section
variable {N : Nat} {W0 : World} {p mb qo sp de lf S n cc : Nat} {F : Int} {ad : Addr} {R : List En} {RA : List Ae} {mcb ra rde pl0 : Nat} {mc : Nat → Value} {w wr w1 : World} {t : Option Th} {j : Nat} {mr : Nat → Value} {E : List En} {pool : List Th} {A : List Ae} {mt : Bool} {M : List Int}
theorem Kpt.below (hb : Below w.heap.size w w1) : Kpt sp de w w1 := fun g cs t _ _ _ h => (hb.block _ (blk_lt h)).trans h
theorem SI.grow (h : SI N W0 p mb qo sp de lf S n cc F ad R RA mcb ra rde pl0 mc w t j wr mr E pool A mt M) (hb : Below wr.heap.size wr w1) : SI N W0 p mb qo sp de lf S n cc F ad R RA mcb ra rde pl0 mc w t j w1 mr E pool A mt M := by
  have kt : ∀ {y : Th}, (∃ i C, ThAt wr n cc y i C) → w1.heap[y.1]? = wr.heap[y.1]? ∧ w1.heap[y.2]? = wr.heap[y.2]? := fun {y} ⟨i0, C, hC⟩ => ⟨hb.block _ (blk_lt hC.1), hb.block _ hC.2.lt⟩
  exact ⟨h.ms.grow hb, h.rE.keep fun y hy => kt (h.ms.th y (by simp [hy])), h.rR.keep fun y hy => kt (h.ms.th y (by simp [hy])), h.m7, h.m8, h.cp.keep (hb.block _ h.cp.lt), h.cl, h.nm, h.rd, h.mm, h.rq, h.pl, h.kp.trans (Kpt.below hb)⟩
end
theorem grown_drew' {a b : World} {r : Option Nat} (h : a.grownBy b r) : a.grownBy b.drew r := ⟨h.os, h.tape, h.output, h.size, h.block⟩
theorem own_drew {w : World} {B n size : Nat} {e : TypeId} {v : Value} {xs : List Value} (h : w.ownsRow B e size v n xs) : w.drew.ownsRow B e size v n xs := h
end Go.Proofs.YtmccgfjhmbioeaaDoor.PgFnPgThreads
