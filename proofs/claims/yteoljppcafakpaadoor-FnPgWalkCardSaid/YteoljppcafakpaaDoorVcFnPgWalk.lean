import Derived.Test.YteoljppcafakpaaDoorVbFnPgWalk
namespace Go.Proofs.YteoljppcafakpaaDoor.PgFnPgWalk
open Go.RowKit Go.Proofs.YteoljppcafakpaaDoor.EvN Go.Proofs.YteoljppcafakpaaDoor.Row Go.Proofs.YteoljppcafakpaaDoor.PFnPgWalk Go.Proofs.YteoljppcafakpaaDoorW.PrintWords Go.Proofs.YteoljppcafakpaaDoorW.PrintLast Go.Proofs.YteoljppcafakpaaDoorW.PrintMore
section
variable {N : Nat} {W0 w w' : World} {p mb qo sp de lf S n cc : Nat} {F : Int} {mc : Nat → Value} {E : List En} {pool out : List Th}
theorem MS.mod (h : MS N W0 w p mb qo sp de lf S n cc F mc E pool out) {b : Nat} (hfr : Fr (fun i => i = b) w w') (hb : W0.heap.size ≤ b) (h1 : b ≠ mb) (h2 : b ≠ sp) (h3 : b ≠ de) (h4 : b ≠ lf) (h5 : (mc 6).ownBlock ≠ some b)
    (hth : ∀ x i C, ThAt w n cc x i C → ∃ i C, ThAt w' n cc x i C) : MS N W0 w' p mb qo sp de lf S n cc F mc E pool out := by
  have kp : ∀ {g : Nat} {o : Obj}, w.heap[g]? = some o → b ≠ g → w'.heap[g]? = some o := fun hg hne => (hfr.block _ (blk_lt hg) (Ne.symm hne)).trans hg
  obtain ⟨sa, s1, s2⟩ := h.sa
  obtain ⟨da, d1, d2⟩ := h.da
  refine ⟨kp h.ma h1, h.m1, h.m8, h.q2, h.mq, h.md, ⟨sa, kp s1 h2, s2⟩, ⟨da, kp d1 h3, d2⟩, kp h.fl h4, ⟨hfr.own h.pl.own (fun g hg e => h5 (by rw [hg]; exact congrArg some e)), fun x hx => ?_⟩, fun x hx => ?_, h.n1, h.n2, h.lo, h.bl.trans (hfr.to_below h.bl.size (fun i e => by rw [e]; exact hb)), h.fi, h.ls, h.lm, h.nc, h.cm, h.pm⟩
  · obtain ⟨i, C, hC⟩ := h.pl.th x hx; exact hth x i C hC
  · obtain ⟨i, C, hC⟩ := h.th x hx; exact hth x i C hC
theorem MS.cap (h : MS N W0 w p mb qo sp de lf S n cc F mc E pool out) {b : Nat} {C C' : List Int} (hc : CapAt w n cc b C) (hfr : Fr (fun i => i = b) w w') (hb : W0.heap.size ≤ b) (hc' : CapAt w' n cc b C') : MS N W0 w' p mb qo sp de lf S n cc F mc E pool out := by
  obtain ⟨r, k1, _⟩ := hc
  obtain ⟨sa, s1, _⟩ := h.sa
  obtain ⟨da, d1, _⟩ := h.da
  refine h.mod hfr hb (blk_ne k1 h.ma (by decide)) (blk_ne k1 s1 (by decide)) (blk_ne k1 d1 (by decide)) (blk_ne k1 h.fl (by decide)) (fun e => ?_) (fun x i C hx => ?_)
  · rcases h.pl.own.2 with ⟨e2, _⟩ | ⟨g', cap, cur, e2, _, hgg, _⟩
    · rw [e2] at e; simp [Value.ownBlock] at e
    · rw [e2] at e
      have e3 : g' = b := by simpa [Value.ownBlock] using e
      exact blk_ne hgg k1 (by decide) e3
  · have hne : x.1 ≠ b := blk_ne hx.1 k1 (by decide)
    have hx1 := (hfr.block x.1 (blk_lt hx.1) hne).trans hx.1
    by_cases e : x.2 = b
    · exact ⟨i, C', hx1, e ▸ hc'⟩
    · exact ⟨i, C, hx1, hx.2.keep (hfr.block _ hx.2.lt e)⟩
theorem MS.inst (h : MS N W0 w p mb qo sp de lf S n cc F mc E pool out) {x : Th} {i : Value} {C : List Int} (hx : ThAt w n cc x i C) (hb : W0.heap.size ≤ x.1) (j : Value) : MS N W0 (w.setCell ⟨x.1, 0, none⟩ j) p mb qo sp de lf S n cc F mc E pool out := by
  obtain ⟨k1, k2, k3, k4, _⟩ := h.th_ne hx
  refine h.mod ((Fr.refl _ w).set _ rfl) hb k1.1 k2.1 k3.1 k4 (fun e => ((h.pool_ne _ e).2.2.2 x i C hx).1 rfl) (fun y i2 C2 hy => ?_)
  by_cases e : y.1 = x.1
  · have e2 : y.2 = x.2 := by
      have := hy.1
      rw [e, hx.1] at this
      simp only [Option.some.injEq, Obj.cells.injEq, Array.mk.injEq, List.cons.injEq, Value.slice.injEq, Addr.mk.injEq, and_true] at this
      exact this.2.symm
    obtain ⟨y1, y2⟩ := y
    simp only at e e2
    subst e; subst e2
    exact ⟨j, C, hx.set j⟩
  · refine ⟨i2, C2, hy.keep (Below.heap_setCell _ _ _ _ e) (Below.heap_setCell _ _ _ _ ?_)⟩
    obtain ⟨_, r, k, _⟩ := hy
    exact blk_ne k hx.1 (by decide)
theorem MS.leaf {pc : Nat} {x : Th} (h : MS N W0 w p mb qo sp de lf S n cc F mc (E ++ [(pc, none)]) pool (x :: out)) :
    MS N W0 (w.setCell ⟨de, E.length * 2 + 1, none⟩ (ptrT (some x))) p mb qo sp de lf S n cc F mc (E ++ [(pc, some x)]) pool out := by
  obtain ⟨e1, e2, e3, e4, e5, e6⟩ := h.sp_ne
  have hfr : Fr (fun b => b = de) w (w.setCell ⟨de, E.length * 2 + 1, none⟩ (ptrT (some x))) := (Fr.refl _ w).set _ rfl
  have kp : ∀ {g : Nat} {o : Obj}, w.heap[g]? = some o → g ≠ de → (w.setCell ⟨de, E.length * 2 + 1, none⟩ (ptrT (some x))).heap[g]? = some o := fun hg hne => (hfr.block _ (blk_lt hg) hne).trans hg
  have kt : ∀ {y : Th} {i : Value} {C : List Int}, ThAt w n cc y i C → ThAt (w.setCell ⟨de, E.length * 2 + 1, none⟩ (ptrT (some x))) n cc y i C := fun {y i C} hx => by
    obtain ⟨_, _, k3, _⟩ := h.th_ne hx
    exact hx.keep (Below.heap_setCell _ _ _ _ k3.1) (Below.heap_setCell _ _ _ _ k3.2)
  have t1 : thr (E ++ [(pc, none)]) = thr E := by simp [thr]
  have t2 : thr (E ++ [(pc, some x)]) = thr E ++ [x] := by simp [thr]
  have hlen : E.length < S := by have h1 := h.len; have h2 := h.ls; rw [List.length_append, List.length_singleton] at h1; omega
  obtain ⟨sa, s1, s2, s3, s4⟩ := h.sa
  obtain ⟨da, d1, d2, d3⟩ := h.da
  have g1 := h.n1; have g2 := h.n2; have g3 := h.lo; have g4 := h.th
  rw [t1] at g1 g2 g3 g4
  have e : thr E ++ (x :: out ++ pool) = thr E ++ [x] ++ (out ++ pool) := by simp
  rw [e] at g1 g2 g3
  refine ⟨kp h.ma (Ne.symm e3), h.m1, h.m8, h.q2, h.mq, ?_, ⟨sa, kp s1 e2, s2, s3, fun i y hy => ?_⟩, ⟨_, blk_set d1 _ _, by simpa using d2, fun i y hy => ?_⟩, kp h.fl e6, ⟨hfr.own h.pl.own (fun g hg e => (h.pool_ne g hg).2.2.1 e), fun y hy => ?_⟩, ?_, by rw [t2]; exact g1, by rw [t2]; exact g2, by rw [t2]; exact g3, h.bl.trans (hfr.to_below h.bl.size (fun i e => by rw [e]; exact h.lo.2.2.1)), ?_, h.ls, h.lm, h.nc, h.cm, h.pm⟩
  · have := h.md; simpa using this
  · by_cases hi : i < E.length
    · exact s4 i y (by rw [List.getElem?_append_left hi] at hy ⊢; exact hy)
    · have hy2 := hy
      rw [List.getElem?_append_right (by omega)] at hy
      cases hq : i - E.length with
      | zero =>
        rw [hq] at hy
        cases hy
        exact s4 i (pc, none) (by rw [List.getElem?_append_right (by omega), hq]; rfl)
      | succ k => rw [hq] at hy; simp at hy
  · by_cases hi : i < E.length
    · have := d3 i y (by rw [List.getElem?_append_left hi] at hy ⊢; exact hy)
      rw [Array.getElem?_setIfInBounds_ne (by omega), Array.getElem?_setIfInBounds_ne (by omega)]
      exact this
    · rw [List.getElem?_append_right (by omega)] at hy
      cases hq : i - E.length with
      | zero =>
        rw [hq] at hy
        cases hy
        have hi2 : i = E.length := by omega
        subst hi2
        have := d3 E.length (pc, none) (by rw [List.getElem?_append_right (by omega), Nat.sub_self]; rfl)
        rw [Array.getElem?_setIfInBounds_ne (by omega), Array.getElem?_setIfInBounds_self_of_lt (by omega)]
        exact ⟨this.1, rfl⟩
      | succ k => rw [hq] at hy; simp at hy
  · obtain ⟨i, C, hC⟩ := h.pl.th y hy; exact ⟨i, C, kt hC⟩
  · rw [t2]
    intro y hy
    obtain ⟨i, C, hC⟩ := g4 y (by simpa using hy)
    exact ⟨i, C, kt hC⟩
  · have := h.fi; simpa using this
theorem MS.pop {x : Th} {pool' : List Th} {pv' : Value} (h : MS N W0 w p mb qo sp de lf S n cc F mc E pool out) (hma : w'.heap[mb]? = some (mach (up mc 6 pv'))) (he : pool = pool' ++ [x]) (hfr : Fr (fun b => b = mb ∨ b = x.1) w w') {i : Value} {C : List Int} (hx : ThAt w' n cc x i C)
    (hown : w'.ownsRow W0.heap.size 150 1 pv' pool'.length (pool'.map fun x => .pointer (some ⟨x.1, 0, none⟩))) : MS N W0 w' p mb qo sp de lf S n cc F (up mc 6 pv') E pool' (x :: out) := by
  subst he
  obtain ⟨e1, e2, e3, e4, e5, e6⟩ := h.sp_ne
  obtain ⟨i0, C0, hx0⟩ := h.pl.th x (by simp)
  obtain ⟨k1, k2, k3, k4, k5⟩ := h.th_ne hx0
  have kp : ∀ {g : Nat} {o : Obj}, w.heap[g]? = some o → g ≠ mb → x.1 ≠ g → w'.heap[g]? = some o := fun hg a b => (hfr.block _ (blk_lt hg) (by rintro (e | e); exact a e; exact b e.symm)).trans hg
  obtain ⟨sa, s1, s2⟩ := h.sa
  obtain ⟨da, d1, d2⟩ := h.da
  have hq := h.q2
  have u : ∀ i, i ≠ 6 → up mc 6 pv' i = mc i := fun i hi => up_ne _ _ hi
  have hperm : (thr E ++ (x :: out ++ pool')).Perm (thr E ++ (out ++ (pool' ++ [x]))) := by
    refine List.Perm.append_left _ ?_
    rw [← List.append_assoc]
    exact (List.perm_append_singleton x (out ++ pool')).symm
  have kt : ∀ {y : Th}, y ∈ thr E ++ (out ++ pool') → (∃ i C, ThAt w n cc y i C) → ∃ i C, ThAt w' n cc y i C := fun {y} hy ⟨i, C, hC⟩ => by
    have hne : y.1 ≠ x.1 := by
      intro e
      have hn := h.n1
      rw [← List.append_assoc, ← List.append_assoc, List.map_append, List.nodup_append] at hn
      refine hn.2.2 y.1 (List.mem_map_of_mem (by rwa [List.append_assoc])) x.1 (by simp) e
    have hn2 : y.2 ≠ x.1 := by obtain ⟨_, r, k, _⟩ := hC; exact blk_ne k hx0.1 (by decide)
    obtain ⟨c1, _⟩ := h.th_ne hC
    exact ⟨i, C, hC.keep (hfr.block _ (blk_lt hC.1) (by rintro (e | e); exact c1.1 e; exact hne e)) (hfr.block _ hC.2.lt (by rintro (e | e); exact c1.2 e; exact hn2 e))⟩
  refine ⟨hma, by rw [u 1 (by omega)]; exact h.m1, by rw [u 8 (by omega)]; exact h.m8, h.q2, by rw [u qo (by omega)]; exact h.mq, by rw [u (qo + 1) (by omega)]; exact h.md, ⟨sa, kp s1 e1 k2.1, s2⟩, ⟨da, kp d1 e3 k3.1, d2⟩, kp h.fl e4 k4, ⟨by rw [up_same]; exact hown, fun y hy => ?_⟩, fun y hy => ?_, ?_, ?_, ?_, h.bl.trans (hfr.to_below h.bl.size ?_), h.fi, h.ls, h.lm, h.nc, h.cm, by have := h.pm; simp at this; omega⟩
  · exact kt (by simp [hy]) (h.pl.th y (by simp [hy]))
  · rcases List.mem_append.1 hy with hy1 | hy1
    · exact kt (by simp [hy1]) (h.th y (by simp [hy1]))
    · rcases List.mem_cons.1 hy1 with e | hy2
      · subst e; exact ⟨i, C, hx⟩
      · exact kt (by simp [hy2]) (h.th y (by simp [hy2]))
  · exact ((hperm.map Prod.fst).nodup_iff).2 h.n1
  · exact ((hperm.map Prod.snd).nodup_iff).2 h.n2
  · exact ⟨h.lo.1, h.lo.2.1, h.lo.2.2.1, fun y hy => h.lo.2.2.2 y (hperm.mem_iff.1 hy)⟩
  · rintro b (e | e)
    · rw [e]; exact h.lo.1
    · rw [e]; exact (h.lo.2.2.2 x (by simp)).1
theorem MS.fresh {x : Th} {pv' : Value} (h : MS N W0 w p mb qo sp de lf S n cc F mc E [] out) (hma : w'.heap[mb]? = some (mach (up mc 6 pv'))) (h1 : w.heap.size ≤ x.1) (h2 : w.heap.size ≤ x.2) (hfr : Fr (fun _ => False) w w') {i : Value} {C : List Int} (hx : ThAt w' n cc x i C)
    (hown : w'.ownsRow W0.heap.size 150 1 pv' 0 []) : MS N W0 w' p mb qo sp de lf S n cc F (up mc 6 pv') E [] (x :: out) := by
  have kp : ∀ {g : Nat} {o : Obj}, w.heap[g]? = some o → w'.heap[g]? = some o := fun hg => (hfr.block _ (blk_lt hg) (fun h => h)).trans hg
  obtain ⟨sa, s1, s2⟩ := h.sa
  obtain ⟨da, d1, d2⟩ := h.da
  have hq := h.q2
  have u : ∀ i, i ≠ 6 → up mc 6 pv' i = mc i := fun i hi => up_ne _ _ hi
  have kt : ∀ {y : Th}, (∃ i C, ThAt w n cc y i C) → ∃ i C, ThAt w' n cc y i C := fun {y} ⟨i, C, hC⟩ => ⟨i, C, hC.keep (hfr.block _ (blk_lt hC.1) (fun h => h)) (hfr.block _ hC.2.lt (fun h => h))⟩
  have hperm : (x :: (thr E ++ (out ++ []))).Perm (thr E ++ (x :: out ++ [])) := by
    rw [List.cons_append]; exact List.perm_middle.symm
  have hbs := h.bl.size
  refine ⟨hma, by rw [u 1 (by omega)]; exact h.m1, by rw [u 8 (by omega)]; exact h.m8, h.q2, by rw [u qo (by omega)]; exact h.mq, by rw [u (qo + 1) (by omega)]; exact h.md, ⟨sa, kp s1, s2⟩, ⟨da, kp d1, d2⟩, kp h.fl, ⟨by rw [up_same]; exact hown, fun y hy => by cases hy⟩, fun y hy => ?_, ?_, ?_, ?_, h.bl.trans (hfr.to_below h.bl.size (fun _ h => h.elim)), h.fi, h.ls, h.lm, h.nc, h.cm, h.pm⟩
  · rcases List.mem_append.1 hy with hy1 | hy1
    · exact kt (h.th y (by simp [hy1]))
    · rcases List.mem_cons.1 hy1 with e | hy2
      · subst e; exact ⟨i, C, hx⟩
      · exact kt (h.th y (by simp [hy2]))
  · refine ((hperm.map Prod.fst).nodup_iff).1 (List.nodup_cons.2 ⟨fun hm => ?_, h.n1⟩)
    obtain ⟨y, hy, e⟩ := List.mem_map.1 hm
    obtain ⟨i, C, hC⟩ := h.th_all y hy
    have := blk_lt hC.1
    omega
  · refine ((hperm.map Prod.snd).nodup_iff).1 (List.nodup_cons.2 ⟨fun hm => ?_, h.n2⟩)
    obtain ⟨y, hy, e⟩ := List.mem_map.1 hm
    obtain ⟨i, C, hC⟩ := h.th_all y hy
    have := hC.2.lt
    omega
  · refine ⟨h.lo.1, h.lo.2.1, h.lo.2.2.1, fun y hy => ?_⟩
    rcases List.mem_cons.1 (hperm.mem_iff.2 hy) with e | hy
    · subst e; omega
    · exact h.lo.2.2.2 y hy
end
end Go.Proofs.YteoljppcafakpaaDoor.PgFnPgWalk
