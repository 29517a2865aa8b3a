import Derived.Test.YteoljppcafakpaaDoorVcFnPgWalk
import Derived.Laws.CopyOwn
import Derived.LaidEqlPtr
namespace Go.Proofs.YteoljppcafakpaaDoor.PgFnPgWalk
open Go.RowKit Go.Proofs.YteoljppcafakpaaDoor.EvN Go.Proofs.YteoljppcafakpaaDoor.Row Go.Proofs.YteoljppcafakpaaDoor.PFnPgWalk Go.Proofs.YteoljppcafakpaaDoorW.PrintWords Go.Proofs.YteoljppcafakpaaDoorW.PrintLast Go.Proofs.YteoljppcafakpaaDoorW.PrintMore
def touched (mb sp de : Nat) (pool : List Th) (t : Option Th) : Nat → Prop := fun b => b = mb ∨ b = sp ∨ b = de ∨ (∃ x ∈ pool, b = x.1 ∨ b = x.2) ∨ (∃ x, t = some x ∧ b = x.1)
section
variable {N : Nat} {W0 w w1 w2 : World} {p mb qo sp de lf S n cc : Nat} {F : Int} {ad : Addr} {mc mc1 mc2 : Nat → Value} {E : List En} {pool pool1 pool2 out : List Th} {t t1 t2 : Option Th} {A A1 A2 : List Ae} {new1 new2 : List En}
structure AR (N : Nat) (W0 : World) (p mb qo sp de lf S n cc : Nat) (F : Int) (ad : Addr) (A : List Ae) (w : World) (mc : Nat → Value) (E : List En) (pool : List Th) (t : Option Th) (out : List Th) (w' : World) (mc' : Nat → Value) (new : List En) (pool' : List Th) (t' : Option Th) : Prop where
  ms : MS N W0 w' p mb qo sp de lf S n cc F mc' (E ++ new) pool' (t'.toList ++ out)
  rel : Rel w' ad n cc new A
  tt : t' = t ∨ t' = none
  pp : ∃ r, pool = pool' ++ r
  nt : ∀ x ∈ thr new, x ∈ pool ∨ t = some x ∨ (w.heap.size ≤ x.1 ∧ w.heap.size ≤ x.2)
  fr : Fr (touched mb sp de pool t) w w'
  mm : ∀ i, i ≠ qo + 1 → i ≠ 6 → mc' i = mc i
  m6 : (mc' 6).ownBlock = (mc 6).ownBlock
theorem MS.untouched (h : MS N W0 w p mb qo sp de lf S n cc F mc E pool (t.toList ++ out)) {x : Th} (hx : x ∈ thr E ++ out) : ¬ touched mb sp de pool t x.1 ∧ ¬ touched mb sp de pool t x.2 := by
  have hx' : x ∈ thr E ++ (t.toList ++ out ++ pool) := by
    rcases List.mem_append.1 hx with h | h <;> simp [h]
  obtain ⟨i, C, hC⟩ := h.th_all x hx'
  obtain ⟨k1, k2, k3, _⟩ := h.th_ne hC
  have hy : ∀ y, y ∈ pool ∨ t = some y → x.1 ≠ y.1 ∧ x.2 ≠ y.2 ∧ x.1 ≠ y.2 ∧ x.2 ≠ y.1 := by
    intro y hy
    have hyin : y ∈ t.toList ++ pool := by rcases hy with h | h <;> simp [h]
    have hyall : y ∈ thr E ++ (t.toList ++ out ++ pool) := by rcases hy with h | h <;> simp [h]
    obtain ⟨j, C2, hC2⟩ := h.th_all y hyall
    have hperm : (thr E ++ (t.toList ++ out ++ pool)).Perm (thr E ++ out ++ (t.toList ++ pool)) := by
      rw [List.append_assoc, List.append_assoc]
      refine List.Perm.append_left _ ?_
      rw [← List.append_assoc, ← List.append_assoc]
      exact List.Perm.append_right _ List.perm_append_comm
    have g1 := ((hperm.map Prod.fst).nodup_iff).1 h.n1
    have g2 := ((hperm.map Prod.snd).nodup_iff).1 h.n2
    rw [List.map_append, List.nodup_append] at g1 g2
    refine ⟨g1.2.2 _ (List.mem_map_of_mem hx) _ (List.mem_map_of_mem hyin), g2.2.2 _ (List.mem_map_of_mem hx) _ (List.mem_map_of_mem hyin), ?_, ?_⟩
    · obtain ⟨_, r, k, _⟩ := hC2; exact blk_ne hC.1 k (by decide)
    · obtain ⟨_, r, k, _⟩ := hC; exact blk_ne k hC2.1 (by decide)
  refine ⟨?_, ?_⟩
  · rintro (a | a | a | ⟨y, hy1, a | a⟩ | ⟨y, hy1, a⟩)
    · exact k1.1 a
    · exact k2.1 a
    · exact k3.1 a
    · exact (hy y (.inl hy1)).1 a
    · exact (hy y (.inl hy1)).2.2.1 a
    · exact (hy y (.inr hy1)).1 a
  · rintro (a | a | a | ⟨y, hy1, a | a⟩ | ⟨y, hy1, a⟩)
    · exact k1.2 a
    · exact k2.2 a
    · exact k3.2 a
    · exact (hy y (.inl hy1)).2.2.2 a
    · exact (hy y (.inl hy1)).2.1 a
    · exact (hy y (.inr hy1)).2.2.2 a
theorem touched_mono {b : Nat} (hp : ∀ x ∈ pool1, x ∈ pool) (ht : t1 = t ∨ t1 = none) (h : touched mb sp de pool1 t1 b) : touched mb sp de pool t b := by
  rcases h with a | a | a | ⟨y, hy1, a⟩ | ⟨y, hy1, a⟩
  · exact .inl a
  · exact .inr (.inl a)
  · exact .inr (.inr (.inl a))
  · exact .inr (.inr (.inr (.inl ⟨y, hp y hy1, a⟩)))
  · rcases ht with e | e
    · exact .inr (.inr (.inr (.inr ⟨y, by rw [← e]; exact hy1, a⟩)))
    · rw [e] at hy1; cases hy1
theorem AR.refl (h : MS N W0 w p mb qo sp de lf S n cc F mc E pool (t.toList ++ out)) : AR N W0 p mb qo sp de lf S n cc F ad [] w mc E pool t out w mc [] pool t :=
  ⟨by simpa using h, trivial, .inl rfl, ⟨[], by simp⟩, fun x hx => by simp [thr] at hx, Fr.refl _ _, fun _ _ _ => rfl, rfl⟩
theorem AR.trans (h1 : AR N W0 p mb qo sp de lf S n cc F ad A1 w mc E pool t out w1 mc1 new1 pool1 t1) (h2 : AR N W0 p mb qo sp de lf S n cc F ad A2 w1 mc1 (E ++ new1) pool1 t1 out w2 mc2 new2 pool2 t2) :
    AR N W0 p mb qo sp de lf S n cc F ad (A1 ++ A2) w mc E pool t out w2 mc2 (new1 ++ new2) pool2 t2 := by
  obtain ⟨r1, p1⟩ := h1.pp
  obtain ⟨r2, p2⟩ := h2.pp
  have hp : ∀ x ∈ pool1, x ∈ pool := fun x hx => by rw [p1]; simp [hx]
  refine ⟨by rw [← List.append_assoc]; exact h2.ms, Rel.append (h1.rel.keep fun x hx => ?_) h2.rel, ?_, ⟨r2 ++ r1, by rw [p1, p2, List.append_assoc]⟩, fun x hx => ?_, h1.fr.trans h2.fr (fun i _ hn ht => hn (touched_mono hp h1.tt ht)), fun i a b => (h2.mm i a b).trans (h1.mm i a b), h2.m6.trans h1.m6⟩
  · have hx2 : x ∈ thr (E ++ new1) ++ out := by rw [thr_append]; simp [hx]
    obtain ⟨u1, u2⟩ := h1.ms.untouched hx2
    obtain ⟨i, C, hC⟩ := h1.ms.th x (by rw [thr_append]; simp [hx])
    exact ⟨h2.fr.block _ (blk_lt hC.1) u1, h2.fr.block _ hC.2.lt u2⟩
  · rcases h2.tt with e | e
    · rw [e]; exact h1.tt
    · exact .inr e
  · rw [thr_append] at hx
    rcases List.mem_append.1 hx with hx | hx
    · exact h1.nt x hx
    · rcases h2.nt x hx with a | a | ⟨a, b⟩
      · exact .inl (hp x a)
      · rcases h1.tt with e | e
        · exact .inr (.inl (by rw [← e]; exact a))
        · rw [e] at a; cases a
      · have := h1.fr.size
        exact .inr (.inr ⟨by omega, by omega⟩)
theorem AR.push (h : MS N W0 w p mb qo sp de lf S n cc F mc E pool (t.toList ++ out)) {pc : Nat} (hpc : pc < N) (hd : pc ∉ E.map Prod.fst) :
    AR N W0 p mb qo sp de lf S n cc F ad [(pc, none)] w mc E pool t out (PgFnPgWalk.push w mb qo sp de S E.length pc) (up mc (qo + 1) (.slice (some ⟨de, 0, none⟩) (E.length + 1) S)) [(pc, none)] pool t := by
  have hq := h.q2
  refine ⟨h.push pc hpc hd, ⟨⟨rfl, trivial⟩, trivial⟩, .inl rfl, ⟨[], by simp⟩, fun x hx => by simp [thr] at hx, (push_fr w mb qo sp de S E.length pc).mono (fun i _ a => ?_), fun i a b => up_ne _ _ a, by rw [up_ne _ _ (by omega)]⟩
  rcases a with a | a | a
  · exact .inl a
  · exact .inr (.inl a)
  · exact .inr (.inr (.inl a))
theorem AR.leaf {pc : Nat} {x : Th} {C : List Int} (h : MS N W0 w1 p mb qo sp de lf S n cc F mc1 (E ++ [(pc, none)]) pool1 (x :: out)) (hx : ThAt w1 n cc x (.pointer (some (ad.add (pc * 4)))) C) (hfr : Fr (touched mb sp de pool t) w w1) (hpp : ∃ r, pool = pool1 ++ r) (hnt : x ∈ pool ∨ t = some x ∨ (w.heap.size ≤ x.1 ∧ w.heap.size ≤ x.2))
    (hmm : ∀ i, i ≠ qo + 1 → i ≠ 6 → mc1 i = mc i) (h6 : (mc1 6).ownBlock = (mc 6).ownBlock) :
    AR N W0 p mb qo sp de lf S n cc F ad [(pc, some C)] w mc E pool t out (w1.setCell ⟨de, E.length * 2 + 1, none⟩ (ptrT (some x))) mc1 [(pc, some x)] pool1 none := by
  obtain ⟨_, _, k3, _⟩ := h.th_ne hx
  refine ⟨h.leaf, ⟨⟨rfl, hx.keep (Below.heap_setCell _ _ _ _ k3.1) (Below.heap_setCell _ _ _ _ k3.2)⟩, trivial⟩, .inr rfl, hpp, fun y hy => ?_, hfr.set _ (.inr (.inr (.inl rfl))), hmm, h6⟩
  simp [thr] at hy
  subst hy
  exact hnt
theorem CapAt.set {cb k : Nat} {C : List Int} (h : CapAt w n cc cb C) (hk : k < n) (v : Int) : CapAt (w.setCell ⟨cb, k, none⟩ (.int .i64 v)) n cc cb (C.set k v) := by
  obtain ⟨r, h1, h2, h3⟩ := h
  refine ⟨r, ?_, by simpa using h2, h3⟩
  rw [blk_set h1 k, List.setIfInBounds_toArray, List.set_append_left k _ (by simp; omega), ← List.map_set]
theorem CapAt.cell {cb k : Nat} {C : List Int} (h : CapAt w n cc cb C) (hk : k < C.length) : w.cell? ⟨cb, k, none⟩ = some (.int .i64 C[k]) := by
  obtain ⟨r, h1, h2, h3⟩ := h
  rw [blk_cell h1]
  simp [List.getElem?_append_left, hk]
theorem AR.capt {cb k : Nat} {C : List Int} {v : Int} (h : MS N W0 w p mb qo sp de lf S n cc F mc E pool (t.toList ++ out)) (hc : CapAt w n cc cb C) (hcb : ∀ x ∈ pool, x.2 ≠ cb) (hlo : W0.heap.size ≤ cb) (hk : k < n) (hkC : k < C.length)
    (h1 : AR N W0 p mb qo sp de lf S n cc F ad A (w.setCell ⟨cb, k, none⟩ (.int .i64 v)) mc E pool none (t.toList ++ out) w1 mc1 new1 pool1 t1) :
    AR N W0 p mb qo sp de lf S n cc F ad A w mc E pool t out (w1.setCell ⟨cb, k, none⟩ (.int .i64 C[k])) mc1 new1 pool1 t := by
  have ht1 : t1 = none := by rcases h1.tt with e | e <;> exact e
  subst ht1
  have hsz : (w.setCell ⟨cb, k, none⟩ (.int .i64 v)).heap.size = w.heap.size := by simp [World.setCell]
  have lcb := hc.lt
  obtain ⟨r, hb, hl, hr⟩ := hc
  have hc : CapAt w n cc cb C := ⟨r, hb, hl, hr⟩
  obtain ⟨sa, s1, _⟩ := h.sa
  obtain ⟨da, d1, _⟩ := h.da
  have hun : ¬ touched mb sp de pool none cb := by
    rintro (a | a | a | ⟨y, hy1, a | a⟩ | ⟨y, hy1, a⟩)
    · exact blk_ne hb h.ma (by decide) a
    · exact blk_ne hb s1 (by decide) a
    · exact blk_ne hb d1 (by decide) a
    · obtain ⟨i, C2, hC2⟩ := h.pl.th y hy1
      exact blk_ne hb hC2.1 (by decide) a
    · exact hcb y hy1 a.symm
    · cases hy1
  have hb1 : w1.heap[cb]? = some (.cells (C.map (Value.int .i64) ++ r).toArray.toList.toArray 3 (0, 0)) → True := fun _ => trivial
  have e1 := h1.fr.block cb (by omega) hun
  have hc1 : CapAt w1 n cc cb (C.set k v) := (hc.set hk v).keep e1
  have e2 : (w1.setCell ⟨cb, k, none⟩ (.int .i64 C[k])).heap[cb]? = w.heap[cb]? := by
    have a := e1.trans (blk_set hb k (.int .i64 v))
    rw [blk_set a k, hb, List.setIfInBounds_toArray, List.setIfInBounds_toArray, List.set_set, List.set_append_left k _ (by simp; omega), ← List.map_set, List.set_getElem_self]
  have hnx : ∀ x ∈ thr new1, x.2 ≠ cb := by
    intro x hx
    rcases h1.nt x hx with a | a | ⟨a, b⟩
    · exact hcb x a
    · cases a
    · omega
  have hnx1 : ∀ x ∈ thr new1, x.1 ≠ cb := by
    intro x hx
    obtain ⟨i, C2, hC2⟩ := h1.ms.th x (by rw [thr_append]; simp [hx])
    obtain ⟨r1, k1, _⟩ := hc1
    exact blk_ne hC2.1 k1 (by decide)
  refine ⟨?_, h1.rel.keep fun x hx => ⟨Below.heap_setCell _ _ _ _ (hnx1 x hx), Below.heap_setCell _ _ _ _ (hnx x hx)⟩, .inl rfl, h1.pp, fun x hx => ?_, ⟨?_, ?_, ?_, ?_, fun b hb hn => ?_⟩, h1.mm, h1.m6⟩
  · have := h1.ms
    refine MS.cap (by simpa using this) hc1 ((Fr.refl _ w1).set _ rfl) hlo (hc.keep e2)
  · rcases h1.nt x hx with a | a | ⟨a, b⟩
    · exact .inl a
    · cases a
    · exact .inr (.inr ⟨by omega, by omega⟩)
  · exact h1.fr.os
  · exact h1.fr.tape
  · exact h1.fr.output
  · have := h1.fr.size; simp [World.setCell] at this ⊢; exact this
  · by_cases e : b = cb
    · rw [e]; exact e2
    · refine (Below.heap_setCell _ _ _ _ e).trans ((h1.fr.block b (by omega) (fun a => hn (touched_mono (fun _ h => h) (.inr rfl) a))).trans (Below.heap_setCell _ _ _ _ e))
end
section
variable {N : Nat} {W0 w w1 : World} {p mb qo sp de lf S n cc : Nat} {F : Int} {ad : Addr} {mc mc1 : Nat → Value} {E : List En} {pool pool1 out : List Th} {t t1 : Option Th} {A : List Ae} {new : List En}
theorem MS.drewN (h : MS N W0 w p mb qo sp de lf S n cc F mc E pool out) (m : Nat) : MS N W0 (w.drewN m) p mb qo sp de lf S n cc F mc E pool out :=
  ⟨h.ma, h.m1, h.m8, h.q2, h.mq, h.md, h.sa, h.da, h.fl, ⟨h.pl.own, h.pl.th⟩, h.th, h.n1, h.n2, h.lo, ⟨h.bl.os, h.bl.tape, h.bl.output, h.bl.size, h.bl.block⟩, h.fi, h.ls, h.lm, h.nc, h.cm, h.pm⟩
theorem Fr.drewN {T : Nat → Prop} (h : Fr T w w1) (m : Nat) : Fr T w (w1.drewN m) := ⟨h.os, h.tape, h.output, h.size, h.block⟩
theorem AR.drewN (h : AR N W0 p mb qo sp de lf S n cc F ad A w mc E pool t out w1 mc1 new pool1 t1) (m : Nat) : AR N W0 p mb qo sp de lf S n cc F ad A w mc E pool t out (w1.drewN m) mc1 new pool1 t1 :=
  ⟨h.ms.drewN m, h.rel.keep (fun _ _ => ⟨rfl, rfl⟩), h.tt, h.pp, h.nt, h.fr.drewN m, h.mm, h.m6⟩
theorem alloc_ms {cb : Nat} {C C3 : List Int} {x : Th} {pv : Value} {iv : Value} (h : MS N W0 w p mb qo sp de lf S n cc F mc E pool out) (hc : CapAt w n cc cb C) (hcb : ∀ x ∈ pool, x.2 ≠ cb) (hth : ThAt w1 n cc x iv C3) (hma : w1.heap[mb]? = some (mach (up mc 6 pv)))
    (hor : (pool = pool1 ++ [x] ∧ Fr (fun b => b = mb ∨ b = x.1) w w1) ∨ (pool = [] ∧ pool1 = [] ∧ w.heap.size ≤ x.1 ∧ w.heap.size ≤ x.2 ∧ Fr (fun _ => False) w w1)) (hown : w1.ownsRow W0.heap.size 150 1 pv pool1.length (pool1.map fun x => .pointer (some ⟨x.1, 0, none⟩))) :
    MS N W0 w1 p mb qo sp de lf S n cc F (up mc 6 pv) E pool1 (x :: out) ∧ Fr (touched mb sp de pool none) w w1 ∧ (∃ r, pool = pool1 ++ r) ∧ (x ∈ pool ∨ (w.heap.size ≤ x.1 ∧ w.heap.size ≤ x.2)) ∧ x.2 ≠ cb ∧ CapAt w1 n cc cb C ∧ W0.heap.size ≤ x.2 := by
  have hx0 : ∀ b, CapAt w n cc b C → b ≠ mb := fun b hb => by obtain ⟨r, k, _⟩ := hb; exact blk_ne k h.ma (by decide)
  rcases hor with ⟨he, hfr⟩ | ⟨he1, he2, h1, h2, hfr⟩
  · have hxp : x ∈ pool := by rw [he]; simp
    obtain ⟨i0, C0, hx⟩ := h.pl.th x hxp
    refine ⟨h.pop hma he hfr hth hown, hfr.mono (fun i _ a => ?_), ⟨_, he⟩, .inl hxp, hcb x hxp, hc.keep (hfr.block cb hc.lt ?_), (h.lo.2.2.2 x (by simp [hxp])).2⟩
    · rcases a with a | a
      · exact .inl a
      · exact .inr (.inr (.inr (.inl ⟨x, hxp, .inl a⟩)))
    · rintro (a | a)
      · exact hx0 cb hc a
      · obtain ⟨r, k, _⟩ := hc; exact blk_ne k hx.1 (by decide) a
  · subst he1; subst he2
    have := hc.lt
    have hb := h.bl.size
    exact ⟨h.fresh hma h1 h2 hfr hth hown, hfr.mono (fun _ _ a => a.elim), ⟨[], rfl⟩, .inr ⟨h1, h2⟩, by omega, hc.keep (hfr.block cb hc.lt (fun a => a)), by omega⟩
end
section
variable {N : Nat} {W0 w1 w2 w4 : World} {p mb qo sp de lf S n cc : Nat} {F : Int} {ad : Addr} {mc1 mc2 : Nat → Value} {E : List En} {pool1 pool3 out : List Th}
theorem AR.leafN {pc : Nat} {x : Th} {C : List Int} {pv : Value} (hPU : AR N W0 p mb qo sp de lf S n cc F ad [(pc, none)] w1 mc1 E pool1 none out w2 mc2 [(pc, none)] pool1 none) (hM : MS N W0 w4 p mb qo sp de lf S n cc F (up mc2 6 pv) (E ++ [(pc, none)]) pool3 (x :: out)) (hF : Fr (touched mb sp de pool1 none) w2 w4)
    (hpp : ∃ r, pool1 = pool3 ++ r) (hnt : x ∈ pool1 ∨ (w2.heap.size ≤ x.1 ∧ w2.heap.size ≤ x.2)) (hob : pv.ownBlock = (mc2 6).ownBlock) (hT : ThAt w4 n cc x (.pointer (some (ad.add (pc * 4)))) C) :
    AR N W0 p mb qo sp de lf S n cc F ad [(pc, some C)] w1 mc1 E pool1 none out (w4.setCell ⟨de, E.length * 2 + 1, none⟩ (ptrT (some x))) (up mc2 6 pv) [(pc, some x)] pool3 none := by
  have hs := hPU.fr.size
  refine AR.leaf hM hT (hPU.fr.trans hF (fun _ _ a b => a b)) hpp ?_ (fun i a b => (up_ne _ _ b).trans (hPU.mm i a b)) (by rw [up_same, hob]; exact hPU.m6)
  rcases hnt with a | ⟨a, b⟩
  · exact .inl a
  · exact .inr (.inr ⟨by omega, by omega⟩)
theorem AR.leafT {pc : Nat} {x : Th} {C : List Int} (hPU : AR N W0 p mb qo sp de lf S n cc F ad [(pc, none)] w1 mc1 E pool1 (some x) out w2 mc2 [(pc, none)] pool1 (some x)) (hM : MS N W0 w4 p mb qo sp de lf S n cc F mc2 (E ++ [(pc, none)]) pool1 (x :: out)) (hF : Fr (fun b => b = x.1) w2 w4) (hT : ThAt w4 n cc x (.pointer (some (ad.add (pc * 4)))) C) :
    AR N W0 p mb qo sp de lf S n cc F ad [(pc, some C)] w1 mc1 E pool1 (some x) out (w4.setCell ⟨de, E.length * 2 + 1, none⟩ (ptrT (some x))) mc2 [(pc, some x)] pool1 none :=
  AR.leaf hM hT (hPU.fr.trans hF (fun _ _ a b => a (.inr (.inr (.inr (.inr ⟨x, rfl, b⟩)))))) ⟨[], by simp⟩ (.inr (.inl rfl)) hPU.mm hPU.m6
end
theorem Fr.via {w1 w2 w3 : World} {mb sp de b : Nat} {pool : List Th} {t : Option Th} (h : Fr (touched mb sp de pool t) w1 w2) (k : Fr (fun i => i = b) w2 w3) (hb : (∃ x ∈ pool, b = x.2) ∨ w1.heap.size ≤ b) : Fr (touched mb sp de pool t) w1 w3 :=
  h.trans k (fun i hi hn e => by
    rcases hb with ⟨x, hx, e2⟩ | hb
    · exact hn (.inr (.inr (.inr (.inl ⟨x, hx, .inr (e.trans e2)⟩))))
    · omega)
theorem neq_same (a : Addr) (W : World) : (binOp .neq 189 (.pointer (some a)) (.pointer (some a))).run Tryd.prog W = .ok (.bool false) W := by
  obtain ⟨i, hi, _⟩ := info_parts iint
  have h : ∀ d : Nat, (Op.equalIn (d + 1) 189 (.pointer (some a)) (.pointer (some a))).run Tryd.prog W = .ok true W := fun d => by
    simp [Op.equalIn, run_underlying Tryd.underlying189, sizeOf, typeInfo, hi, run_sameAddr_same]
  simp only [binOp]
  simp [Op.equal, Op.maxDepth, h 9999]
theorem neq_other {a b : Addr} {ca cb : Array Value} (W : World) (hne : a ≠ b) (ha : W.heap[a.block]? = some (.cells ca 3 (0, 0))) (hb : W.heap[b.block]? = some (.cells cb 3 (0, 0))) :
    (binOp .neq 189 (.pointer (some a)) (.pointer (some b))).run Tryd.prog W = .ok (.bool true) W := by
  obtain ⟨i, hi, hz, hsize, hby⟩ := info_parts iint
  have h : ∀ d : Nat, (Op.equalIn (d + 1) 189 (.pointer (some a)) (.pointer (some b))).run Tryd.prog W = .ok false W := fun d => by
    simp [Op.equalIn, run_underlying Tryd.underlying189, sizeOf, typeInfo, hi, hsize, run_sameAddr_other W hne ha hb]
  simp only [binOp]
  simp [Op.equal, Op.maxDepth, h 9999]
theorem run_copy_cap (w : World) (x cb n cc : Nat) (C C3 : List Int) (hx : CapAt w n cc x C3) (hc : CapAt w n cc cb C) :
    ∃ w', (Builtin.copy_ #[32, 32] 3 #[.slice (some ⟨x, 0, none⟩) n cc, .slice (some ⟨cb, 0, none⟩) n cc]).run Tryd.prog w = .ok (goInt n) w' ∧ Fr (fun i => i = x) w w' ∧ CapAt w' n cc x C := by
  obtain ⟨r3, g3, l3, m3⟩ := hx
  have hCn : C.length = n := by obtain ⟨_, _, h, _⟩ := hc; exact h
  obtain ⟨i, hi, hz, hsize, hby⟩ := info_parts iint
  have hsz : (Tryd.prog.info? 3).map (·.size) = some 1 := by rw [hi]; simp [hsize]
  have e1 : (C.map (Value.int .i64)).length = n := by simpa using hCn
  have hrun := run_copy_row (P := Tryd.prog) w 32 32 3 3 x 0 n cc ⟨cb, 0, none⟩ n cc _ 3 (C.map (Value.int .i64)) Tryd.underlying32 hsz g3 (by rw [e1]; exact (Nat.min_self n).symm) (fun j v hj => by
    rw [List.getElem?_map] at hj
    cases hq : C[j]? with
    | none => rw [hq] at hj; cases hj
    | some y =>
      rw [hq] at hj
      cases hj
      obtain ⟨hj1, hj2⟩ := List.getElem?_eq_some_iff.1 hq
      have := hc.cell hj1
      rw [hj2] at this
      have e : (⟨cb, 0, none⟩ : Addr).add j = ⟨cb, j, none⟩ := by unfold Addr.add; split <;> simp_all
      rw [e]; exact this) (by simp [hCn, l3]) (fun v hv => by obtain ⟨y, _, rfl⟩ := List.mem_map.1 hv; rfl)
  rw [e1] at hrun
  refine ⟨_, hrun, ⟨rfl, rfl, rfl, by simp [World.setRow], fun b _ hn => setRow_other w x b _ hn⟩, ⟨r3, ?_, hCn, m3⟩⟩
  have e2 : ((C3.map (Value.int .i64) ++ r3).toArray.toList.take 0 ++ C.map (Value.int .i64) ++ (C3.map (Value.int .i64) ++ r3).toArray.toList.drop (0 + n)) = C.map (Value.int .i64) ++ r3 := by
    rw [List.take_zero, List.nil_append, Nat.zero_add]
    exact congrArg _ (List.drop_left' (by simpa using l3))
  exact (setRow_heap w x _ _ 3 (0, 0) g3).trans (by rw [e2])
end Go.Proofs.YteoljppcafakpaaDoor.PgFnPgWalk
