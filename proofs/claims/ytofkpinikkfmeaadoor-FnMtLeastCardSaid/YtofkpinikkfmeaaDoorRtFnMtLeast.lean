/- A tree of the package in memory, behind a pointer; and what keeps it. -/
import Derived.Test.YtofkpinikkfmeaaDoorWfFnMtLeast
import Derived.Deep.RegionHeld3
import Derived.Deep.AppendLies
import Derived.Deep.DrawnRows
import Derived.Maps.AppendAt
namespace Go.Proofs.YtofkpinikkfmeaaDoor.TrFnMtLeast
open Go.RowKit Go.Proofs.YtofkpinikkfmeaaDoor.PFnMtLeast Go.Proofs.YtofkpinikkfmeaaDoorW.PrintWords Go.Proofs.YtofkpinikkfmeaaDoorW.PrintLast Go.Proofs.YtofkpinikkfmeaaDoorW.PrintMore

/-- A slice of one cell each, at its elements; its block is of S. -/
def RowAt (w : World) (S : Nat → Prop) (e : TypeId) (v : Value) (xs : List Value) : Prop :=
  (v = .slice none 0 0 ∧ xs = []) ∨ ∃ g cap cur, v = .slice (some ⟨g, 0, none⟩) xs.length cap ∧ S g ∧ w.heap[g]? = some (.cells cur e (0, 0)) ∧ xs.length ≤ cap ∧ cap ≤ maxLen ∧ cur.size = cap ∧ cur.toList.take xs.length = xs

theorem RowAt.of_owns {w : World} {B : Nat} {e : TypeId} {v : Value} {n : Nat} {xs : List Value} (h : w.ownsRow B e 1 v n xs) {S : Nat → Prop} (hS : ∀ g, v.ownBlock = some g → S g) : RowAt w S e v xs := by
  obtain ⟨hl, h⟩ := h
  have hl' : xs.length = n := by omega
  rcases h with ⟨rfl, rfl⟩ | ⟨g, cap, cur, rfl, _, hg, h1, h2, h3, h4⟩
  · exact .inl ⟨rfl, List.eq_nil_of_length_eq_zero hl'⟩
  · subst hl'
    exact .inr ⟨g, cap, cur, rfl, hS g rfl, hg, h1, h2, by omega, by rwa [Nat.mul_one] at h4⟩

theorem RowAt.mono {w w' : World} {S S' : Nat → Prop} {e : TypeId} {v : Value} {xs : List Value} (h : RowAt w S e v xs) (hs : ∀ i, i < w.heap.size → S i → S' i ∧ w'.heap[i]? = w.heap[i]?) : RowAt w' S' e v xs := by
  rcases h with h | ⟨g, cap, cur, rfl, hS, hg, h⟩
  · exact .inl h
  · obtain ⟨h1, h2⟩ := hs g (blk_lt hg) hS
    exact .inr ⟨g, cap, cur, rfl, h1, h2.trans hg, h⟩

theorem RowAt.cell {w : World} {S : Nat → Prop} {e : TypeId} {v : Value} {xs : List Value} (h : RowAt w S e v xs) (hn : xs ≠ []) :
    ∃ g cap, v = .slice (some ⟨g, 0, none⟩) xs.length cap ∧ S g ∧ g < w.heap.size ∧ xs.length ≤ cap ∧ cap ≤ maxLen ∧ ∀ j (hj : j < xs.length), w.cell? ⟨g, j, none⟩ = some xs[j] := by
  rcases h with ⟨_, h⟩ | ⟨g, cap, cur, rfl, hS, hg, h1, h2, h3, h4⟩
  · exact absurd h hn
  · refine ⟨g, cap, rfl, hS, blk_lt hg, h1, h2, fun j hj => ?_⟩
    rw [blk_cell hg j]
    have := congrArg (fun l => l[j]?) h4
    simp only [List.getElem?_take, if_pos hj] at this
    rw [List.getElem?_eq_getElem hj] at this
    simpa using this

theorem blk11 {w : World} {g : Nat} {ty : TypeId} {v0 v1 v2 v3 v4 v5 v6 v7 v8 v9 v10 : Value} (h : w.heap[g]? = some (.cells #[v0, v1, v2, v3, v4, v5, v6, v7, v8, v9, v10] ty (0, 0))) :
    w.cell? ⟨g, 0, none⟩ = some v0 ∧ w.cell? ⟨g, 1, none⟩ = some v1 ∧ w.cell? ⟨g, 2, none⟩ = some v2 ∧ w.cell? ⟨g, 3, none⟩ = some v3 ∧ w.cell? ⟨g, 4, none⟩ = some v4 ∧ w.cell? ⟨g, 5, none⟩ = some v5 ∧ w.cell? ⟨g, 6, none⟩ = some v6 ∧ w.cell? ⟨g, 7, none⟩ = some v7 ∧ w.cell? ⟨g, 8, none⟩ = some v8 ∧ w.cell? ⟨g, 9, none⟩ = some v9 ∧ w.cell? ⟨g, 10, none⟩ = some v10 :=
  ⟨(blk_cell h 0).trans rfl, (blk_cell h 1).trans rfl, (blk_cell h 2).trans rfl, (blk_cell h 3).trans rfl, (blk_cell h 4).trans rfl, (blk_cell h 5).trans rfl, (blk_cell h 6).trans rfl, (blk_cell h 7).trans rfl, (blk_cell h 8).trans rfl, (blk_cell h 9).trans rfl, (blk_cell h 10).trans rfl⟩

/-- append(nil, x...): a copy of a row that came in. -/
theorem appn {P : Program} {w : World} {ops : Array Oper} {rest : List Oper} {o : Oper} {a : Act} {Q : Exit → Act → World → Prop} (hgd : o.guard = none) (s x : Operand) (t : TypeId)
    (ho : o.op = .call { callee := .builtin .append, args := #[s, x], argTypes := #[t, t] })
    (e : TypeId) (z : Value) (bytes : Nat) (ht : P.underlying t = some (.slice e)) (hinfo : (P.info? e).map (fun i => (i.zero, i.size, i.bytes)) = some (some z, 1, bytes)) (hz1 : z.cells.size = 1)
    (hs : a.eval s = .slice none 0 0) (A : Option Addr) (n c : Nat) (news : List Value) (hx : a.eval x = .slice A n c) (hl : news.length = n)
    (hA : ∀ j u, news[j]? = some u → ∃ ad, A = some ad ∧ w.cell? (ad.add j) = some u) (h1 : ∀ u ∈ news, u.oneCell' = true)
    (hbytes : n * bytes ≤ 140737488355328) (hn : n ≤ maxLen)
    (h : ∀ v' w', w'.ownsRow w.heap.size e 1 v' n news → Below w.heap.size w w' → wpList P ops Q rest (a.put o.dst v') w') : wpList P ops Q (o :: rest) a w := by
  obtain ⟨i, hi, hz, hsize, hby⟩ := info_parts hinfo
  cases A with
  | some ad =>
    refine wpList_append_own w hgd s x t ho w.heap.size e i z 1 bytes ht hi hz hsize hby hz1 (by decide) (.slice none 0 0) 0 [] hs (World.ownsRow_nil w w.heap.size e 1) ad n c news hx (by omega) ?_ h1 (by omega) (by rw [Nat.zero_add]; exact hbytes) (Nat.le_refl _) ?_
    · intro j u hj
      obtain ⟨ad', h1, h2⟩ := hA j u hj
      cases h1; exact h2
    · intro v' w' hown hgrow _
      rw [Nat.zero_add, List.nil_append] at hown
      exact h v' w' hown (Below.grown (Below.refl _ _) hgrow (Nat.le_refl _) (fun k hk => by cases hk))
  | none =>
    have hn0 : news = [] := by
      cases news with
      | nil => rfl
      | cons u l => obtain ⟨_, h, _⟩ := hA 0 u rfl; cases h
    subst hn0
    have hn1 : n = 0 := by simpa using hl.symm
    subst hn1
    refine wpList_plain hgd fun K hK => ?_
    unfold Oper.wp execOp
    have hr : (Builtin.append_ #[t, t] o.type #[.slice none 0 0, .slice none 0 c]).run P w = .ok (.slice none 0 0) w := by
      simp [Builtin.append_, run_underlying ht, sizeOf, typeInfo, hi, Builtin.lenOf, Builtin.firstCells]
    simp only [ho, resolve, invoke, builtin, Sem.run_bind, Sem.run_pure, Result.andThen_ok, List.map_toArray, List.map_cons, List.map_nil, hs, hx, hr]
    exact hK _ _ (h _ w (World.ownsRow_nil w w.heap.size e 1) (Below.refl _ _))

/-- The characters of a node, as cells. -/
theorem runes_cells {W0 w : World} {A : Option Addr} {l : List Int} (h : Kd.C (Kd.int .i32) W0 A l.length l) (hb : Below W0.heap.size W0 w) :
    ∀ j u, (l.map (Value.int .i32))[j]? = some u → ∃ ad, A = some ad ∧ w.cell? (ad.add j) = some u := by
  intro j u hj
  rw [List.getElem?_map] at hj
  cases hp : l[j]? with
  | none => rw [hp] at hj; cases hj
  | some p =>
    rw [hp] at hj
    cases hj
    obtain ⟨_, _, h3⟩ := h
    obtain ⟨ad, hA, hc⟩ := h3 (by have := (List.getElem?_eq_some_iff.1 hp).1; omega)
    obtain ⟨cs, _, hK, hcell⟩ := hc j p hp
    have := hcell 0 (.int .i32 p) (by rw [show cs = [.int .i32 p] from hK]; rfl)
    have h1 : (Kd.int .i32).sz = 1 := rfl
    rw [h1, Nat.mul_one, Nat.add_zero] at this
    exact ⟨ad, hA, (hb.cell (World.block_lt_of_cell? W0 _ this)).trans this⟩

theorem owns_slice {w : World} {B n size : Nat} {e : TypeId} {v : Value} {xs : List Value} (h : w.ownsRow B e size v n xs) : ∃ A c, v = .slice A n c := by
  rcases h.2 with ⟨rfl, rfl⟩ | ⟨g, cap, _, rfl, _⟩
  · exact ⟨none, 0, rfl⟩
  · exact ⟨_, _, rfl⟩

abbrev ptr (b : Nat) : Value := .pointer (some ⟨b, 0, none⟩)

/-- The pointer's block is a node, and its parts are such. -/
inductive RegAt (w : World) (S : Nat → Prop) : Nat → T → Prop
  | mk (b : Nat) (t : T) (vs vr : Value) (bs : List Nat) (hb : S b)
      (hc : w.heap[b]? = some (.cells #[.int .u8 (t.f0 % 256), .int .u16 (IntKind.u16.wrap t.f1), vs, .pointer none, vr, .int .i32 0, .int .i32 0, .int .i64 t.f3, .int .i64 t.f4, .int .i64 t.f5, .string t.f6] 59 (0, 0)))
      (hs : RowAt w S 33 vs (bs.map ptr)) (hr : RowAt w S 21 vr (t.f2.map (.int .i32)))
      (hl : bs.length = t.f7.length) (hk : ∀ j (h : j < bs.length) (h' : j < t.f7.length), RegAt w S bs[j] t.f7[j]) : RegAt w S b t

theorem RegAt.mono {w w' : World} {S S' : Nat → Prop} {b : Nat} {t : T} (h : RegAt w S b t) (hs : ∀ i, i < w.heap.size → S i → S' i ∧ w'.heap[i]? = w.heap[i]?) : RegAt w' S' b t := by
  induction h with
  | mk b t vs vr bs hb hc h1 h2 hl hk ih =>
    obtain ⟨g1, g2⟩ := hs b (blk_lt hc) hb
    exact .mk b t vs vr bs g1 (g2.trans hc) (h1.mono hs) (h2.mono hs) hl ih

/-- The node's own eleven cells. -/
abbrev nodeCells (t : T) (vs vr : Value) : Array Value := #[.int .u8 (t.f0 % 256), .int .u16 (IntKind.u16.wrap t.f1), vs, .pointer none, vr, .int .i32 0, .int .i32 0, .int .i64 t.f3, .int .i64 t.f4, .int .i64 t.f5, .string t.f6]
abbrev boxCells (t : T) (A2 : Option Addr) (c2 : Nat) (A7 : Option Addr) (c7 : Nat) : Array Value := #[.int .i64 t.f0, .int .i64 t.f1, .slice A2 t.f2.length c2, .int .i64 t.f3, .int .i64 t.f4, .int .i64 t.f5, .string t.f6, .slice A7 t.f7.length c7]

/-- A node under way: k of its parts are made. -/
structure Mk (w : World) (t : T) (gb p : Nat) (box : Array Value) (vr : Value) (k : Nat) (wr : World) (vs : Value) (bs : List Nat) : Prop where
  lo : w.heap.size ≤ gb
  lp : gb < p
  bx : wr.heap[gb]? = some (.cells box 25 (0, 0))
  nd : wr.heap[p]? = some (.cells (nodeCells t vs vr) 59 (0, 0))
  bl : Below w.heap.size w wr
  ru : RowAt wr (fun i => w.heap.size ≤ i ∧ i ≠ p ∧ vs.ownBlock ≠ some i) 21 vr (t.f2.map (.int .i32))
  ow : wr.ownsRow w.heap.size 33 1 vs k (bs.map ptr)
  np : vs.ownBlock ≠ some p
  ng : vs.ownBlock ≠ some gb
  le : bs.length = k
  rg : ∀ j (h : j < bs.length) (h' : j < t.f7.length), RegAt wr (fun i => w.heap.size ≤ i ∧ i ≠ p ∧ vs.ownBlock ≠ some i) bs[j] t.f7[j]

theorem Mk.below {w : World} {t : T} {gb p : Nat} {box : Array Value} {vr : Value} {k : Nat} {wr : World} {vs : Value} {bs : List Nat} (h : Mk w t gb p box vr k wr vs bs) {w' : World} (hb : Below wr.heap.size wr w') :
    Mk w t gb p box vr k w' vs bs :=
  ⟨h.lo, h.lp, blk_below h.bx hb, blk_below h.nd hb, below_step h.bl hb, h.ru.mono fun i hi hs => ⟨hs, hb.block i hi⟩, h.ow.kept (grown_of_below hb none) (by cases hv : vs.ownBlock <;> simp), h.np, h.ng, h.le, fun j a b => (h.rg j a b).mono fun i hi hs => ⟨hs, hb.block i hi⟩⟩

theorem c9_of {w : World} {t : T} {p gc : Nat} {vs vr v0 v1 v2 v3 v4 v5 v6 v7 : Value} (h : w.heap[p]? = some (.cells (nodeCells t vs vr) 59 (0, 0))) (h' : w.heap[gc]? = some (.cells #[v0, v1, v2, v3, v4, v5, v6, v7] 25 (0, 0))) :
    w.cell? ⟨p, 2, none⟩ = some vs ∧ w.cell? ⟨gc, 0, none⟩ = some v0 ∧ w.cell? ⟨gc, 1, none⟩ = some v1 ∧ w.cell? ⟨gc, 2, none⟩ = some v2 ∧ w.cell? ⟨gc, 3, none⟩ = some v3 ∧ w.cell? ⟨gc, 4, none⟩ = some v4 ∧ w.cell? ⟨gc, 5, none⟩ = some v5 ∧ w.cell? ⟨gc, 6, none⟩ = some v6 ∧ w.cell? ⟨gc, 7, none⟩ = some v7 :=
  ⟨(blk11 h).2.2.1, blk8 h'⟩

/-- One more part. -/
theorem Mk.step {w : World} {t : T} {gb p : Nat} {box : Array Value} {vr : Value} {k : Nat} {wr : World} {vs : Value} {bs : List Nat} (h : Mk w t gb p box vr k wr vs bs)
    (hk : k < t.f7.length) {w7 w8 : World} (h7 : Below wr.heap.size wr w7) {b : Nat} (hr : RegAt w7 (fun i => wr.heap.size ≤ i) b t.f7[k])
    {g cap : Nat} (hown : w8.ownsRow w.heap.size 33 1 (.slice (some ⟨g, 0, none⟩) (k + 1) cap) (k + 1) (bs.map ptr ++ [ptr b])) (hgr : w7.grownBy w8 vs.ownBlock) (hat : vs.ownBlock = some g ∨ g = w7.heap.size) :
    Mk w t gb p box vr (k + 1) (w8.setCell ⟨p, 2, none⟩ (.slice (some ⟨g, 0, none⟩) (k + 1) cap)) (.slice (some ⟨g, 0, none⟩) (k + 1) cap) (bs ++ [b]) := by
  have h' := h.below h7
  have hp7 : p < w7.heap.size := blk_lt h'.nd
  have hgb7 : gb < w7.heap.size := blk_lt h'.bx
  have hgp : g ≠ p := by
    rcases hat with e | e
    · intro e'; subst e'; exact h.np e
    · omega
  have hgg : g ≠ gb := by
    rcases hat with e | e
    · intro e'; subst e'; exact h.ng e
    · omega
  have hw : w.heap.size ≤ p := by have := h.lo; have := h.lp; omega
  have mv : ∀ i, i < w7.heap.size → (w.heap.size ≤ i ∧ i ≠ p ∧ vs.ownBlock ≠ some i) → (w.heap.size ≤ i ∧ i ≠ p ∧ (Value.slice (some ⟨g, 0, none⟩) (k + 1) cap).ownBlock ≠ some i) ∧ (w8.setCell ⟨p, 2, none⟩ (.slice (some ⟨g, 0, none⟩) (k + 1) cap)).heap[i]? = w7.heap[i]? := by
    rintro i hi ⟨a1, a2, a3⟩
    refine ⟨⟨a1, a2, fun e => ?_⟩, (Below.heap_setCell w8 _ _ i a2).trans (hgr.block i hi (fun e => a3 e.symm))⟩
    have e' : g = i := by simpa [Value.ownBlock] using e
    subst e'
    rcases hat with e2 | e2
    · exact a3 e2
    · omega
  refine ⟨h.lo, h.lp, ?_, ?_, ?_, h'.ru.mono mv, ?_, ?_, ?_, by simp [h.le], ?_⟩
  · exact (Below.heap_setCell w8 _ _ gb (by have := h.lp; show gb ≠ p; omega)).trans ((hgr.block gb hgb7 (fun e => h.ng e.symm)).trans h'.bx)
  · have h1 : w8.heap[p]? = some (.cells (nodeCells t vs vr) 59 (0, 0)) := (hgr.block p hp7 (fun e => h.np e.symm)).trans h'.nd
    exact (blk_set h1 2 _).trans rfl
  · exact below_set (h'.bl.grown hgr h'.bl.size (fun k hk => (h'.ow.lt k hk).1)) hw
  · obtain ⟨hl, hh⟩ := hown
    refine ⟨by simpa using hl, ?_⟩
    rcases hh with ⟨e, _⟩ | ⟨g', cap', cur, e, x1, x2, x3⟩
    · cases e
    · cases e
      refine .inr ⟨g, cap, cur, rfl, x1, (Below.heap_setCell w8 _ _ g hgp).trans x2, ?_⟩
      simpa using x3
  · intro e; exact hgp (by simpa [Value.ownBlock] using e)
  · intro e; exact hgg (by simpa [Value.ownBlock] using e)
  · intro j hj hj'
    rw [List.length_append, List.length_singleton] at hj
    by_cases hlt : j < bs.length
    · rw [List.getElem_append_left hlt]
      exact (h'.rg j hlt hj').mono mv
    · have e : j = k := by have := h.le; omega
      subst e
      rw [List.getElem_append_right (by omega)]
      have : (bs ++ [b])[j]'(by rw [List.length_append, List.length_singleton]; exact hj) = b := by
        rw [List.getElem_append_right (by omega)]; simp
      simp only [List.getElem_singleton]
      refine hr.mono fun i hi hs => mv i hi ⟨Nat.le_trans h.bl.size hs, ?_, ?_⟩
      · have := blk_lt h.nd; omega
      · intro e
        have := (h.ow.lt i e).2
        omega

/-- All parts are made. -/
theorem Mk.done {w : World} {t : T} {gb p : Nat} {box : Array Value} {vr : Value} {wr : World} {vs : Value} {bs : List Nat} (h : Mk w t gb p box vr t.f7.length wr vs bs) :
    RegAt wr (fun i => w.heap.size ≤ i ∧ i < wr.heap.size) p t := by
  have hw : w.heap.size ≤ p := by have := h.lo; have := h.lp; omega
  refine .mk p t vs vr bs ⟨hw, blk_lt h.nd⟩ h.nd (RowAt.of_owns h.ow fun g hg => h.ow.lt g hg) (h.ru.mono fun i hi hs => ⟨⟨hs.1, hi⟩, rfl⟩) h.le fun j a b => (h.rg j a b).mono fun i hi hs => ⟨⟨hs.1, hi⟩, rfl⟩

end Go.Proofs.YtofkpinikkfmeaaDoor.TrFnMtLeast
