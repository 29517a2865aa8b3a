import Derived.Test.YteoljppcafakpaaDoorPcFnPgWalk
namespace Go.Proofs.YteoljppcafakpaaDoor.PgFnPgWalk
open Go.RowKit Go.Proofs.YteoljppcafakpaaDoor.EvN Go.Proofs.YteoljppcafakpaaDoor.Row Go.Proofs.YteoljppcafakpaaDoor.PFnPgWalk Go.Proofs.YteoljppcafakpaaDoorW.PrintWords Go.Proofs.YteoljppcafakpaaDoorW.PrintLast Go.Proofs.YteoljppcafakpaaDoorW.PrintMore
attribute [local go_sem ↓] Go.wp_at_zero Go.wp_at_succ
theorem iinst : (Tryd.prog.info? 87).map (fun i => (i.zero, i.size, i.bytes)) = some (some (.agg #[.int .u8 0, .int .u32 0, .int .u32 0, .slice none 0 0]), 4, 40) := by kernel_rfl
def flatJ : List (J × Value) → List Value
  | [] => []
  | (j, v) :: r => .int .u8 j.f0 :: .int .u32 j.f1 :: .int .u32 j.f2 :: v :: flatJ r
theorem flatJ_append (a b : List (J × Value)) : flatJ (a ++ b) = flatJ a ++ flatJ b := by
  induction a with
  | nil => rfl
  | cons x a ih => obtain ⟨j, v⟩ := x; simp [flatJ, ih]
theorem flatJ_get (a : List (J × Value)) (i : Nat) (h : i < a.length) (k : Nat) (hk : k < 4) : (flatJ a)[i * 4 + k]? = [Value.int .u8 a[i].1.f0, .int .u32 a[i].1.f1, .int .u32 a[i].1.f2, a[i].2][k]? := by
  induction a generalizing i with
  | nil => simp at h
  | cons x a ih =>
    obtain ⟨j, v⟩ := x
    cases i with
    | zero =>
      match k, hk with
      | 0, _ => rfl
      | 1, _ => rfl
      | 2, _ => rfl
      | 3, _ => rfl
    | succ i =>
      have e : (i + 1) * 4 + k = (i * 4 + k) + 4 := by omega
      rw [e]
      simp only [flatJ, List.getElem?_cons_succ, List.getElem_cons_succ]
      exact ih i (by simpa using h)
def ProgAt (w : World) (p : Nat) (L : List I) (st nc : Int) : Prop :=
  ∃ A cap, w.heap[p]? = some (.cells #[.slice A L.length cap, .int .i64 st, .int .i64 nc] 83 (0, 0)) ∧ L.length ≤ cap ∧ Kd.C k87 w A L.length (L.map pin)
theorem ProgAt.below {w w' : World} {p : Nat} {L : List I} {st nc : Int} (h : ProgAt w p L st nc) (hb : Below w.heap.size w w') : ProgAt w' p L st nc := by
  obtain ⟨A, cap, h1, h2, h3⟩ := h
  exact ⟨A, cap, blk_below h1 hb, h2, Kd.C_below h3 hb⟩
structure Pk (w : World) (L : List I) (st nc : Int) (gb p : Nat) (box : Array Value) (k : Nat) (wr : World) (vs : Value) (q : List (J × Value)) : Prop where
  lo : w.heap.size ≤ gb
  lp : gb < p
  bx : wr.heap[gb]? = some (.cells box 24 (0, 0))
  nd : wr.heap[p]? = some (.cells #[vs, .int .i64 st, .int .i64 nc] 83 (0, 0))
  bl : Below w.heap.size w wr
  ow : wr.ownsRow w.heap.size 87 4 vs k (flatJ q)
  np : vs.ownBlock ≠ some p
  ng : vs.ownBlock ≠ some gb
  ql : q.map (·.1) = (L.take k).map pin
  rg : ∀ x ∈ q, RowAt wr (fun i => w.heap.size ≤ i ∧ i ≠ p ∧ vs.ownBlock ≠ some i) 21 x.2 (x.1.f3.map (.int .i32))
theorem Pk.below {w : World} {L : List I} {st nc : Int} {gb p : Nat} {box : Array Value} {k : Nat} {wr : World} {vs : Value} {q : List (J × Value)} (h : Pk w L st nc gb p box k wr vs q) {w' : World} (hb : Below wr.heap.size wr w') :
    Pk w L st nc gb p box k w' vs q :=
  ⟨h.lo, h.lp, blk_below h.bx hb, blk_below h.nd hb, below_step h.bl hb, h.ow.kept (Row.grown_of_below hb none) (by cases hv : vs.ownBlock <;> simp), h.np, h.ng, h.ql, fun x hx => (h.rg x hx).mono fun i hi hs => ⟨hs, hb.block i hi⟩⟩
theorem Pk.step {w : World} {L : List I} {st nc : Int} {gb p : Nat} {box : Array Value} {k : Nat} {wr : World} {vs : Value} {q : List (J × Value)} (h : Pk w L st nc gb p box k wr vs q)
    (hk : k < L.length) {w7 w8 : World} (h7 : Below wr.heap.size wr w7) {vr : Value} (hr : RowAt w7 (fun i => wr.heap.size ≤ i) 21 vr ((pin L[k]).f3.map (.int .i32)))
    {g cap : Nat} (hown : w8.ownsRow w.heap.size 87 4 (.slice (some ⟨g, 0, none⟩) (k + 1) cap) (k + 1) (flatJ q ++ [.int .u8 (pin L[k]).f0, .int .u32 (pin L[k]).f1, .int .u32 (pin L[k]).f2, vr])) (hgr : w7.grownBy w8 vs.ownBlock) (hat : vs.ownBlock = some g ∨ g = w7.heap.size) :
    Pk w L st nc gb p box (k + 1) (w8.setCell ⟨p, 0, none⟩ (.slice (some ⟨g, 0, none⟩) (k + 1) cap)) (.slice (some ⟨g, 0, none⟩) (k + 1) cap) (q ++ [(pin L[k], vr)]) := by
  have h' := h.below h7
  have hp7 : p < w7.heap.size := blk_lt h'.nd
  have hgb7 : gb < w7.heap.size := blk_lt h'.bx
  have hgp : g ≠ p := by
    rcases hat with e | e
    · intro e'; subst e'; exact h.np e
    · omega
  have hgg : g ≠ gb := by
    rcases hat with e | e
    · intro e'; subst e'; exact h.ng e
    · omega
  have hw : w.heap.size ≤ p := by have := h.lo; have := h.lp; omega
  have mv : ∀ i, i < w7.heap.size → (w.heap.size ≤ i ∧ i ≠ p ∧ vs.ownBlock ≠ some i) → (w.heap.size ≤ i ∧ i ≠ p ∧ (Value.slice (some ⟨g, 0, none⟩) (k + 1) cap).ownBlock ≠ some i) ∧ (w8.setCell ⟨p, 0, none⟩ (.slice (some ⟨g, 0, none⟩) (k + 1) cap)).heap[i]? = w7.heap[i]? := by
    rintro i hi ⟨a1, a2, a3⟩
    refine ⟨⟨a1, a2, fun e => ?_⟩, (Below.heap_setCell w8 _ _ i a2).trans (hgr.block i hi (fun e => a3 e.symm))⟩
    have e' : g = i := by simpa [Value.ownBlock] using e
    subst e'
    rcases hat with e2 | e2
    · exact a3 e2
    · omega
  refine ⟨h.lo, h.lp, ?_, ?_, ?_, ?_, ?_, ?_, ?_, ?_⟩
  · exact (Below.heap_setCell w8 _ _ gb (by have := h.lp; show gb ≠ p; omega)).trans ((hgr.block gb hgb7 (fun e => h.ng e.symm)).trans h'.bx)
  · have h1 : w8.heap[p]? = some (.cells #[vs, .int .i64 st, .int .i64 nc] 83 (0, 0)) := (hgr.block p hp7 (fun e => h.np e.symm)).trans h'.nd
    exact (blk_set h1 0 _).trans rfl
  · exact below_set (h'.bl.grown hgr h'.bl.size (fun k hk => (h'.ow.lt k hk).1)) hw
  · obtain ⟨hl, hh⟩ := hown
    refine ⟨by rw [flatJ_append]; exact hl, ?_⟩
    rcases hh with ⟨e, _⟩ | ⟨g', cap', cur, e, x1, x2, x3⟩
    · cases e
    · cases e
      refine .inr ⟨g, cap, cur, rfl, x1, (Below.heap_setCell w8 _ _ g hgp).trans x2, ?_⟩
      rw [flatJ_append]; exact x3
  · intro e; exact hgp (by simpa [Value.ownBlock] using e)
  · intro e; exact hgg (by simpa [Value.ownBlock] using e)
  · rw [List.map_append, h.ql, List.take_succ_eq_append_getElem hk, List.map_append]; rfl
  · intro x hx
    rcases List.mem_append.1 hx with hx | hx
    · exact (h'.rg x hx).mono mv
    · simp only [List.mem_singleton] at hx
      subst hx
      refine hr.mono fun i hi hs => mv i hi ⟨Nat.le_trans h.bl.size hs, ?_, ?_⟩
      · have := blk_lt h.nd; omega
      · intro e
        have := (h.ow.lt i e).2
        omega
theorem Pk.done {w : World} {L : List I} {st nc : Int} {gb p : Nat} {box : Array Value} {wr : World} {vs : Value} {q : List (J × Value)} (h : Pk w L st nc gb p box L.length wr vs q) (hL : 1 ≤ L.length) (hm : L.length ≤ 2000) : ProgAt wr p L st nc := by
  have hq : q.map (·.1) = L.map pin := by rw [h.ql, List.take_length]
  have hlen : q.length = L.length := by simpa using congrArg List.length hq
  obtain ⟨hl, hh⟩ := h.ow
  rcases hh with ⟨_, e⟩ | ⟨g, cap, cur, e, _, hg, h1, h2, h3, h4⟩
  · omega
  · have nd := h.nd
    rw [e] at nd
    refine ⟨_, cap, nd, h1, ?_, by omega, fun _ => ⟨_, rfl, fun j x hj => ?_⟩⟩
    · simp
    · have hjl : j < L.length := by
        have := (List.getElem?_eq_some_iff.1 hj).1
        simpa using this
      have hjq : j < q.length := by omega
      have hx : x = q[j].1 := by
        rw [← hq, List.getElem?_map, List.getElem?_eq_getElem hjq] at hj
        simpa using hj.symm
      obtain ⟨A, c, ev, hc, hC⟩ := (h.rg q[j] (List.getElem_mem hjq)).kd
      refine ⟨[.int .u8 x.f0, .int .u32 x.f1, .int .u32 x.f2, .slice A x.f3.length c], rfl, ?_, fun i u hu => ?_⟩
      · rw [hx]; exact k87_mk wr _ hc hC
      · have hi4 : i < 4 := by
          rcases Nat.lt_or_ge i 4 with h | h
          · exact h
          · rw [List.getElem?_eq_none (by simpa using h)] at hu; cases hu
        have hg4 := flatJ_get q j hjq i hi4
        rw [ev, ← hx] at hg4
        have e2 : (⟨g, 0, none⟩ : Addr).add (j * k87.sz + i) = ⟨g, j * 4 + i, none⟩ := by
          have hs : k87.sz = 4 := rfl
          rw [hs]
          unfold Addr.add; split <;> simp_all
        rw [e2, blk_cell hg]
        have h5 := congrArg (fun l => l[j * 4 + i]?) h4
        simp only [List.getElem?_take, if_pos (show j * 4 + i < L.length * 4 by omega)] at h5
        rw [hg4, hu] at h5
        simpa using h5
end Go.Proofs.YteoljppcafakpaaDoor.PgFnPgWalk
