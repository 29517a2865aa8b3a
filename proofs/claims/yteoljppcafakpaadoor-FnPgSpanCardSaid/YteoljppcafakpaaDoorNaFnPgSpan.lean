import Derived.Test.YteoljppcafakpaaDoorPxFnPgSpan
namespace Go.Proofs.YteoljppcafakpaaDoor.PgFnPgSpan
open Go.RowKit Go.Proofs.YteoljppcafakpaaDoor.EvN Go.Proofs.YteoljppcafakpaaDoor.Row Go.Proofs.YteoljppcafakpaaDoor.PFnPgSpan Go.Proofs.YteoljppcafakpaaDoorW.PrintWords Go.Proofs.YteoljppcafakpaaDoorW.PrintLast Go.Proofs.YteoljppcafakpaaDoorW.PrintMore
def holds (cond arg : Int) : Bool := Go.bits .and .i64 cond arg == arg
def rF (L : List I) (cond : Int) : Nat → List Nat → Nat → List Nat
  | 0, D, _ => D
  | n + 1, D, pc =>
    if pc = 0 ∨ pc ∈ D then D
    else if (ins L pc).f0 = 0 then rF L cond n (rF L cond n (D ++ [pc]) (ins L pc).f1.toNat) (ins L pc).f2.toNat
    else if (ins L pc).f0 = 2 ∨ (ins L pc).f0 = 6 then rF L cond n (D ++ [pc]) (ins L pc).f1.toNat
    else if (ins L pc).f0 = 3 then (if holds cond (ins L pc).f2 = true then rF L cond n (D ++ [pc]) (ins L pc).f1.toNat else D ++ [pc])
    else D ++ [pc]
structure Fine (N : Nat) (D : List Nat) : Prop where
  nd : D.Nodup
  lt : ∀ x ∈ D, x < N
theorem Fine.len {N : Nat} {D : List Nat} (h : Fine N D) : D.length ≤ N := by
  induction N generalizing D with
  | zero =>
    cases D with
    | nil => simp
    | cons a l => exact absurd (h.lt a (by simp)) (by omega)
  | succ N ih =>
    have h1 : Fine N (D.erase N) := ⟨h.nd.erase N, fun x hx => by
      have := (h.nd.mem_erase_iff).1 hx
      have := h.lt x this.2
      omega⟩
    have := ih h1
    rw [List.length_erase] at this
    split at this <;> omega
theorem Fine.add {N : Nat} {D : List Nat} (h : Fine N D) {pc : Nat} (hp : pc < N) (hn : pc ∉ D) : Fine N (D ++ [pc]) := by
  refine ⟨?_, fun x hx => ?_⟩
  · rw [List.nodup_append]
    refine ⟨h.nd, by simp, fun a ha b hb => ?_⟩
    simp only [List.mem_singleton] at hb
    subst hb
    intro e; subst e; exact hn ha
  · rcases List.mem_append.1 hx with hx | hx
    · exact h.lt x hx
    · simp only [List.mem_singleton] at hx; omega
structure Leads (L : List I) : Prop where
  out : OutIn L
  arg : ∀ pc, pc < L.length → (ins L pc).f0 = 0 → 0 ≤ (ins L pc).f2 ∧ (ins L pc).f2 < (L.length : Int)
theorem PSound.leads {L : List I} {st nc most : Int} (h : PSound L st nc most) : Leads L := by
  refine ⟨h.outIn, fun pc hpc h0 => ?_⟩
  have h1 := h.inst pc hpc
  have h2 := h.outIn pc hpc (by omega)
  unfold instB at h1
  rw [if_neg (by omega), if_neg (fun e => e h2), if_pos h0, Bool.and_eq_true, decide_eq_true_eq, decide_eq_true_eq] at h1
  exact h1
theorem rF_fine {L : List I} {cond : Int} (hl : Leads L) : ∀ (n : Nat) (D : List Nat) (pc : Nat), Fine L.length D → pc < L.length → Fine L.length (rF L cond n D pc) ∧ D.length ≤ (rF L cond n D pc).length := by
  intro n
  induction n with
  | zero => intro D pc h _; exact ⟨h, Nat.le_refl _⟩
  | succ n ih =>
    intro D pc h hp
    rw [rF]
    by_cases h0 : pc = 0 ∨ pc ∈ D
    · rw [if_pos h0]; exact ⟨h, Nat.le_refl _⟩
    · rw [if_neg h0]
      have h1 := h.add hp (fun e => h0 (.inr e))
      have hlen : D.length ≤ (D ++ [pc]).length := by simp
      by_cases g0 : (ins L pc).f0 = 0
      · rw [if_pos g0]
        obtain ⟨o1, o2⟩ := hl.out pc hp (by omega)
        obtain ⟨a1, a2⟩ := hl.arg pc hp g0
        obtain ⟨i1, i2⟩ := ih _ (ins L pc).f1.toNat h1 (by omega)
        obtain ⟨j1, j2⟩ := ih _ (ins L pc).f2.toNat i1 (by omega)
        exact ⟨j1, by omega⟩
      · rw [if_neg g0]
        by_cases g26 : (ins L pc).f0 = 2 ∨ (ins L pc).f0 = 6
        · rw [if_pos g26]
          obtain ⟨o1, o2⟩ := hl.out pc hp (by omega)
          obtain ⟨i1, i2⟩ := ih _ (ins L pc).f1.toNat h1 (by omega)
          exact ⟨i1, by omega⟩
        · rw [if_neg g26]
          by_cases g3 : (ins L pc).f0 = 3
          · rw [if_pos g3]
            obtain ⟨o1, o2⟩ := hl.out pc hp (by omega)
            obtain ⟨i1, i2⟩ := ih _ (ins L pc).f1.toNat h1 (by omega)
            split
            · exact ⟨i1, by omega⟩
            · exact ⟨h1, hlen⟩
          · rw [if_neg g3]; exact ⟨h1, hlen⟩
def seenC (N : Nat) (D : List Nat) : List Value := (List.range N).map fun i => .bool (decide (i ∈ D))
theorem seenC_get (N : Nat) (D : List Nat) (i : Nat) (h : i < N) : (seenC N D)[i]? = some (.bool (decide (i ∈ D))) := by
  unfold seenC; rw [List.getElem?_map, List.getElem?_range h]; rfl
theorem seenC_set (N : Nat) (D : List Nat) (pc : Nat) : (seenC N D).set pc (.bool true) = seenC N (D ++ [pc]) := by
  apply List.ext_getElem?
  intro i
  by_cases hi : i < N
  · rw [seenC_get N (D ++ [pc]) i hi]
    by_cases e : i = pc
    · subst e
      rw [List.getElem?_set_self (by unfold seenC; simp; omega)]; simp
    · rw [List.getElem?_set_ne (Ne.symm e), seenC_get N D i hi]; simp [e]
  · rw [List.getElem?_eq_none (by unfold seenC; simp; omega), List.getElem?_eq_none (by unfold seenC; simp; omega)]
structure QAt (W0 w : World) (A : Option Addr) (c : Nat) (L : List I) (st nc cond : Int) (g sb : Nat) (D : List Nat) (lv : Value) : Prop where
  lg : W0.heap.size ≤ g
  ls : W0.heap.size ≤ sb
  gs : g ≠ sb
  nd : w.heap[g]? = some (.cells #[.slice A L.length c, .int .i64 st, .int .i64 nc, .int .i64 cond, .slice (some ⟨sb, 0, none⟩) L.length L.length, lv] 92 (0, 0))
  sn : w.heap[sb]? = some (.cells (seenC L.length D).toArray 4 (0, 0))
  ow : w.ownsRow W0.heap.size 3 1 lv D.length (D.map fun i : Nat => Value.int .i64 (i : Int))
  ng : lv.ownBlock ≠ some g
  ns : lv.ownBlock ≠ some sb
  bl : Below W0.heap.size W0 w
theorem blk6 {w : World} {g : Nat} {ty : TypeId} {v0 v1 v2 v3 v4 v5 : Value} (h : w.heap[g]? = some (.cells #[v0, v1, v2, v3, v4, v5] ty (0, 0))) :
    w.cell? ⟨g, 0, none⟩ = some v0 ∧ w.cell? ⟨g, 1, none⟩ = some v1 ∧ w.cell? ⟨g, 2, none⟩ = some v2 ∧ w.cell? ⟨g, 3, none⟩ = some v3 ∧ w.cell? ⟨g, 4, none⟩ = some v4 ∧ w.cell? ⟨g, 5, none⟩ = some v5 :=
  ⟨(blk_cell h 0).trans rfl, (blk_cell h 1).trans rfl, (blk_cell h 2).trans rfl, (blk_cell h 3).trans rfl, (blk_cell h 4).trans rfl, (blk_cell h 5).trans rfl⟩
theorem QAt.below {W0 w w' : World} {A : Option Addr} {c : Nat} {L : List I} {st nc cond : Int} {g sb : Nat} {D : List Nat} {lv : Value} (h : QAt W0 w A c L st nc cond g sb D lv) (hb : Below w.heap.size w w') : QAt W0 w' A c L st nc cond g sb D lv :=
  ⟨h.lg, h.ls, h.gs, blk_below h.nd hb, blk_below h.sn hb, h.ow.kept (Row.grown_of_below hb none) (by cases lv.ownBlock <;> simp), h.ng, h.ns, below_step h.bl hb⟩
theorem QAt.seen {W0 w : World} {A : Option Addr} {c : Nat} {L : List I} {st nc cond : Int} {g sb : Nat} {D : List Nat} {lv : Value} (h : QAt W0 w A c L st nc cond g sb D lv) (pc : Nat) (hp : pc < L.length) : w.cell? ⟨sb, pc, none⟩ = some (.bool (decide (pc ∈ D))) := by
  rw [blk_cell h.sn]
  simpa using seenC_get L.length D pc hp
theorem QAt.put {W0 w : World} {A : Option Addr} {c : Nat} {L : List I} {st nc cond : Int} {g sb : Nat} {D : List Nat} {lv lv' : Value} {pc : Nat} (h : QAt W0 w A c L st nc cond g sb D lv) {w2 w3 : World} (hb : Below (w.setCell ⟨sb, pc, none⟩ (.bool true)).heap.size (w.setCell ⟨sb, pc, none⟩ (.bool true)) w2)
    (hown : w3.ownsRow W0.heap.size 3 1 lv' (D.length + 1) (D.map (fun i : Nat => Value.int .i64 (i : Int)) ++ [.int .i64 (pc : Int)])) (hgr : w2.grownBy w3 lv.ownBlock) (hlv : ∀ b, lv'.ownBlock = some b → lv.ownBlock = some b ∨ w2.heap.size ≤ b) :
    QAt W0 (w3.setCell ⟨g, 5, none⟩ lv') A c L st nc cond g sb (D ++ [pc]) lv' := by
  have lgw := blk_lt h.nd
  have lsw := blk_lt h.sn
  have sz1 : (w.setCell ⟨sb, pc, none⟩ (.bool true)).heap.size = w.heap.size := by simp [World.setCell]
  have sz2 : w.heap.size ≤ w2.heap.size := by have := hb.size; omega
  have ng' : lv'.ownBlock ≠ some g := fun e => by
    rcases hlv g e with e | e
    · exact h.ng e
    · omega
  have ns' : lv'.ownBlock ≠ some sb := fun e => by
    rcases hlv sb e with e | e
    · exact h.ns e
    · omega
  have hnd : w3.heap[g]? = some (.cells #[.slice A L.length c, .int .i64 st, .int .i64 nc, .int .i64 cond, .slice (some ⟨sb, 0, none⟩) L.length L.length, lv] 92 (0, 0)) :=
    (hgr.block g (by omega) (fun e => h.ng e.symm)).trans ((hb.block g (by omega)).trans ((Below.heap_setCell w _ _ g h.gs).trans h.nd))
  have hsn : w3.heap[sb]? = some (.cells (seenC L.length (D ++ [pc])).toArray 4 (0, 0)) := by
    refine (hgr.block sb (by omega) (fun e => h.ns e.symm)).trans ((hb.block sb (by omega)).trans ?_)
    have := blk_set h.sn pc (.bool true)
    rw [List.setIfInBounds_toArray, seenC_set] at this
    exact this
  refine ⟨h.lg, h.ls, h.gs, ?_, ?_, ?_, ng', ns', ?_⟩
  · exact (blk_set hnd 5 lv').trans rfl
  · exact (Below.heap_setCell w3 _ _ sb (Ne.symm h.gs)).trans hsn
  · rw [List.length_append, List.length_singleton, List.map_append]
    obtain ⟨hl, hh⟩ := hown
    refine ⟨by simp, ?_⟩
    rcases hh with ⟨e, e2⟩ | ⟨g', cap', cur, e, x1, x2, x3⟩
    · omega
    · refine .inr ⟨g', cap', cur, e, x1, (Below.heap_setCell w3 _ _ g' ?_).trans x2, by simpa using x3⟩
      intro e'
      have e2 : g' = g := e'
      exact ng' (by rw [e, e2]; rfl)
  · have b1 := below_set (j := pc) (v := .bool true) h.bl h.ls
    have b2 := below_step b1 hb
    exact below_set (b2.grown hgr b2.size (fun k hk => (h.ow.lt k hk).1)) h.lg
theorem QAt.grown {W0 w w' : World} {A : Option Addr} {c : Nat} {L : List I} {st nc cond : Int} {g sb : Nat} {D : List Nat} {lv : Value} {r : Option Nat} (h : QAt W0 w A c L st nc cond g sb D lv) (hg : w.grownBy w' r) (h1 : r ≠ some g) (h2 : r ≠ some sb) (h3 : lv.ownBlock = none ∨ lv.ownBlock ≠ r) (h4 : ∀ k, r = some k → W0.heap.size ≤ k) : QAt W0 w' A c L st nc cond g sb D lv :=
  ⟨h.lg, h.ls, h.gs, (hg.block g (blk_lt h.nd) (Ne.symm h1)).trans h.nd, (hg.block sb (blk_lt h.sn) (Ne.symm h2)).trans h.sn, h.ow.kept hg h3, h.ng, h.ns, h.bl.grown hg h.bl.size h4⟩
structure Kp (w w' : World) (g sb : Nat) (lv lv' : Value) : Prop where
  sz : w.heap.size ≤ w'.heap.size
  kp : ∀ b, b < w.heap.size → b ≠ g → b ≠ sb → lv.ownBlock ≠ some b → w'.heap[b]? = w.heap[b]?
  ow : ∀ b, lv'.ownBlock = some b → lv.ownBlock = some b ∨ w.heap.size ≤ b
theorem Kp.refl (w : World) (g sb : Nat) (lv : Value) : Kp w w g sb lv lv := ⟨Nat.le_refl _, fun _ _ _ _ _ => rfl, fun _ h => .inl h⟩
theorem Kp.trans {a b c : World} {g sb : Nat} {x y z : Value} (h : Kp a b g sb x y) (k : Kp b c g sb y z) : Kp a c g sb x z := by
  refine ⟨Nat.le_trans h.sz k.sz, fun i hi h1 h2 h3 => ?_, fun i hi => ?_⟩
  · refine (k.kp i (Nat.lt_of_lt_of_le hi h.sz) h1 h2 fun e => ?_).trans (h.kp i hi h1 h2 h3)
    rcases h.ow i e with e | e
    · exact h3 e
    · omega
  · rcases k.ow i hi with e | e
    · exact h.ow i e
    · exact .inr (Nat.le_trans h.sz e)
theorem Kp.of_below {w w' : World} (h : Below w.heap.size w w') (g sb : Nat) (lv : Value) : Kp w w' g sb lv lv := ⟨h.size, fun i hi _ _ _ => h.block i hi, fun _ h => .inl h⟩
theorem Kp.put {w w2 w3 : World} {g sb pc : Nat} {lv lv' : Value} (hb : Below (w.setCell ⟨sb, pc, none⟩ (.bool true)).heap.size (w.setCell ⟨sb, pc, none⟩ (.bool true)) w2) (hgr : w2.grownBy w3 lv.ownBlock) (hlv : ∀ b, lv'.ownBlock = some b → lv.ownBlock = some b ∨ w2.heap.size ≤ b) :
    Kp w (w3.setCell ⟨g, 5, none⟩ lv') g sb lv lv' := by
  have sz1 : (w.setCell ⟨sb, pc, none⟩ (.bool true)).heap.size = w.heap.size := by simp [World.setCell]
  have sz2 : w.heap.size ≤ w2.heap.size := by have := hb.size; omega
  have sz3 : (w3.setCell ⟨g, 5, none⟩ lv').heap.size = w3.heap.size := by simp [World.setCell]
  refine ⟨by rw [sz3]; exact Nat.le_trans sz2 hgr.size, fun i hi h1 h2 h3 => ?_, fun i hi => ?_⟩
  · exact (Below.heap_setCell w3 _ _ i h1).trans ((hgr.block i (by omega) (fun e => h3 e.symm)).trans ((hb.block i (by omega)).trans (Below.heap_setCell w _ _ i h2)))
  · rcases hlv i hi with e | e
    · exact .inl e
    · exact .inr (by omega)
end Go.Proofs.YteoljppcafakpaaDoor.PgFnPgSpan
