/- Rows in memory that are known whole; appends; what only grows. No program is named here. -/
import Derived.Test.YtkcnodkojllobaaDoorBase
import Derived.Test.YtkcnodkojllobaaDoorWz
import Derived.Deep.RegionHeld3
import Derived.Deep.RegionLaw
import Derived.Deep.AppendLies
import Derived.Deep.DrawnRows
import Derived.Maps.AppendAt
import Derived.ProofKit
namespace Go.Proofs.YtkcnodkojllobaaDoor.Row
open Go.RowKit Go.Proofs.YtkcnodkojllobaaDoorW.PrintWords Go.Proofs.YtkcnodkojllobaaDoorW.PrintLast Go.Proofs.YtkcnodkojllobaaDoorW.PrintMore

theorem grown_trans {a b c : World} {r : Option Nat} (h : a.grownBy b r) (k : b.grownBy c r) : a.grownBy c r :=
  ⟨k.os.trans h.os, k.tape.trans h.tape, k.output.trans h.output, Nat.le_trans h.size k.size, fun i hi hne => (k.block i (Nat.lt_of_lt_of_le hi h.size) hne).trans (h.block i hi hne)⟩
theorem grown_refl (a : World) (r : Option Nat) : a.grownBy a r := ⟨rfl, rfl, rfl, Nat.le_refl _, fun _ _ _ => rfl⟩
theorem grown_alloc {a b : World} {r : Option Nat} (h : a.grownBy b r) (o : Obj) : a.grownBy (b.alloc o) r :=
  grown_trans h ⟨rfl, rfl, rfl, by simp, fun i hi _ => Below.heap_alloc _ _ _ hi⟩
theorem grown_below {a b : World} {B r : Nat} (h : a.grownBy b (some r)) (hr : B ≤ r) (hB : B ≤ a.heap.size) : Below B a b :=
  ⟨h.os, h.tape, h.output, h.size, fun i hi => h.block i (by omega) (fun e => by cases e; omega)⟩
theorem grown_of_below {a b : World} (h : Below a.heap.size a b) (r : Option Nat) : a.grownBy b r :=
  ⟨h.os, h.tape, h.output, h.size, fun i hi _ => h.block i hi⟩
theorem grown_set {a b : World} {r : Nat} (h : a.grownBy b (some r)) (j : Nat) (v : Value) : a.grownBy (b.setCell ⟨r, j, none⟩ v) (some r) :=
  grown_trans h ⟨rfl, rfl, rfl, by simp [World.setCell], fun i _ hne => Below.heap_setCell _ _ _ _ (fun e => hne (by rw [e]))⟩

theorem blk8 {w : World} {g : Nat} {ty : TypeId} {v0 v1 v2 v3 v4 v5 v6 v7 : Value} (h : w.heap[g]? = some (.cells #[v0, v1, v2, v3, v4, v5, v6, v7] ty (0, 0))) :
    w.cell? ⟨g, 0, none⟩ = some v0 ∧ w.cell? ⟨g, 1, none⟩ = some v1 ∧ w.cell? ⟨g, 2, none⟩ = some v2 ∧ w.cell? ⟨g, 3, none⟩ = some v3 ∧ w.cell? ⟨g, 4, none⟩ = some v4 ∧ w.cell? ⟨g, 5, none⟩ = some v5 ∧ w.cell? ⟨g, 6, none⟩ = some v6 ∧ w.cell? ⟨g, 7, none⟩ = some v7 :=
  ⟨(blk_cell h 0).trans rfl, (blk_cell h 1).trans rfl, (blk_cell h 2).trans rfl, (blk_cell h 3).trans rfl, (blk_cell h 4).trans rfl, (blk_cell h 5).trans rfl, (blk_cell h 6).trans rfl, (blk_cell h 7).trans rfl⟩
theorem blk1 {w : World} {g : Nat} {ty : TypeId} {v0 : Value} (h : w.heap[g]? = some (.cells #[v0] ty (0, 0))) : w.cell? ⟨g, 0, none⟩ = some v0 := (blk_cell h 0).trans rfl

/-- A slice of one cell each, at its elements; its block is of S. -/
def RowAt (w : World) (S : Nat → Prop) (e : TypeId) (v : Value) (xs : List Value) : Prop :=
  (v = .slice none 0 0 ∧ xs = []) ∨ ∃ g cap cur, v = .slice (some ⟨g, 0, none⟩) xs.length cap ∧ S g ∧ w.heap[g]? = some (.cells cur e (0, 0)) ∧ xs.length ≤ cap ∧ cap ≤ maxLen ∧ cur.size = cap ∧ cur.toList.take xs.length = xs

theorem RowAt.of_owns {w : World} {B : Nat} {e : TypeId} {v : Value} {n : Nat} {xs : List Value} (h : w.ownsRow B e 1 v n xs) {S : Nat → Prop} (hS : ∀ g, v.ownBlock = some g → S g) : RowAt w S e v xs := by
  obtain ⟨hl, h⟩ := h
  have hl' : xs.length = n := by omega
  rcases h with ⟨rfl, rfl⟩ | ⟨g, cap, cur, rfl, _, hg, h1, h2, h3, h4⟩
  · exact .inl ⟨rfl, List.eq_nil_of_length_eq_zero hl'⟩
  · subst hl'
    exact .inr ⟨g, cap, cur, rfl, hS g rfl, hg, h1, h2, by omega, by rwa [Nat.mul_one] at h4⟩

theorem RowAt.mono {w w' : World} {S S' : Nat → Prop} {e : TypeId} {v : Value} {xs : List Value} (h : RowAt w S e v xs) (hs : ∀ i, i < w.heap.size → S i → S' i ∧ w'.heap[i]? = w.heap[i]?) : RowAt w' S' e v xs := by
  rcases h with h | ⟨g, cap, cur, rfl, hS, hg, h⟩
  · exact .inl h
  · obtain ⟨h1, h2⟩ := hs g (blk_lt hg) hS
    exact .inr ⟨g, cap, cur, rfl, h1, h2.trans hg, h⟩

theorem RowAt.cell {w : World} {S : Nat → Prop} {e : TypeId} {v : Value} {xs : List Value} (h : RowAt w S e v xs) (hn : xs ≠ []) :
    ∃ g cap, v = .slice (some ⟨g, 0, none⟩) xs.length cap ∧ S g ∧ g < w.heap.size ∧ xs.length ≤ cap ∧ cap ≤ maxLen ∧ ∀ j (hj : j < xs.length), w.cell? ⟨g, j, none⟩ = some xs[j] := by
  rcases h with ⟨_, h⟩ | ⟨g, cap, cur, rfl, hS, hg, h1, h2, h3, h4⟩
  · exact absurd h hn
  · refine ⟨g, cap, rfl, hS, blk_lt hg, h1, h2, fun j hj => ?_⟩
    rw [blk_cell hg j]
    have := congrArg (fun l => l[j]?) h4
    simp only [List.getElem?_take, if_pos hj] at this
    rw [List.getElem?_eq_getElem hj] at this
    simpa using this

/-- append(nil, x...): a copy of a row that came in. -/
theorem appn {P : Program} {w : World} {ops : Array Oper} {rest : List Oper} {o : Oper} {a : Act} {Q : Exit → Act → World → Prop} (hgd : o.guard = none) (s x : Operand) (t : TypeId)
    (ho : o.op = .call { callee := .builtin .append, args := #[s, x], argTypes := #[t, t] })
    (e : TypeId) (z : Value) (bytes : Nat) (ht : P.underlying t = some (.slice e)) (hinfo : (P.info? e).map (fun i => (i.zero, i.size, i.bytes)) = some (some z, 1, bytes)) (hz1 : z.cells.size = 1)
    (hs : a.eval s = .slice none 0 0) (A : Option Addr) (n c : Nat) (news : List Value) (hx : a.eval x = .slice A n c) (hl : news.length = n)
    (hA : ∀ j u, news[j]? = some u → ∃ ad, A = some ad ∧ w.cell? (ad.add j) = some u) (h1 : ∀ u ∈ news, u.oneCell' = true)
    (hbytes : n * bytes ≤ 140737488355328) (hn : n ≤ maxLen)
    (h : ∀ v' w', w'.ownsRow w.heap.size e 1 v' n news → Below w.heap.size w w' → wpList P ops Q rest (a.put o.dst v') w') : wpList P ops Q (o :: rest) a w := by
  obtain ⟨i, hi, hz, hsize, hby⟩ := info_parts hinfo
  cases A with
  | some ad =>
    refine wpList_append_own w hgd s x t ho w.heap.size e i z 1 bytes ht hi hz hsize hby hz1 (by decide) (.slice none 0 0) 0 [] hs (World.ownsRow_nil w w.heap.size e 1) ad n c news hx (by omega) ?_ h1 (by omega) (by rw [Nat.zero_add]; exact hbytes) (Nat.le_refl _) ?_
    · intro j u hj
      obtain ⟨ad', h1, h2⟩ := hA j u hj
      cases h1; exact h2
    · intro v' w' hown hgrow _
      rw [Nat.zero_add, List.nil_append] at hown
      exact h v' w' hown (Below.grown (Below.refl _ _) hgrow (Nat.le_refl _) (fun k hk => by cases hk))
  | none =>
    have hn0 : news = [] := by
      cases news with
      | nil => rfl
      | cons u l => obtain ⟨_, h, _⟩ := hA 0 u rfl; cases h
    subst hn0
    have hn1 : n = 0 := by simpa using hl.symm
    subst hn1
    refine wpList_plain hgd fun K hK => ?_
    unfold Oper.wp execOp
    have hr : (Builtin.append_ #[t, t] o.type #[.slice none 0 0, .slice none 0 c]).run P w = .ok (.slice none 0 0) w := by
      simp [Builtin.append_, run_underlying ht, sizeOf, typeInfo, hi, Builtin.lenOf, Builtin.firstCells]
    simp only [ho, resolve, invoke, builtin, Sem.run_bind, Sem.run_pure, Result.andThen_ok, List.map_toArray, List.map_cons, List.map_nil, hs, hx, hr]
    exact hK _ _ (h _ w (World.ownsRow_nil w w.heap.size e 1) (Below.refl _ _))

/-- The characters of a node, as cells. -/
theorem runes_cells {W0 w : World} {A : Option Addr} {l : List Int} (h : Kd.C (Kd.int .i32) W0 A l.length l) (hb : Below W0.heap.size W0 w) :
    ∀ j u, (l.map (Value.int .i32))[j]? = some u → ∃ ad, A = some ad ∧ w.cell? (ad.add j) = some u := by
  intro j u hj
  rw [List.getElem?_map] at hj
  cases hp : l[j]? with
  | none => rw [hp] at hj; cases hj
  | some p =>
    rw [hp] at hj
    cases hj
    obtain ⟨_, _, h3⟩ := h
    obtain ⟨ad, hA, hc⟩ := h3 (by have := (List.getElem?_eq_some_iff.1 hp).1; omega)
    obtain ⟨cs, _, hK, hcell⟩ := hc j p hp
    have := hcell 0 (.int .i32 p) (by rw [show cs = [.int .i32 p] from hK]; rfl)
    have h1 : (Kd.int .i32).sz = 1 := rfl
    rw [h1, Nat.mul_one, Nat.add_zero] at this
    exact ⟨ad, hA, (hb.cell (World.block_lt_of_cell? W0 _ this)).trans this⟩

theorem owns_slice {w : World} {B n size : Nat} {e : TypeId} {v : Value} {xs : List Value} (h : w.ownsRow B e size v n xs) : ∃ A c, v = .slice A n c := by
  rcases h.2 with ⟨rfl, rfl⟩ | ⟨g, cap, _, rfl, _⟩
  · exact ⟨none, 0, rfl⟩
  · exact ⟨_, _, rfl⟩


/-- append(nil, x...) at a step of a region that draws its order. -/
theorem step_appn {P : Program} {ops : Array Oper} {o : Oper} {a : Act} {w : World} {K : Act → World → Prop} {Q : Exit → Act → World → Prop} {E : Prop} (hgd : o.guard = none) (s x : Operand) (t : TypeId)
    (ho : o.op = .call { callee := .builtin .append, args := #[s, x], argTypes := #[t, t] })
    (e : TypeId) (z : Value) (bytes : Nat) (ht : P.underlying t = some (.slice e)) (hinfo : (P.info? e).map (fun i => (i.zero, i.size, i.bytes)) = some (some z, 1, bytes)) (hz1 : z.cells.size = 1)
    (hs : a.eval s = .slice none 0 0) (A : Option Addr) (n c : Nat) (news : List Value) (hx : a.eval x = .slice A n c) (hl : news.length = n)
    (hA : ∀ j u, news[j]? = some u → ∃ ad, A = some ad ∧ w.cell? (ad.add j) = some u) (h1 : ∀ u ∈ news, u.oneCell' = true)
    (hbytes : n * bytes ≤ 140737488355328) (hn : n ≤ maxLen)
    (h : ∀ v' w', w'.ownsRow w.heap.size e 1 v' n news → Below w.heap.size w w' → K (a.put o.dst v') w') : if Region.wanted o (yielded ops a.tmps) = true then Oper.wp P o a w K Q else E := by
  have hw : Region.wanted o (yielded ops a.tmps) = true := by simp [Region.wanted, hgd]
  rw [if_pos hw]
  obtain ⟨i, hi, hz, hsize, hby⟩ := info_parts hinfo
  by_cases hm : 0 < n
  · have hne : ∃ ad, A = some ad := by
      cases news with
      | nil => simp at hl; omega
      | cons u l => obtain ⟨ad, h, _⟩ := hA 0 u rfl; exact ⟨ad, h⟩
    obtain ⟨ad, rfl⟩ := hne
    refine wp_append_lies w s x t ho w.heap.size e i z 1 bytes ht hi hz hsize hby hz1 (by decide) (.slice none 0 0) 0 [] hs (World.ownsRow_nil w w.heap.size e 1) ad n c news hx (by omega) (fun j u hj => ?_) h1 hm (by omega) (by rw [Nat.zero_add]; exact hbytes) (Nat.le_refl _) w.heap.size rfl ?_
    · obtain ⟨ad', h1, h2⟩ := hA j u hj
      cases h1; exact h2
    · intro g cap w' hown hgrow _ _
      rw [Nat.zero_add, List.nil_append] at hown
      rw [Nat.zero_add]
      exact h _ w' hown (Below.grown (Below.refl _ _) hgrow (Nat.le_refl _) (fun k hk => by cases hk))
  · have hn0 : n = 0 := by omega
    subst hn0
    have hn1 : news = [] := List.eq_nil_of_length_eq_zero hl
    subst hn1
    unfold Oper.wp execOp
    have hr : (Builtin.append_ #[t, t] o.type #[.slice none 0 0, .slice A 0 c]).run P w = .ok (.slice none 0 0) w := by
      cases A <;> simp [loadCells, loadCellsFrom, Builtin.append_, run_underlying ht, sizeOf, typeInfo, hi, Builtin.lenOf, Builtin.firstCells]
    simp only [ho, resolve, invoke, builtin, Sem.run_bind, Sem.run_pure, Result.andThen_ok, List.map_toArray, List.map_cons, List.map_nil, hs, hx, hr]
    exact h _ w (World.ownsRow_nil w w.heap.size e 1) (Below.refl _ _)

theorem blk4 {w : World} {g : Nat} {ty : TypeId} {v0 v1 v2 v3 : Value} (h : w.heap[g]? = some (.cells #[v0, v1, v2, v3] ty (0, 0))) :
    w.cell? ⟨g, 0, none⟩ = some v0 ∧ w.cell? ⟨g, 1, none⟩ = some v1 ∧ w.cell? ⟨g, 2, none⟩ = some v2 ∧ w.cell? ⟨g, 3, none⟩ = some v3 :=
  ⟨(blk_cell h 0).trans rfl, (blk_cell h 1).trans rfl, (blk_cell h 2).trans rfl, (blk_cell h 3).trans rfl⟩
theorem blk3 {w : World} {g : Nat} {ty : TypeId} {v0 v1 v2 : Value} (h : w.heap[g]? = some (.cells #[v0, v1, v2] ty (0, 0))) :
    w.cell? ⟨g, 0, none⟩ = some v0 ∧ w.cell? ⟨g, 1, none⟩ = some v1 ∧ w.cell? ⟨g, 2, none⟩ = some v2 :=
  ⟨(blk_cell h 0).trans rfl, (blk_cell h 1).trans rfl, (blk_cell h 2).trans rfl⟩
theorem grown_drew {a b : World} {r : Option Nat} (h : a.grownBy b r) : a.grownBy b.drew r := ⟨h.os, h.tape, h.output, h.size, h.block⟩
/-- A row of int32 as the print's words have it. -/
theorem RowAt.kd {w : World} {S : Nat → Prop} {e : TypeId} {vr : Value} {l : List Int} (h : RowAt w S e vr (l.map (Value.int .i32))) : ∃ A c, vr = .slice A l.length c ∧ l.length ≤ c ∧ Kd.C (Kd.int .i32) w A l.length l := by
  by_cases hne : l = []
  · subst hne
    rcases h with ⟨rfl, _⟩ | ⟨g, cap, cur, rfl, _, _, h1, h2, _⟩
    · exact ⟨none, 0, rfl, by simp, rfl, by simp, fun h => by simp at h⟩
    · exact ⟨some ⟨g, 0, none⟩, cap, rfl, by simp, rfl, by simp, fun h => by simp at h⟩
  · obtain ⟨g, cap, rfl, _, _, h1, h2, h3⟩ := h.cell (by simpa using hne)
    rw [List.length_map] at h1
    refine ⟨some ⟨g, 0, none⟩, cap, by rw [List.length_map], h1, rfl, by unfold maxLen at h2; omega, fun _ => ⟨_, rfl, fun j p hj => ⟨[.int .i32 p], rfl, rfl, fun i u hu => ?_⟩⟩⟩
    match i, hu with
    | 0, hu =>
      simp at hu
      subst hu
      obtain ⟨hj1, hj2⟩ := List.getElem?_eq_some_iff.1 hj
      have := h3 j (by simpa using hj1)
      rw [List.getElem_map, hj2] at this
      have e : (⟨g, 0, none⟩ : Addr).add (j * (Kd.int .i32).sz + 0) = ⟨g, j, none⟩ := by
        have h1 : (Kd.int .i32).sz = 1 := rfl
        rw [h1, Nat.mul_one, Nat.add_zero]
        unfold Addr.add; split <;> simp_all
      rw [e]; exact this

/-- An integer of a row that came in. -/
theorem kd_cell {k : IntKind} {W0 w : World} {A : Option Addr} {l : List Int} (h : Kd.C (Kd.int k) W0 A l.length l) (hb : Below W0.heap.size W0 w) (j : Nat) (hj : j < l.length) : ∃ ad, A = some ad ∧ w.cell? (ad.add j) = some (.int k l[j]) := by
  obtain ⟨_, _, h3⟩ := h
  obtain ⟨ad, hA, hc⟩ := h3 (by omega)
  obtain ⟨cs, _, hK, hcell⟩ := hc j l[j] (List.getElem?_eq_getElem hj)
  have := hcell 0 (.int k l[j]) (by rw [show cs = [.int k l[j]] from hK]; rfl)
  have h1 : (Kd.int k).sz = 1 := rfl
  rw [h1, Nat.mul_one, Nat.add_zero] at this
  exact ⟨ad, hA, (hb.cell (World.block_lt_of_cell? W0 _ this)).trans this⟩

/-- Four stores, one behind the other. -/
def set4 (w : World) (g : Nat) (v0 v1 v2 v3 : Value) : World := (((w.setCell ⟨g, 0, none⟩ v0).setCell ⟨g, 1, none⟩ v1).setCell ⟨g, 2, none⟩ v2).setCell ⟨g, 3, none⟩ v3
theorem set4_below {w W : World} {g : Nat} (h : Below w.heap.size w W) (hg : w.heap.size ≤ g) (v0 v1 v2 v3 : Value) : Below w.heap.size w (set4 W g v0 v1 v2 v3) :=
  below_set (below_set (below_set (below_set h hg) hg) hg) hg
theorem set4_blk {w : World} {g : Nat} {ty : TypeId} {u0 u1 u2 u3 : Value} (h : w.heap[g]? = some (.cells #[u0, u1, u2, u3] ty (0, 0))) (v0 v1 v2 v3 : Value) :
    (set4 w g v0 v1 v2 v3).heap[g]? = some (.cells #[v0, v1, v2, v3] ty (0, 0)) := by
  have h0 := (blk_set h 0 v0).trans (show some (Obj.cells _ ty (0, 0)) = some (.cells #[v0, u1, u2, u3] ty (0, 0)) from rfl)
  have h1 := (blk_set h0 1 v1).trans (show some (Obj.cells _ ty (0, 0)) = some (.cells #[v0, v1, u2, u3] ty (0, 0)) from rfl)
  have h2 := (blk_set h1 2 v2).trans (show some (Obj.cells _ ty (0, 0)) = some (.cells #[v0, v1, v2, u3] ty (0, 0)) from rfl)
  have h3 := (blk_set h2 3 v3).trans (show some (Obj.cells _ ty (0, 0)) = some (.cells #[v0, v1, v2, v3] ty (0, 0)) from rfl)
  exact h3
theorem set4_far (w : World) (g i : Nat) (h : i ≠ g) (v0 v1 v2 v3 : Value) : (set4 w g v0 v1 v2 v3).heap[i]? = w.heap[i]? := by
  unfold set4
  rw [Below.heap_setCell _ _ _ i h, Below.heap_setCell _ _ _ i h, Below.heap_setCell _ _ _ i h, Below.heap_setCell _ _ _ i h]
theorem set4_size (w : World) (g : Nat) (v0 v1 v2 v3 : Value) : (set4 w g v0 v1 v2 v3).heap.size = w.heap.size := by simp [set4, World.setCell]
theorem wrap_u8 {x : Int} (h0 : 0 ≤ x) (h1 : x ≤ 255) : IntKind.u8.wrap x = x := by unfold IntKind.wrap; simp [IntKind.bits, IntKind.signed]; omega
theorem wrap_u32 {x : Int} (h0 : 0 ≤ x) (h1 : x < 4294967296) : IntKind.u32.wrap x = x := by unfold IntKind.wrap; simp [IntKind.bits, IntKind.signed]; omega
end Go.Proofs.YtkcnodkojllobaaDoor.Row
