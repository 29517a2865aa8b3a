/- Trees as data that came in: what a reading of a tree says of its cells, kind by kind as the print's words have it. -/
import Derived.Test.YtofkpinikkfmeaaDoorPimFnMtLeast
import Derived.Test.YtofkpinikkfmeaaDoorRows
import Derived.ProofKit
import Derived.Deep.Slices
import Derived.SizedLaws
namespace Go.Proofs.YtofkpinikkfmeaaDoor.TrFnMtLeast
open Go.ChangeShapes Go.WideShapes Go.ChangeAt Go.RowKit Go.Proofs.YtofkpinikkfmeaaDoor.PFnMtLeast Go.Proofs.YtofkpinikkfmeaaDoorW.PrintWords Go.Proofs.YtofkpinikkfmeaaDoorW.PrintLast

theorem tree_lt {s t : S25} (h : s ∈ t.f7) : SizeOf.sizeOf s < SizeOf.sizeOf t := by
  cases t
  have := List.sizeOf_lt_of_mem h
  simp at *
  omega

theorem tree_ind {p : S25 → Prop} (h : ∀ t : S25, (∀ s ∈ t.f7, p s) → p t) (t : S25) : p t := by
  have : ∀ n (t : S25), SizeOf.sizeOf t < n → p t := by
    intro n
    induction n with
    | zero => intro t h; omega
    | succ n ih => intro t ht; exact h t fun s hs => ih s (by have := tree_lt hs; omega)
  exact this _ t (Nat.lt_succ_self _)

/-- The numbers of a tree are of their kinds. -/
inductive TW : S25 → Prop
  | mk (t : S25) (h0 : (Lit.int .i64 t.f0).wf = true) (h1 : (Lit.int .i64 t.f1).wf = true) (h2 : ∀ n ∈ t.f2, (Lit.int .i32 n).wf = true) (h3 : (Lit.int .i64 t.f3).wf = true) (h4 : (Lit.int .i64 t.f4).wf = true)
      (h5 : (Lit.int .i64 t.f5).wf = true) (h6 : t.f6.size ≤ 140737488351232) (h7 : ∀ s ∈ t.f7, TW s)
      (h8 : t.f2.length * 4 ≤ 140737488351232) (h9 : t.f7.length * 104 ≤ 140737488351232) : TW t

variable {H : Type} {enc : TypeId × Value → H} {w : World} {base : Nat} {spare : Nat → Bool} {held : Bool}

theorem runes_open {fuel : Nat} {cs : List Value} {x : DataW H × List MemPlace} (h : DataW.trod enc Tryd.prog w base spare held fuel 22 cs = some x)
    (hsz : ∀ n ∈ x.1.weights Tryd.prog 22, n ≤ 140737488351232) :
    ∃ (A : Option Addr) (c : Nat) (l : List Int), cs = [.slice A l.length c] ∧ l.length ≤ c ∧ Kd.C (Kd.int .i32) w A l.length l ∧ (∀ n ∈ l, (Lit.int .i32 n).wf = true) ∧ l.length * 4 ≤ 140737488351232 := by
  rcases open_ints Tryd.underlying22 Tryd.underlying21 (by kernel_rfl) h with ⟨hcs, _⟩ | ⟨a, len, cap, zs, hcs, _, hl, hm, hz, hx, hcell, hwz⟩
  · exact ⟨none, 0, [], hcs, Nat.le_refl _, ⟨rfl, by simp, fun h => absurd h (by simp)⟩, fun n hn => by simp at hn, by simp⟩
  · have hzl : len ≤ zs.length := by rw [hz]; split <;> omega
    have hlen : (zs.take len).length = len := by rw [List.length_take]; omega
    refine ⟨some a, cap, zs.take len, by rw [hlen]; exact hcs, by rw [hlen]; exact hl, ⟨rfl, by rw [hlen]; unfold maxLen at hm; omega, fun _ => ⟨a, rfl, fun j p hj => ⟨[.int .i32 p], rfl, rfl, fun i u hu => ?_⟩⟩⟩, fun n hn => hwz n (List.mem_of_mem_take hn), ?_⟩
    rotate_left
    · rw [hlen]
      have hb : Tryd.prog.bytesOf 21 = 4 := by kernel_rfl
      have := hsz (((lits .i32 (zs.take len) : List (DataW H)).length + (lits .i32 (zs.drop len) : List (DataW H)).length) * 4) (by rw [hx]; simp [DataW.weights, Tryd.underlying22, hb])
      have hll : (lits .i32 (zs.take len) : List (DataW H)).length = len := by simp [lits]; omega
      rw [hll] at this
      omega
    have hj' : j < (zs.take len).length := by
      rcases Nat.lt_or_ge j (zs.take len).length with h | h
      · exact h
      · rw [List.getElem?_eq_none h] at hj; cases hj
    match i, hu with
    | 0, hu =>
      simp at hu
      subst hu
      have e : zs.getD j 0 = p := by
        rw [List.getElem?_take_of_lt (by omega)] at hj
        rw [List.getD_eq_getElem?_getD, hj]; rfl
      show w.cell? (a.add (j * 1 + 0)) = _
      rw [Nat.mul_one, Nat.add_zero, hcell j (by omega), e]

theorem wall {P : Program} {e : TypeId} (l : List (DataW H × List MemPlace)) (d : DataW H × List MemPlace) (hd : d ∈ l) : ∀ n ∈ d.1.weights P e, n ∈ DataW.weightsAll P e (l.map (·.1)) := by
  induction l with
  | nil => cases hd
  | cons a l ih =>
    intro n hn
    simp only [List.map_cons, DataW.weightsAll, List.mem_append]
    rcases List.mem_cons.1 hd with rfl | h
    · exact .inl hn
    · exact .inr (ih h n hn)

set_option maxRecDepth 100000 in
theorem tree_open (fuel : Nat) : ∀ {cs : List Value} {x : DataW H × List MemPlace}, DataW.trod enc Tryd.prog w base spare held fuel 25 cs = some x → (∀ n ∈ x.1.weights Tryd.prog 25, n ≤ 140737488351232) → ∃ t : S25, k25.K w t cs ∧ TW t := by
  induction fuel using Nat.strongRecOn with
  | _ fuel ih =>
    intro cs x h hsz
    obtain ⟨xs, n, rfl, hxx, hl, hlen, hf⟩ := DataW.trod_struct Tryd.underlying25 h
    have hc : Tryd.prog.cellsOf 25 = 8 := by kernel_rfl
    rw [hc] at hl
    have hx : xs.length = 8 := hlen
    match cs, hl, xs, hx with
    | [c0, c1, c2, c3, c4, c5, c6, c7], _, [y0, y1, y2, y3, y4, y5, y6, y7], _ =>
      have g0 := hf 0 { name := "Op", type := 3, offset := 0, embedded := false, tag := "", pkgPath := "", byteOffset := 0 } rfl
      have g1 := hf 1 { name := "Flags", type := 3, offset := 1, embedded := false, tag := "", pkgPath := "", byteOffset := 8 } rfl
      have g2 := hf 2 { name := "Runes", type := 22, offset := 2, embedded := false, tag := "", pkgPath := "", byteOffset := 16 } rfl
      have g3 := hf 3 { name := "Min", type := 3, offset := 3, embedded := false, tag := "", pkgPath := "", byteOffset := 40 } rfl
      have g4 := hf 4 { name := "Max", type := 3, offset := 4, embedded := false, tag := "", pkgPath := "", byteOffset := 48 } rfl
      have g5 := hf 5 { name := "Cap", type := 3, offset := 5, embedded := false, tag := "", pkgPath := "", byteOffset := 56 } rfl
      have g6 := hf 6 { name := "Name", type := 9, offset := 6, embedded := false, tag := "", pkgPath := "", byteOffset := 64 } rfl
      have g7 := hf 7 { name := "Sub", type := 23, offset := 7, embedded := false, tag := "", pkgPath := "", byteOffset := 80 } rfl
      have hw : ∀ (j : Nat) (t : TypeId) (d : DataW H), [3, 3, 22, 3, 3, 3, 9, 23][j]? = some t → [y0.1, y1.1, y2.1, y3.1, y4.1, y5.1, y6.1, y7.1][j]? = some d → ∀ n ∈ d.weights Tryd.prog t, n ≤ 140737488351232 := by
        intro j t d h1 h2 n hn
        refine hsz n ?_
        rw [hxx]
        simp only [DataW.weights, Tryd.underlying25]
        exact DataW.weights_mem_each h1 h2 n hn
      have hw2 := hw 2 _ _ rfl rfl
      have hw6 := hw 6 _ _ rfl rfl
      have hw7 := hw 7 _ _ rfl rfl
      have ci : Tryd.prog.cellsOf 3 = 1 := by kernel_rfl
      have cr : Tryd.prog.cellsOf 22 = 1 := by kernel_rfl
      have cn : Tryd.prog.cellsOf 9 = 1 := by kernel_rfl
      have cb : Tryd.prog.cellsOf 23 = 1 := by kernel_rfl
      simp only [ci, cr, cn, cb, List.drop_succ_cons, List.drop_zero, List.take_succ_cons, List.take_zero, List.getElem?_cons_zero, List.getElem?_cons_succ] at g0 g1 g2 g3 g4 g5 g6 g7
      obtain ⟨a0, e0, _, w0⟩ := DataW.trod_int Tryd.underlying3 g0
      obtain ⟨a1, e1, _, w1⟩ := DataW.trod_int Tryd.underlying3 g1
      obtain ⟨a3, e3, _, w3⟩ := DataW.trod_int Tryd.underlying3 g3
      obtain ⟨a4, e4, _, w4⟩ := DataW.trod_int Tryd.underlying3 g4
      obtain ⟨a5, e5, _, w5⟩ := DataW.trod_int Tryd.underlying3 g5
      have h6 := DataW.trod_string Tryd.underlying9 g6
      obtain ⟨A2, n2, l2, e2, le2, C2, W2, S2⟩ := runes_open g2 hw2
      have h6' : ∃ s, c6 = .string s ∧ s.size ≤ 140737488351232 := by
        obtain ⟨s, hs, hy, hm⟩ := h6
        refine ⟨s, by simpa using hs, hw6 _ ?_⟩
        rw [hy]; simp [DataW.weights]
      have h7 : ∃ (A : Option Addr) (n : Nat) (l : List S25), c7 = .slice A l.length n ∧ l.length ≤ n ∧ Kd.C k25 w A l.length l ∧ (∀ s ∈ l, TW s) ∧ l.length * 104 ≤ 140737488351232 := by
        rcases DataW.trod_slice Tryd.underlying23 g7 with ⟨hcs, _⟩ | ⟨a, len, cap, elems, rest, m, rfl, hcs, hyy, _, hlc, hmx, hle, hel, _⟩
        · cases hcs
          exact ⟨none, 0, [], rfl, Nat.le_refl _, ⟨rfl, by simp, fun h => absurd h (by simp)⟩, fun s hs => by simp at hs, by simp⟩
        · cases hcs
          rw [hc] at hel
          have hall : ∀ i, i < len → ∃ t : S25, TW t ∧ ∃ c, k25.K w t c ∧ c.length = 8 ∧ ∀ j u, c[j]? = some u → w.cell? (a.add (i * 8 + j)) = some u := by
            intro i hi
            have h1 := hel i hi
            rw [List.getElem?_eq_getElem (by omega)] at h1
            cases hcells : w.cells? base (a.add (i * 8)) 8 with
            | none => rw [hcells] at h1; cases h1
            | some c =>
              rw [hcells] at h1
              obtain ⟨t, ht, hw⟩ := ih m (by omega) h1 (fun q hq => by
                refine hw7 q ?_
                rw [hyy]
                simp only [DataW.weights, Tryd.underlying23]
                refine List.mem_cons_of_mem _ (List.mem_append_left _ ?_)
                exact wall elems elems[i] (List.getElem_mem _) q (by simpa using hq))
              obtain ⟨_, h8, hce⟩ := World.cells?_some hcells
              refine ⟨t, hw, c, ht, h8, fun j u hj => ?_⟩
              have hj8 : j < 8 := by
                rcases Nat.lt_or_ge j 8 with h | h
                · exact h
                · rw [List.getElem?_eq_none (by omega)] at hj; cases hj
              rw [← Deep.add_add, hce j hj8, hj]
          have : Inhabited S25 := ⟨z25⟩
          obtain ⟨f, hfn⟩ := Deep.choose_lt hall
          have hlen : ((List.range len).map f).length = len := by simp
          refine ⟨some a, cap, (List.range len).map f, by rw [hlen], by rw [hlen]; exact hlc, ⟨rfl, by rw [hlen]; unfold maxLen at hmx; omega, fun _ => ⟨a, rfl, fun j p hj => ?_⟩⟩, fun s hs => ?_, ?_⟩
          · rw [List.getElem?_map] at hj
            have hjl : j < len := by
              rcases Nat.lt_or_ge j len with h | h
              · exact h
              · rw [List.getElem?_eq_none (by simpa using h)] at hj; cases hj
            rw [List.getElem?_range hjl] at hj
            cases hj
            obtain ⟨_, c, hK, hc8, hcell⟩ := hfn j hjl
            exact ⟨c, hc8, hK, hcell⟩
          · rw [List.mem_map] at hs
            obtain ⟨i, hi, rfl⟩ := hs
            exact (hfn i (List.mem_range.1 hi)).1
          · rw [hlen]
            have hb : Tryd.prog.bytesOf 25 = 104 := by kernel_rfl
            have := hw7 ((elems.length + rest.length) * 104) (by rw [hyy]; simp [DataW.weights, Tryd.underlying23, hb])
            omega
      obtain ⟨s6, hs6, hm6⟩ := h6'
      obtain ⟨A7, n7, l7, hs7, le7, C7, W7, S7⟩ := h7
      cases e0; cases e1; cases e2; cases e3; cases e4; cases e5
      subst hs6
      subst hs7
      exact ⟨⟨a0, a1, l2, a3, a4, a5, s6, l7⟩, k25_mk w ⟨a0, a1, l2, a3, a4, a5, s6, l7⟩ le2 C2 le7 C7, TW.mk _ w0 w1 W2 w3 w4 w5 hm6 W7 S2 S7⟩

end Go.Proofs.YtofkpinikkfmeaaDoor.TrFnMtLeast
