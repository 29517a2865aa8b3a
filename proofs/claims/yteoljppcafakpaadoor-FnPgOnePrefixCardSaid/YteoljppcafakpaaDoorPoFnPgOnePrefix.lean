/- A program as data that came in: what a reading of it says of its cells, as the print's words have it. -/
import Derived.Test.YteoljppcafakpaaDoorPimFnPgOnePrefix
import Derived.ProofKit
import Derived.Deep.Slices
namespace Go.Proofs.YteoljppcafakpaaDoor.PoFnPgOnePrefix
open Go.ChangeShapes Go.WideShapes Go.ChangeAt Go.RowKit Go.Proofs.YteoljppcafakpaaDoor.PFnPgOnePrefix Go.Proofs.YteoljppcafakpaaDoorW.PrintWords Go.Proofs.YteoljppcafakpaaDoorW.PrintLast
set_option linter.unusedSimpArgs false
set_option linter.unusedVariables false

variable {H : Type} {enc : TypeId × Value → H} {w : World} {base : Nat} {spare : Nat → Bool} {held : Bool}

/-- A row of integers of any kind. -/
theorem ints_open {t e : TypeId} {k : IntKind} (ht : Tryd.prog.underlying t = some (.slice e)) (he : Tryd.prog.underlying e = some (.int k)) (hc : Tryd.prog.cellsOf e = 1) {fuel : Nat} {cs : List Value} {x : DataW H × List MemPlace} (h : DataW.trod enc Tryd.prog w base spare held fuel t cs = some x) :
    ∃ (A : Option Addr) (c : Nat) (l : List Int), cs = [.slice A l.length c] ∧ l.length ≤ c ∧ Kd.C (Kd.int k) w A l.length l := by
  rcases open_ints ht he hc h with ⟨hcs, _⟩ | ⟨a, len, cap, zs, hcs, _, hl, hm, hz, hx, hcell, hwz⟩
  · exact ⟨none, 0, [], hcs, Nat.le_refl _, ⟨rfl, by simp, fun h => absurd h (by simp)⟩⟩
  · have hzl : len ≤ zs.length := by rw [hz]; split <;> omega
    have hlen : (zs.take len).length = len := by rw [List.length_take]; omega
    refine ⟨some a, cap, zs.take len, by rw [hlen]; exact hcs, by rw [hlen]; exact hl, ⟨rfl, by rw [hlen]; unfold maxLen at hm; omega, fun _ => ⟨a, rfl, fun j p hj => ⟨[.int k p], rfl, rfl, fun i u hu => ?_⟩⟩⟩⟩
    have hj' : j < (zs.take len).length := by
      rcases Nat.lt_or_ge j (zs.take len).length with h | h
      · exact h
      · rw [List.getElem?_eq_none h] at hj; cases hj
    match i, hu with
    | 0, hu =>
      simp at hu
      subst hu
      have e : zs.getD j 0 = p := by
        rw [List.getElem?_take_of_lt (by omega)] at hj
        rw [List.getD_eq_getElem?_getD, hj]; rfl
      show w.cell? (a.add (j * 1 + 0)) = _
      rw [Nat.mul_one, Nat.add_zero, hcell j (by omega), e]

set_option maxRecDepth 100000 in
theorem inst_open (fuel : Nat) {cs : List Value} {x : DataW H × List MemPlace} (h : DataW.trod enc Tryd.prog w base spare held fuel 29 cs = some x) : ∃ t : S29, k29.K w t cs := by
  obtain ⟨xs, n, rfl, hxx, hl, hlen, hf⟩ := DataW.trod_struct Tryd.underlying29 h
  have hc : Tryd.prog.cellsOf 29 = 4 := by kernel_rfl
  rw [hc] at hl
  have hx : xs.length = 4 := hlen
  match cs, hl, xs, hx with
  | [c0, c1, c2, c3], _, [y0, y1, y2, y3], _ =>
    have g0 := hf 0 { name := "Op", type := 3, offset := 0, embedded := false, tag := "", pkgPath := "", byteOffset := 0 } rfl
    have g1 := hf 1 { name := "Out", type := 3, offset := 1, embedded := false, tag := "", pkgPath := "", byteOffset := 8 } rfl
    have g2 := hf 2 { name := "Arg", type := 3, offset := 2, embedded := false, tag := "", pkgPath := "", byteOffset := 16 } rfl
    have g3 := hf 3 { name := "Runes", type := 27, offset := 3, embedded := false, tag := "", pkgPath := "", byteOffset := 24 } rfl
    have ci : Tryd.prog.cellsOf 3 = 1 := by kernel_rfl
    have cr : Tryd.prog.cellsOf 27 = 1 := by kernel_rfl
    simp only [ci, cr, List.drop_succ_cons, List.drop_zero, List.take_succ_cons, List.take_zero, List.getElem?_cons_zero, List.getElem?_cons_succ] at g0 g1 g2 g3
    obtain ⟨a0, e0, _, w0⟩ := DataW.trod_int Tryd.underlying3 g0
    obtain ⟨a1, e1, _, w1⟩ := DataW.trod_int Tryd.underlying3 g1
    obtain ⟨a2, e2, _, w2⟩ := DataW.trod_int Tryd.underlying3 g2
    obtain ⟨A3, n3, l3, e3, le3, C3⟩ := ints_open Tryd.underlying27 Tryd.underlying21 (by kernel_rfl) g3
    cases e0; cases e1; cases e2; cases e3
    exact ⟨⟨a0, a1, a2, l3⟩, k29_mk w ⟨a0, a1, a2, l3⟩ le3 C3⟩

set_option maxRecDepth 100000 in
theorem prog_open (fuel : Nat) {cs : List Value} {x : DataW H × List MemPlace} (h : DataW.trod enc Tryd.prog w base spare held fuel 24 cs = some x) :
    ∃ (A : Option Addr) (c : Nat) (L : List S29) (st nc : Int), cs = [.slice A L.length c, .int .i64 st, .int .i64 nc] ∧ L.length ≤ c ∧ Kd.C k29 w A L.length L := by
  obtain ⟨xs, n, rfl, hxx, hl, hlen, hf⟩ := DataW.trod_struct Tryd.underlying24 h
  have hc0 : Tryd.prog.cellsOf 24 = 3 := by kernel_rfl
  rw [hc0] at hl
  have hx : xs.length = 3 := hlen
  have hc : Tryd.prog.cellsOf 29 = 4 := by kernel_rfl
  match cs, hl, xs, hx with
  | [c0, c1, c2], _, [y0, y1, y2], _ =>
    have g0 := hf 0 { name := "Insts", type := 22, offset := 0, embedded := false, tag := "", pkgPath := "", byteOffset := 0 } rfl
    have g1 := hf 1 { name := "Start", type := 3, offset := 1, embedded := false, tag := "", pkgPath := "", byteOffset := 24 } rfl
    have g2 := hf 2 { name := "NumCap", type := 3, offset := 2, embedded := false, tag := "", pkgPath := "", byteOffset := 32 } rfl
    have ci : Tryd.prog.cellsOf 3 = 1 := by kernel_rfl
    have cr : Tryd.prog.cellsOf 22 = 1 := by kernel_rfl
    simp only [ci, cr, List.drop_succ_cons, List.drop_zero, List.take_succ_cons, List.take_zero, List.getElem?_cons_zero, List.getElem?_cons_succ] at g0 g1 g2
    obtain ⟨a1, e1, _, w1⟩ := DataW.trod_int Tryd.underlying3 g1
    obtain ⟨a2, e2, _, w2⟩ := DataW.trod_int Tryd.underlying3 g2
    have h0 : ∃ (A : Option Addr) (n : Nat) (l : List S29), c0 = .slice A l.length n ∧ l.length ≤ n ∧ Kd.C k29 w A l.length l := by
      rcases DataW.trod_slice Tryd.underlying22 g0 with ⟨hcs, _⟩ | ⟨a, len, cap, elems, rest, m, rfl, hcs, hyy, _, hlc, hmx, hle, hel, _⟩
      · cases hcs
        exact ⟨none, 0, [], rfl, Nat.le_refl _, ⟨rfl, by simp, fun h => absurd h (by simp)⟩⟩
      · cases hcs
        rw [hc] at hel
        have hall : ∀ i, i < len → ∃ t : S29, ∃ c, k29.K w t c ∧ c.length = 4 ∧ ∀ j u, c[j]? = some u → w.cell? (a.add (i * 4 + j)) = some u := by
          intro i hi
          have h1 := hel i hi
          rw [List.getElem?_eq_getElem (by omega)] at h1
          cases hcells : w.cells? base (a.add (i * 4)) 4 with
          | none => rw [hcells] at h1; cases h1
          | some c =>
            rw [hcells] at h1
            obtain ⟨t, ht⟩ := inst_open m h1
            obtain ⟨_, h4, hce⟩ := World.cells?_some hcells
            refine ⟨t, c, ht, h4, fun j u hj => ?_⟩
            have hj4 : j < 4 := by
              rcases Nat.lt_or_ge j 4 with h | h
              · exact h
              · rw [List.getElem?_eq_none (by omega)] at hj; cases hj
            rw [← Deep.add_add, hce j hj4, hj]
        have : Inhabited S29 := ⟨z29⟩
        obtain ⟨f, hfn⟩ := Deep.choose_lt hall
        have hlen : ((List.range len).map f).length = len := by simp
        refine ⟨some a, cap, (List.range len).map f, by rw [hlen], by rw [hlen]; exact hlc, ⟨rfl, by rw [hlen]; unfold maxLen at hmx; omega, fun _ => ⟨a, rfl, fun j p hj => ?_⟩⟩⟩
        rw [List.getElem?_map] at hj
        have hjl : j < len := by
          rcases Nat.lt_or_ge j len with h | h
          · exact h
          · rw [List.getElem?_eq_none (by simpa using h)] at hj; cases hj
        rw [List.getElem?_range hjl] at hj
        cases hj
        obtain ⟨c, hK, hc4, hcell⟩ := hfn j hjl
        exact ⟨c, hc4, hK, hcell⟩
    obtain ⟨A0, n0, l0, hs0, le0, C0⟩ := h0
    cases e1; cases e2
    subst hs0
    exact ⟨A0, n0, l0, a1, a2, rfl, le0, C0⟩
end Go.Proofs.YteoljppcafakpaaDoor.PoFnPgOnePrefix
