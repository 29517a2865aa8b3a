/- Simple folding: the tables as a row lists them are the tables in memory. -/
import Derived.Test.YtkcnodkojllobaaDoorSh
import Derived.Test.YtkcnodkojllobaaDoorRows
import Derived.ProofKit
import Derived.Deep.Slices
import Derived.Lib.LaidU8
namespace Go.Proofs.YtkcnodkojllobaaDoor.Sf
open Go Go.RowKit Go.ChangeShapes Go.WideShapes Go.ChangeAt Go.Proofs.YtkcnodkojllobaaDoor.Row Go.Proofs.YtkcnodkojllobaaDoorW.PrintWords
set_option maxRecDepth 100000
set_option linter.unusedVariables false
set_option linter.unusedSimpArgs false

theorem asc_data : (Rows.laid_unicode_asciiFold : DataW Unit) = Lib.tabData .u16 (ascZ.map fun x : Nat => (x : Int)) := by kernel_rfl
theorem orb_data : (Rows.laid_unicode_caseOrbit : DataW Unit) = .slice (orbZ.map fun x => .agg ([(x.1 : Int), (x.2 : Int)].map fun z => .lit (.int .u16 z))) [] := by kernel_rfl

theorem asc_of_reads {w : World} (h : Lib.VarReads Tryd.prog w "unicode.asciiFold" Rows.laid_unicode_asciiFold) : ∀ r, r < 128 → w.cell? ⟨0, r, none⟩ = some (.int .u16 ((ascZ.getD r 0 : Nat) : Int)) := by
  intro r hr
  obtain ⟨g, t, cs, fuel, p, hg, hty, hvar, hd⟩ := h
  rw [asc_data] at hd
  obtain rfl := Option.some.inj ((show Tryd.prog.globalNamed "unicode.asciiFold" = some 0 by kernel_rfl).symm.trans hg)
  obtain rfl := Option.some.inj ((show (Tryd.prog.globals[0]?).map (·.type) = some 33 by kernel_rfl).symm.trans hty)
  have hcs := Lib.cells_of_tab Tryd.underlying33 Tryd.underlying32 (by kernel_rfl) (by kernel_rfl) hd
  rw [World.var?_cell hg hvar r, ← Array.getElem?_toList, hcs]
  have hl : ascZ.length = 128 := by kernel_rfl
  rw [List.getElem?_map, List.getElem?_map, List.getElem?_eq_getElem (by omega), List.getD_eq_getElem?_getD, List.getElem?_eq_getElem (by omega)]; rfl

theorem addf (a : Addr) (j : Nat) (ha : a.add j = ⟨a.block, a.off + j, none⟩) {w : World} {v : Value} (h : w.cell? (a.add j) = some v) : w.cell? ⟨a.block, a.off + j, none⟩ = some v := by rw [← ha]; exact h

theorem orb_of_reads {w : World} (h : Lib.VarReads Tryd.prog w "unicode.caseOrbit" Rows.laid_unicode_caseOrbit) : ∃ (a : Addr) (c : Nat), w.cell? ⟨1, 0, none⟩ = some (.slice (some a) 94 c) ∧ Orb w a := by
  obtain ⟨g, t, cs, fuel, p, hg, hty, hvar, hd⟩ := h
  rw [orb_data] at hd
  obtain rfl := Option.some.inj ((show Tryd.prog.globalNamed "unicode.caseOrbit" = some 1 by kernel_rfl).symm.trans hg)
  obtain rfl := Option.some.inj ((show (Tryd.prog.globals[1]?).map (·.type) = some 34 by kernel_rfl).symm.trans hty)
  have hc : Tryd.prog.cellsOf 37 = 2 := by kernel_rfl
  rcases DataW.trod_slice Tryd.underlying34 hd with ⟨_, hx⟩ | ⟨a, len, cap, elems, rest, m, rfl, hcs, hyy, _, hlc, hmx, hle, hel, _⟩
  · simp at hx
  · have he : elems.map (·.1) = orbZ.map fun x => (.agg ([(x.1 : Int), (x.2 : Int)].map fun z => .lit (.int .u16 z)) : DataW Unit) := by
      have := (Prod.mk.inj hyy).1
      injection this with h1 h2
      exact h1.symm
    have hlen : elems.length = 94 := by have := congrArg List.length he; rw [List.length_map, List.length_map, orb_len] at this; exact this
    have hl94 : len = 94 := by omega
    subst hl94
    refine ⟨a, cap, ?_, fun i hi => ?_⟩
    · rw [World.var?_cell hg hvar 0, ← Array.getElem?_toList, hcs]; rfl
    · have h1 := hel i hi
      rw [hc, List.getElem?_eq_getElem (by omega)] at h1
      cases hcells : w.cells? 0 (a.add (i * 2)) 2 with
      | none => rw [hcells] at h1; cases h1
      | some c =>
        rw [hcells] at h1
        replace h1 : DataW.trod (fun _ => ()) Tryd.prog w 0 (fun _ => true) false m 37 c = some elems[i] := h1
        have hei : elems[i].1 = .agg ([((orow i).1 : Int), ((orow i).2 : Int)].map fun z => .lit (.int .u16 z)) := by
          have := congrArg (fun l => l[i]?) he
          simp only [List.getElem?_map, List.getElem?_eq_getElem (show i < elems.length by omega), List.getElem?_eq_getElem (show i < orbZ.length by rw [orb_len]; exact hi), Option.map_some, Option.some.injEq] at this
          rw [orow_get i hi]; exact this
        generalize elems[i] = y at h1 hei
        obtain ⟨d1, p1⟩ := y
        simp only at hei
        subst hei
        have hz := Lib.ints_of_struct Tryd.underlying37 (fun j f hf => by
          match j, hf with
          | 0, hf => cases hf; exact ⟨Tryd.underlying32, rfl, by kernel_rfl⟩
          | 1, hf => cases hf; exact ⟨Tryd.underlying32, rfl, by kernel_rfl⟩
          | j + 2, hf => simp at hf) (by kernel_rfl) h1
        obtain ⟨_, h8, hce⟩ := World.cells?_some hcells
        have c0 := hce 0 (by omega)
        have c1 := hce 1 (by omega)
        rw [hz, Deep.add_add] at c0 c1
        rw [add_field a (i * 2) 1 (by omega)] at c1
        exact ⟨c0, c1⟩

theorem case_of_reads {w : World} (h : Lib.VarReads Tryd.prog w "unicode.CaseRanges" Rows.laid_unicode_CaseRanges) : ∃ (a : Addr) (c : Nat), w.cell? ⟨2, 0, none⟩ = some (.slice (some a) 336 c) ∧ Cas w a := by
  obtain ⟨g, t, cs, fuel, p, hg, hty, hvar, hd⟩ := h
  replace hd : DataW.trod (fun _ => ()) Tryd.prog w 0 (fun _ => true) false fuel t cs.toList = some (.slice (Pinned.caseRows.map Pinned.caseRange) [], p) := hd
  obtain rfl := Option.some.inj ((show Tryd.prog.globalNamed "unicode.CaseRanges" = some 2 by kernel_rfl).symm.trans hg)
  obtain rfl := Option.some.inj ((show (Tryd.prog.globals[2]?).map (·.type) = some 40 by kernel_rfl).symm.trans hty)
  have hc : Tryd.prog.cellsOf 49 = 5 := by kernel_rfl
  rcases DataW.trod_slice Tryd.underlying40 hd with ⟨_, hx⟩ | ⟨a, len, cap, elems, rest, m, rfl, hcs, hyy, _, hlc, hmx, hle, hel, _⟩
  · simp at hx
  · have he : elems.map (·.1) = Pinned.caseRows.map Pinned.caseRange := by
      have := (Prod.mk.inj hyy).1
      injection this with h1 h2
      exact h1.symm
    have hlen : elems.length = 336 := by have := congrArg List.length he; rw [List.length_map, List.length_map, case_len] at this; exact this
    have hl94 : len = 336 := by omega
    subst hl94
    refine ⟨a, cap, ?_, fun i hi => ?_⟩
    · rw [World.var?_cell hg hvar 0, ← Array.getElem?_toList, hcs]; rfl
    · have h1 := hel i hi
      rw [hc, List.getElem?_eq_getElem (by omega)] at h1
      cases hcells : w.cells? 0 (a.add (i * 5)) 5 with
      | none => rw [hcells] at h1; cases h1
      | some c =>
        rw [hcells] at h1
        replace h1 : DataW.trod (fun _ => ()) Tryd.prog w 0 (fun _ => true) false m 49 c = some elems[i] := h1
        have hei : elems[i].1 = Pinned.caseRange (crow i) := by
          have := congrArg (fun l => l[i]?) he
          simp only [List.getElem?_map, List.getElem?_eq_getElem (show i < elems.length by omega), List.getElem?_eq_getElem (show i < Pinned.caseRows.length by rw [case_len]; exact hi), Option.map_some, Option.some.injEq] at this
          rw [crow_get i hi]; exact this
        generalize elems[i] = y at h1 hei
        generalize crow i = row at hei ⊢
        obtain ⟨d1, p1⟩ := y
        simp only at hei
        subst hei
        obtain ⟨xs, n, rfl, hxx, hl, hlen2, hf⟩ := DataW.trod_struct Tryd.underlying49 h1
        rw [hc] at hl
        have hx3 : xs.length = 3 := hlen2
        obtain ⟨_, h8, hce⟩ := World.cells?_some hcells
        match c, hl, xs, hx3 with
        | [c0, c1, c2, c3, c4], _, [y0, y1, y2], _ =>
          have g0 := hf 0 { name := "Lo", type := 45, offset := 0, embedded := false, tag := "", pkgPath := "", byteOffset := 0 } rfl
          have g1 := hf 1 { name := "Hi", type := 45, offset := 1, embedded := false, tag := "", pkgPath := "", byteOffset := 4 } rfl
          have g2 := hf 2 { name := "Delta", type := 47, offset := 2, embedded := false, tag := "", pkgPath := "", byteOffset := 8 } rfl
          have ci : Tryd.prog.cellsOf 45 = 1 := by kernel_rfl
          have cd : Tryd.prog.cellsOf 47 = 3 := by kernel_rfl
          simp only [ci, cd, List.drop_succ_cons, List.drop_zero, List.take_succ_cons, List.take_zero, List.getElem?_cons_zero, List.getElem?_cons_succ] at g0 g1 g2
          have hxx2 := (Prod.mk.inj hxx).1
          unfold Pinned.caseRange at hxx2
          injection hxx2 with hl3
          simp only [List.map_cons, List.map_nil, List.cons.injEq, and_true] at hl3
          obtain ⟨e0, e1, e2⟩ := hl3
          obtain ⟨z0, k0, l0, _⟩ := DataW.trod_int Tryd.underlying45 g0
          obtain ⟨z1, k1, l1, _⟩ := DataW.trod_int Tryd.underlying45 g1
          obtain ⟨y2d, y2p⟩ := y2
          simp only at e2
          subst e2
          have k2 := Lib.cells_of_tab (zs := [row.2.2.1, row.2.2.2.1, row.2.2.2.2]) Tryd.underlying47 Tryd.underlying21 (by kernel_rfl) (by kernel_rfl) g2
          cases k0; cases k1
          rw [l0] at e0
          rw [l1] at e1
          simp only [DataW.lit.injEq, Lit.int.injEq, true_and] at e0 e1
          simp only [List.map_cons, List.map_nil, List.cons.injEq, and_true] at k2
          obtain ⟨rfl, rfl, rfl⟩ := k2
          subst e0
          subst e1
          have q0 := hce 0 (by omega)
          have q1 := hce 1 (by omega)
          have q2 := hce 2 (by omega)
          have q3 := hce 3 (by omega)
          have q4 := hce 4 (by omega)
          rw [Deep.add_add] at q0 q1 q2 q3 q4
          rw [add_field a (i * 5) 1 (by omega)] at q1
          rw [add_field a (i * 5) 2 (by omega)] at q2
          rw [add_field a (i * 5) 3 (by omega)] at q3
          rw [add_field a (i * 5) 4 (by omega)] at q4
          exact ⟨q0, q1, q2, q3, q4⟩
theorem folds_of_reads {w : World} (h1 : Lib.VarReads Tryd.prog w "unicode.asciiFold" Rows.laid_unicode_asciiFold) (h2 : Lib.VarReads Tryd.prog w "unicode.caseOrbit" Rows.laid_unicode_caseOrbit) (h3 : Lib.VarReads Tryd.prog w "unicode.CaseRanges" Rows.laid_unicode_CaseRanges) : Folds w :=
  ⟨asc_of_reads h1, orb_of_reads h2, case_of_reads h3⟩
end Go.Proofs.YtkcnodkojllobaaDoor.Sf
