/- FnPgAdd, for every input: the machine's queue has the instructions that are reached, each once, in order of preference; the tied card. -/
import Derived.Test.YtjmiliijoodbcaaDoorVnFnPgAdd
import Derived.Test.YtjmiliijoodbcaaDoorPoFnPgAdd
import Derived.Test.YtjmiliijoodbcaaDoorTie
import Derived.Test.YtjmiliijoodbcaaDoorCards
import Derived.ProofKit
import Derived.OpenShut
import Derived.ChangeOld
import Derived.ShutString
import Derived.Below
import Derived.Carry
import Derived.SizedLaws
import Derived.LaidMore
import Derived.Lay
import Derived.SevenTiedAt
import Derived.Stop.Joined
namespace Go.Proofs.YtjmiliijoodbcaaDoor.fnPgAdd
open Go.ChangeShapes Go.WideShapes Go.ChangeAt Go.RowKit Go.Proofs.YtjmiliijoodbcaaDoor.PoFnPgAdd Go.Proofs.YtjmiliijoodbcaaDoor.PFnPgAdd Go.Proofs.YtjmiliijoodbcaaDoor.PgFnPgAdd Go.Proofs.YtjmiliijoodbcaaDoorW.PrintWords
set_option linter.unusedVariables false
theorem own : ownKnob Tryd.prog.godebug = none := by kernel_rfl
theorem laidOut : laidOutB Tryd.prog = true := by kernel_rfl

theorem sizes_laid {W : World} (h : laidMetH Tryd.prog Rows.fnPgAddRow.laid W) : Sizes W := by
  rw [MakeChecks.laidMetH_plain _ _ _ (by kernel_rfl)] at h
  obtain ⟨ps, ⟨g, t, cs, fuel, p, q, hg, ht, hv, hd, _, _⟩, _, _⟩ := h
  obtain rfl := Option.some.inj ((show Tryd.prog.globalNamed "pub-searce/pub/regexp.matchSize" = some 0 by kernel_rfl).symm.trans hg)
  obtain rfl := Option.some.inj ((show (Tryd.prog.globals[0]?).map (·.type) = some 133 by kernel_rfl).symm.trans ht)
  obtain ⟨xs, m, _, ex, _, hl, hel⟩ := DataW.trod_array Tryd.underlying133 hd
  have c5 : Tryd.prog.cellsOf 3 = 1 := by kernel_rfl
  intro r hr
  have hE := hel r hr
  rw [c5, Nat.mul_one, List.getElem?_eq_getElem (by omega)] at hE
  obtain ⟨z, e1, e2, _⟩ := DataW.trod_int Tryd.underlying3 hE
  have e3 : (xs.map (·.1)) = msz.map fun n => .lit (.int .i64 n) := (DataW.agg.inj (Prod.mk.inj ex).1).symm
  have e4 : (xs.map (·.1))[r]? = (msz.map fun n => (DataW.lit (.int .i64 n) : DataW Unit))[r]? := by rw [e3]
  have hml : msz.length = 5 := rfl
  rw [List.getElem?_map, List.getElem?_map, List.getElem?_eq_getElem (by omega : r < xs.length), List.getElem?_eq_getElem (by omega : r < msz.length), e2] at e4
  have hz : z = msz.getD r 0 := by
    simp only [Option.map_some, Option.some.injEq, DataW.lit.injEq, Lit.int.injEq, true_and] at e4
    rw [e4, List.getD, List.getElem?_eq_getElem (by omega : r < msz.length)]; rfl
  rw [World.var?_cell hg hv r, ← hz]
  have : cs.toList[r]? = some (.int .i64 z) := by
    have h0 : ((cs.toList.drop r).take 1)[0]? = some (.int .i64 z) := by rw [e1]; rfl
    simpa using h0
  simpa using this

/-- A program that came in. -/
theorem arg_prog {H : Type} {enc : TypeId × Value → H} {W : World} {v : Value} {d : DataW H} {p : List MemPlace} (h : DataW.Trod enc Tryd.prog W 0 (fun _ => true) true 24 v d p) :
    ∃ (A : Option Addr) (c : Nat) (L : List S60) (st nc : Int), v = .agg #[.slice A L.length c, .int .i64 st, .int .i64 nc] ∧ L.length ≤ c ∧ Kd.C k60 W A L.length L := by
  obtain ⟨fuel, hf⟩ := h
  obtain ⟨A, c, L, st, nc, e, hl, hK⟩ := prog_open fuel hf
  refine ⟨A, c, L, st, nc, ?_, hl, hK⟩
  have e2 : v.cells.toList = _ := e
  cases v <;> simp [Value.cells] at e2
  rw [← e2]
set_option maxRecDepth 100000 in
theorem arg_ints {H : Type} {enc : TypeId × Value → H} {W : World} {base : Nat} {v : Value} {d : DataW H} {p : List MemPlace} (hv : Value.okWide Tryd.prog W .any base 25 v) (h : DataW.Trod enc Tryd.prog W 0 (fun _ => true) true 25 v d p) :
    ∃ (A : Option Addr) (c : Nat) (l : List Int), v = .slice A l.length c ∧ l.length ≤ c ∧ Kd.C (Kd.int .i64) W A l.length l := by
  obtain ⟨fuel, hf⟩ := h
  obtain ⟨A, c, l, e, hl, hK⟩ := ints_open Tryd.underlying25 Tryd.underlying3 (by kernel_rfl) hf
  obtain ⟨a0, len, cap, rfl⟩ := okWide_slice Tryd.underlying25 hv
  refine ⟨A, c, l, ?_, hl, hK⟩
  have e2 : [Value.slice a0 len cap] = [Value.slice A l.length c] := e
  exact (List.cons.inj e2).1

set_option maxRecDepth 100000 in
theorem lifted (os : Os) (started : os.Started) (H : Type) (enc : TypeId × Value → H) :
    ReturnsInHanded {} Tryd.checked os 3 .any (fun w args => (Rows.fnPgAddSpec.pre enc Tryd.prog Tryd.f3 Rows.fnPgAddRow.domain false w args ∧ laidMetH Tryd.prog Rows.fnPgAddRow.laid w) ∧ sizedMet enc Tryd.prog Tryd.f3 (OpenSpec.ofChange Rows.fnPgAddSpec) false w args)
      (Rows.fnPgAddSpec.post enc Tryd.prog Tryd.f3 false true false false) := by
  refine returnsInHanded_of_change_and (C := Tryd.checked) (X := fun w _ => laidMetH Tryd.prog Rows.fnPgAddRow.laid w) (fun _ _ _ hh h => h.of_heap hh) own started (by kernel_rfl) Tryd.func3
    (ChangeSpec.witness_shaped (enc := enc) (C := Tryd.checked) (os := os) (X := fun w _ => laidMetH Tryd.prog Rows.fnPgAddRow.laid w) false (World.laidAll Tryd.prog os Rows.fnPgAddRow.laid) #[.agg #[.slice none 0 0, .int .i64 0, .int .i64 0], .slice none 0 0, .int .i32 0, .int .i32 0] 8 (World.laidAll_os _ _ _)
      (World.shaped_of_ZipB (by kernel_rfl) (by kernel_rfl)) (by kernel_rfl) (by kernel_rfl) (by kernel_rfl)
      (by rw [MakeChecks.laidMetH_plain _ _ _ (by kernel_rfl)]; exact laidMet_laidAll _ (by kernel_rfl) (by kernel_rfl))) ?_
  intro W base args ds gs before hval0 hW hcnd _ hL _
  have hval : ∀ (j : Nat) t v, Tryd.f3.params[j]? = some t → args[j]? = some v → Value.okWide Tryd.prog W .any base t v := hval0
  have hW' := hW
  obtain ⟨p, q, hA0, hV, rfl, hfz, hnd⟩ := hW
  have hA : DataW.TrodAll enc Tryd.prog W 0 (fun _ => true) true Tryd.f3.params.toList args.toList ds p := hA0
  rw [Tryd.params3] at hA hval
  obtain ⟨v0, vs0, d0, ds0, p0, q0, hargs, rfl, rfl, h0, r0⟩ := trodAll_cons hA
  obtain ⟨v1, vs1, d1, ds1, p1, q1, rfl, rfl, rfl, h1, r1⟩ := trodAll_cons r0
  obtain ⟨v2, vs2, d2, ds2, p2, q2, rfl, rfl, rfl, h2, r2⟩ := trodAll_cons r1
  obtain ⟨v3, vs3, d3, ds3, p3, q3, rfl, rfl, rfl, h3, r3⟩ := trodAll_cons r2
  obtain ⟨rfl, rfl, rfl⟩ := trodAll_nil r3
  obtain rfl : args = #[v0, v1, v2, v3] := by cases args; simp_all
  obtain ⟨rfl, rfl⟩ := trodVars_none hV
  obtain ⟨x2, rfl, rfl, rfl, wx2⟩ := open_int Tryd.underlying21 (hval 2 21 v2 rfl rfl) h2
  obtain ⟨x3, rfl, rfl, rfl, wx3⟩ := open_int Tryd.underlying21 (hval 3 21 v3 rfl rfl) h3
  have k0 := h0
  have lt0 : ∀ x ∈ p0, x.block < W.heap.size := by obtain ⟨m, hm⟩ := k0; exact DataW.trod_lt m _ _ _ hm
  have k1 := h1
  have lt1 : ∀ x ∈ p1, x.block < W.heap.size := by obtain ⟨m, hm⟩ := k1; exact DataW.trod_lt m _ _ _ hm
  obtain ⟨A0, c0, L, st, nc, rfl, hl0, hK0⟩ := arg_prog h0
  obtain ⟨A1, c1, l1, rfl, hl1, hK1⟩ := arg_ints (hval 1 25 v1 rfl rfl) h1
  have hSZ := sizes_laid hL
  clear hA0 hval0 hval
  refine (law_calls W A0 c0 hK0 hl0 l1 A1 c1 hK1 hl1 hSZ x2 x3).mono fun e W' ⟨he, bel⟩ => ?_
  subst he
  exact ⟨_, rfl, _, _, _, [], _, [], hW', trodAll_mk1 (shut_bool Tryd.underlying4 _), (trodAll_cons_mk (Below.trod laidOut (by kernel_rfl) (of_decide_eq_true (by kernel_rfl)) k0 bel lt0) (trodAll_cons_mk (Below.trod laidOut (by kernel_rfl) (of_decide_eq_true (by kernel_rfl)) k1 bel lt1) (trodAll_cons_mk (shut_int Tryd.underlying21 wx2) (trodAll_cons_mk (shut_int Tryd.underlying21 wx3) trodAll_mk0)))), rfl, bel.frame _, fun h => by cases h⟩
theorem over : Rows.fnPgAddRow.holds Tryd.pinned (OpenSpec.ofChange Rows.fnPgAddSpec) :=
  OpenClaim.holds_of_wide 3 Tryd.f3 rfl rfl rfl rfl rfl rfl rfl ⟨rfl, rfl, rfl, rfl, rfl⟩ rfl rfl rfl rfl rfl (by kernel_rfl) Tryd.func3 (by kernel_rfl)
    (of_decide_eq_true (by kernel_rfl)) (by unfold Func.isWrapper; first | (rw [if_pos (by decide +kernel)]; kernel_rfl) | (rw [if_neg (by decide +kernel)]; exact ⟨rfl, rfl⟩))
    (fun os started H enc _ => lifted os started H enc)
end Go.Proofs.YtjmiliijoodbcaaDoor.fnPgAdd
namespace Go.Proofs.YtjmiliijoodbcaaDoor
open Go.ChangeShapes Go.WideShapes Go.ChangeAt Go.RowKit
theorem fnPgAdd_card : Rows.FnPgAddCardSaid :=
  Claim7.holds_tied_plain_at .later [] [.data] true (true, "e8d66d96621079235872b179ba824a437c5d4914906ea10284268f9494a97566") false fnPgAdd.over (fun _ h => by cases h) (by kernel_rfl) (fun _ h => by cases h) fnPgAdd_row_tie rfl ⟨rfl, rfl⟩ (by kernel_rfl) rfl
    (fun f fn hf hfn => by
      obtain rfl : f = 3 := Option.some.inj ((show Tryd.prog.funcNamed "pub-searce/laws.FnPgAdd" = some 3 by kernel_rfl).symm.trans hf) |>.symm
      obtain rfl : fn = Tryd.f3 := (Option.some.inj (Tryd.func3.symm.trans hfn)).symm
      exact ⟨by kernel_rfl, fun j t ht => by
        rw [Tryd.params3] at ht
        have hm : t ∈ [24, 25, 21, 21] := by simpa using Array.mem_of_getElem? ht
        have hall : ([24, 25, 21, 21].all fun u => !Tryd.prog.wantsStandIn u) = true := by kernel_rfl
        exact (show Tryd.prog.wantsStandIn t = false by simpa using List.all_eq_true.1 hall t hm)⟩)
    (by kernel_rfl)
#print axioms fnPgAdd_card
end Go.Proofs.YtjmiliijoodbcaaDoor
