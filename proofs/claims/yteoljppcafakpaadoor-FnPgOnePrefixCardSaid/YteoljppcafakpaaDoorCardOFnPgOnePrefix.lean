/- FnPgOnePrefix, for every program and text: the literal prefix of an anchored program is what its ways begin with; the tied card. -/
import Derived.Test.YteoljppcafakpaaDoorOcFnPgOnePrefix
import Derived.Test.YteoljppcafakpaaDoorPoFnPgOnePrefix
import Derived.Test.YteoljppcafakpaaDoorSl
import Derived.Test.YteoljppcafakpaaDoorTie
import Derived.Test.YteoljppcafakpaaDoorCards
import Derived.ProofKit
import Derived.OpenShut
import Derived.ChangeOld
import Derived.ShutString
import Derived.Below
import Derived.Carry
import Derived.SizedLaws
import Derived.LaidMore
import Derived.Lay
import Derived.SevenTiedAt
import Derived.Stop.Joined
namespace Go.Proofs.YteoljppcafakpaaDoor.fnPgOnePrefix
open Go.ChangeShapes Go.WideShapes Go.ChangeAt Go.RowKit Go.Proofs.YteoljppcafakpaaDoor.PoFnPgOnePrefix Go.Proofs.YteoljppcafakpaaDoor.PFnPgOnePrefix Go.Proofs.YteoljppcafakpaaDoor.PgFnPgOnePrefix Go.Proofs.YteoljppcafakpaaDoor.Sf Go.Proofs.YteoljppcafakpaaDoorW.PrintWords
open Go.ChangeMaps (open_string shut_string)
set_option linter.unusedVariables false
theorem own : ownKnob Tryd.prog.godebug = none := by kernel_rfl
theorem laidOut : laidOutB Tryd.prog = true := by kernel_rfl

theorem first_data : (Rows.laid_unicode_utf8_first : DataW Unit) = Lib.firstData := by kernel_rfl
theorem accept_data : (Rows.laid_unicode_utf8_acceptRanges : DataW Unit) = Lib.acceptData := by kernel_rfl
theorem extra : U8Extra Tryd.prog Tryd.lays260_ren := ⟨by kernel_rfl, by kernel_rfl, by kernel_rfl, by kernel_rfl, by kernel_rfl, by kernel_rfl, by kernel_rfl⟩
theorem laid_says {W : World} (h : laidMetH Tryd.prog Rows.fnPgOnePrefixRow.laid W) : Tabs W ∧ Folds W := by
  rw [MakeChecks.laidMetH_plain _ _ _ (by kernel_rfl)] at h
  have h0 : laidMet Tryd.prog Rows.fnPgOnePrefixRow.laid W := h
  refine ⟨?_, folds_of_reads (Lib.laidMet.reads h0 (by simp [Rows.fnPgOnePrefixRow])) (Lib.laidMet.reads h0 (by simp [Rows.fnPgOnePrefixRow])) (Lib.laidMet.reads h0 (by simp [Rows.fnPgOnePrefixRow]))⟩
  have h1 : Lib.VarReads Tryd.prog W "unicode/utf8.first" Rows.laid_unicode_utf8_first := Lib.laidMet.reads h0 (by simp [Rows.fnPgOnePrefixRow])
  have h2 : Lib.VarReads Tryd.prog W "unicode/utf8.acceptRanges" Rows.laid_unicode_utf8_acceptRanges := Lib.laidMet.reads h0 (by simp [Rows.fnPgOnePrefixRow])
  rw [first_data] at h1
  rw [accept_data] at h2
  exact utf8Tabs_of_reads Tryd.lays260 extra h1 h2

/-- A program that came in. -/
theorem arg_prog {H : Type} {enc : TypeId × Value → H} {W : World} {v : Value} {d : DataW H} {p : List MemPlace} (h : DataW.Trod enc Tryd.prog W 0 (fun _ => true) true 24 v d p) :
    ∃ (A : Option Addr) (c : Nat) (L : List S29) (st nc : Int), v = .agg #[.slice A L.length c, .int .i64 st, .int .i64 nc] ∧ L.length ≤ c ∧ Kd.C k29 W A L.length L := by
  obtain ⟨fuel, hf⟩ := h
  obtain ⟨A, c, L, st, nc, e, hl, hK⟩ := prog_open fuel hf
  refine ⟨A, c, L, st, nc, ?_, hl, hK⟩
  have e2 : v.cells.toList = _ := e
  cases v <;> simp [Value.cells] at e2
  rw [← e2]

set_option maxRecDepth 100000 in
theorem lifted (os : Os) (started : os.Started) (H : Type) (enc : TypeId × Value → H) :
    ReturnsInHanded {} Tryd.checked os 3 .any (fun w args => (Rows.fnPgOnePrefixSpec.pre enc Tryd.prog Tryd.f3 Rows.fnPgOnePrefixRow.domain false w args ∧ laidMetH Tryd.prog Rows.fnPgOnePrefixRow.laid w) ∧ sizedMet enc Tryd.prog Tryd.f3 (OpenSpec.ofChange Rows.fnPgOnePrefixSpec) false w args)
      (Rows.fnPgOnePrefixSpec.post enc Tryd.prog Tryd.f3 false true false false) := by
  refine returnsInHanded_of_change_and (C := Tryd.checked) (X := fun w _ => laidMetH Tryd.prog Rows.fnPgOnePrefixRow.laid w) (fun _ _ _ hh h => h.of_heap hh) own started (by kernel_rfl) Tryd.func3
    (ChangeSpec.witness_shaped (enc := enc) (C := Tryd.checked) (os := os) (X := fun w _ => laidMetH Tryd.prog Rows.fnPgOnePrefixRow.laid w) false (World.laidAll Tryd.prog os Rows.fnPgOnePrefixRow.laid) #[.agg #[.slice none 0 0, .int .i64 0, .int .i64 0], .string ByteArray.empty] 8 (World.laidAll_os _ _ _)
      (World.shaped_of_ZipB (by kernel_rfl) (by kernel_rfl)) (by kernel_rfl) (by kernel_rfl) (by kernel_rfl)
      (by rw [MakeChecks.laidMetH_plain _ _ _ (by kernel_rfl)]; exact laidMet_laidAll _ (by kernel_rfl) (by kernel_rfl))) ?_
  intro W base args ds gs before hval0 hW hcnd _ hL _
  have hval : ∀ (j : Nat) t v, Tryd.f3.params[j]? = some t → args[j]? = some v → Value.okWide Tryd.prog W .any base t v := hval0
  have hW' := hW
  obtain ⟨p, q, hA0, hV, rfl, hfz, hnd⟩ := hW
  have hA : DataW.TrodAll enc Tryd.prog W 0 (fun _ => true) true Tryd.f3.params.toList args.toList ds p := hA0
  rw [Tryd.params3] at hA hval
  obtain ⟨v0, vs0, d0, ds0, p0, q0, hargs, rfl, rfl, h0, r0⟩ := trodAll_cons hA
  obtain ⟨v1, vs1, d1, ds1, p1, q1, rfl, rfl, rfl, h1, r1⟩ := trodAll_cons r0
  obtain ⟨rfl, rfl, rfl⟩ := trodAll_nil r1
  obtain rfl : args = #[v0, v1] := by cases args; simp_all
  obtain ⟨rfl, rfl⟩ := trodVars_none hV
  obtain ⟨s, rfl, rfl, rfl, ws⟩ := open_string Tryd.underlying9 (hval 1 9 v1 rfl rfl) h1
  have k0 := h0
  have lt0 : ∀ x ∈ p0, x.block < W.heap.size := by obtain ⟨m, hm⟩ := k0; exact DataW.trod_lt m _ _ _ hm
  obtain ⟨A0, c0, L, st, nc, rfl, hl0, hK0⟩ := arg_prog h0
  obtain ⟨hTB, hFD⟩ := laid_says hL
  clear hA0 hval0 hval
  refine (law_calls W A0 c0 hK0 hl0 s hTB hFD).mono fun e W' ⟨he, bel⟩ => ?_
  subst he
  exact ⟨_, rfl, _, _, _, [], _, [], hW', trodAll_mk1 (shut_bool Tryd.underlying4 _), (trodAll_cons_mk (Below.trod laidOut (by kernel_rfl) (of_decide_eq_true (by kernel_rfl)) k0 bel lt0) (trodAll_cons_mk (shut_string Tryd.underlying9 ws) trodAll_mk0)), rfl, bel.frame _, fun h => by cases h⟩
theorem over : Rows.fnPgOnePrefixRow.holds Tryd.pinned (OpenSpec.ofChange Rows.fnPgOnePrefixSpec) :=
  OpenClaim.holds_of_wide 3 Tryd.f3 rfl rfl rfl rfl rfl rfl rfl ⟨rfl, rfl, rfl, rfl, rfl⟩ rfl rfl rfl rfl rfl (by kernel_rfl) Tryd.func3 (by kernel_rfl)
    (of_decide_eq_true (by kernel_rfl)) (by unfold Func.isWrapper; first | (rw [if_pos (by decide +kernel)]; kernel_rfl) | (rw [if_neg (by decide +kernel)]; exact ⟨rfl, rfl⟩))
    (fun os started H enc _ => lifted os started H enc)
end Go.Proofs.YteoljppcafakpaaDoor.fnPgOnePrefix
namespace Go.Proofs.YteoljppcafakpaaDoor
open Go.ChangeShapes Go.WideShapes Go.ChangeAt Go.RowKit
theorem fnPgOnePrefix_card : Rows.FnPgOnePrefixCardSaid :=
  Claim7.holds_tied_plain_at .later [] [.data, .data, .data, .pinned, .pinned] true (true, "8dfcac6fdb26901e0359ae2b5ce616577dea012875e254e14c1872422586cd18") false fnPgOnePrefix.over (fun _ h => by cases h) (by kernel_rfl) (fun _ h => by cases h) fnPgOnePrefix_row_tie rfl ⟨rfl, rfl⟩ (by kernel_rfl) rfl
    (fun f fn hf hfn => by
      obtain rfl : f = 3 := Option.some.inj ((show Tryd.prog.funcNamed "pub-searce/laws.FnPgOnePrefix" = some 3 by kernel_rfl).symm.trans hf) |>.symm
      obtain rfl : fn = Tryd.f3 := (Option.some.inj (Tryd.func3.symm.trans hfn)).symm
      exact ⟨by kernel_rfl, fun j t ht => by
        rw [Tryd.params3] at ht
        have hm : t ∈ [24, 9] := by simpa using Array.mem_of_getElem? ht
        have hall : ([24, 9].all fun u => !Tryd.prog.wantsStandIn u) = true := by kernel_rfl
        exact (show Tryd.prog.wantsStandIn t = false by simpa using List.all_eq_true.1 hall t hm)⟩)
    (by kernel_rfl)
#print axioms fnPgOnePrefix_card
end Go.Proofs.YteoljppcafakpaaDoor
