/- FnSyFolded, for every list and range of characters: adding a range with all that differ in case alone gives ascending ranges apart, which have just those characters; the tied card. -/
import Derived.Test.YtkcnodkojllobaaDoorZp
import Derived.Test.YtkcnodkojllobaaDoorSl
import Derived.Test.YtkcnodkojllobaaDoorTie
import Derived.Test.YtkcnodkojllobaaDoorCards
import Derived.ProofKit
import Derived.OpenShut
import Derived.ChangeOld
import Derived.ShutString
import Derived.Below
import Derived.Carry
import Derived.SizedLaws
import Derived.LaidMore
import Derived.Lay
import Derived.SevenTiedAt
import Derived.Stop.Joined
namespace Go.Proofs.YtkcnodkojllobaaDoor.fnSyFolded
open Go Go.ChangeShapes Go.WideShapes Go.ChangeAt Go.RowKit Go.Proofs.YtkcnodkojllobaaDoor.Fld Go.Proofs.YtkcnodkojllobaaDoor.Sf Go.Proofs.YtkcnodkojllobaaDoorW.PrintWords Go.Proofs.YtkcnodkojllobaaDoorW.PrintLast
open Go.ChangeMaps (open_string shut_string)
set_option linter.unusedVariables false
theorem own : ownKnob Tryd.prog.godebug = none := by kernel_rfl
theorem laidOut : laidOutB Tryd.prog = true := by kernel_rfl

theorem laid_says {W : World} (h : laidMetH Tryd.prog Rows.fnSyFoldedRow.laid W) : Folds W := by
  rw [MakeChecks.laidMetH_plain _ _ _ (by kernel_rfl)] at h
  have h0 : laidMet Tryd.prog Rows.fnSyFoldedRow.laid W := h
  exact folds_of_reads (Lib.laidMet.reads h0 (by simp [Rows.fnSyFoldedRow])) (Lib.laidMet.reads h0 (by simp [Rows.fnSyFoldedRow])) (Lib.laidMet.reads h0 (by simp [Rows.fnSyFoldedRow]))

set_option maxRecDepth 100000 in
theorem arg_ints {H : Type} {enc : TypeId × Value → H} {W : World} {base : Nat} {v : Value} {d : DataW H} {p : List MemPlace} (hv : Value.okWide Tryd.prog W .any base 22 v) (h : DataW.Trod enc Tryd.prog W 0 (fun _ => true) true 22 v d p) :
    ∃ (A : Option Addr) (c : Nat) (l : List Int), v = .slice A l.length c ∧ l.length ≤ c ∧ Kd.C (Kd.int .i32) W A l.length l := by
  obtain ⟨fuel, hf⟩ := h
  obtain ⟨A, c, l, e, hl, hK⟩ := ints_open Tryd.underlying22 Tryd.underlying21 (by kernel_rfl) hf
  obtain ⟨a0, len, cap, rfl⟩ := okWide_slice Tryd.underlying22 hv
  refine ⟨A, c, l, ?_, hl, hK⟩
  have e2 : [Value.slice a0 len cap] = [Value.slice A l.length c] := e
  exact (List.cons.inj e2).1

set_option maxRecDepth 100000 in
theorem lifted (os : Os) (started : os.Started) (H : Type) (enc : TypeId × Value → H) :
    ReturnsInHanded {} Tryd.checked os 3 .any (fun w args => (Rows.fnSyFoldedSpec.pre enc Tryd.prog Tryd.f3 Rows.fnSyFoldedRow.domain false w args ∧ laidMetH Tryd.prog Rows.fnSyFoldedRow.laid w) ∧ sizedMet enc Tryd.prog Tryd.f3 (OpenSpec.ofChange Rows.fnSyFoldedSpec) false w args)
      (Rows.fnSyFoldedSpec.post enc Tryd.prog Tryd.f3 false true false false) := by
  refine returnsInHanded_of_change_and (C := Tryd.checked) (X := fun w _ => laidMetH Tryd.prog Rows.fnSyFoldedRow.laid w) (fun _ _ _ hh h => h.of_heap hh) own started (by kernel_rfl) Tryd.func3
    (ChangeSpec.witness_shaped (enc := enc) (C := Tryd.checked) (os := os) (X := fun w _ => laidMetH Tryd.prog Rows.fnSyFoldedRow.laid w) false (World.laidAll Tryd.prog os Rows.fnSyFoldedRow.laid) #[.slice none 0 0, .int .i32 0, .int .i32 0, .int .i32 0] 8 (World.laidAll_os _ _ _)
      (World.shaped_of_ZipB (by kernel_rfl) (by kernel_rfl)) (by kernel_rfl) (by kernel_rfl) (by kernel_rfl)
      (by rw [MakeChecks.laidMetH_plain _ _ _ (by kernel_rfl)]; exact laidMet_laidAll _ (by kernel_rfl) (by kernel_rfl))) ?_
  intro W base args ds gs before hval0 hW hcnd _ hL _
  have hval : ∀ (j : Nat) t v, Tryd.f3.params[j]? = some t → args[j]? = some v → Value.okWide Tryd.prog W .any base t v := hval0
  have hW' := hW
  obtain ⟨p, q, hA0, hV, rfl, hfz, hnd⟩ := hW
  have hA : DataW.TrodAll enc Tryd.prog W 0 (fun _ => true) true Tryd.f3.params.toList args.toList ds p := hA0
  rw [Tryd.params3] at hA hval
  obtain ⟨v0, vs0, d0, ds0, p0, q0, hargs, rfl, rfl, h0, r0⟩ := trodAll_cons hA
  obtain ⟨v1, vs1, d1, ds1, p1, q1, rfl, rfl, rfl, h1, r1⟩ := trodAll_cons r0
  obtain ⟨v2, vs2, d2, ds2, p2, q2, rfl, rfl, rfl, h2, r2⟩ := trodAll_cons r1
  obtain ⟨v3, vs3, d3, ds3, p3, q3, rfl, rfl, rfl, h3, r3⟩ := trodAll_cons r2
  obtain ⟨rfl, rfl, rfl⟩ := trodAll_nil r3
  obtain rfl : args = #[v0, v1, v2, v3] := by cases args; simp_all
  obtain ⟨rfl, rfl⟩ := trodVars_none hV
  obtain ⟨x1, rfl, rfl, rfl, wx1⟩ := open_int Tryd.underlying21 (hval 1 21 v1 rfl rfl) h1
  obtain ⟨x2, rfl, rfl, rfl, wx2⟩ := open_int Tryd.underlying21 (hval 2 21 v2 rfl rfl) h2
  obtain ⟨x3, rfl, rfl, rfl, wx3⟩ := open_int Tryd.underlying21 (hval 3 21 v3 rfl rfl) h3
  have k0 := h0
  have lt0 : ∀ x ∈ p0, x.block < W.heap.size := by obtain ⟨m, hm⟩ := k0; exact DataW.trod_lt m _ _ _ hm
  obtain ⟨A0, c0, l, rfl, hl0, hK0⟩ := arg_ints (hval 0 22 v0 rfl rfl) h0
  have hFD := laid_says hL
  have hb : ∀ {x : Int}, (Lit.int .i32 x).wf → -2147483648 ≤ x ∧ x ≤ 2147483647 := fun {x} wx => by
    have h : IntKind.i32.min ≤ x ∧ x ≤ IntKind.i32.max := by simpa [Lit.wf] using wx
    have e : IntKind.i32.min = -2147483648 := by decide
    have e2 : IntKind.i32.max = 2147483647 := by decide
    omega
  clear hA0 hval0 hval
  refine (law_calls l A0 c0 W hK0 hl0 x1 x2 x3 (hb wx1) (hb wx2) (hb wx3) hFD).mono fun e W' ⟨he, bel⟩ => ?_
  subst he
  exact ⟨_, rfl, _, _, _, [], _, [], hW', trodAll_mk1 (shut_bool Tryd.underlying4 _), (trodAll_cons_mk (Below.trod laidOut (by kernel_rfl) (of_decide_eq_true (by kernel_rfl)) k0 bel lt0) (trodAll_cons_mk (shut_int Tryd.underlying21 wx1) (trodAll_cons_mk (shut_int Tryd.underlying21 wx2) (trodAll_cons_mk (shut_int Tryd.underlying21 wx3) trodAll_mk0)))), rfl, bel.frame _, fun h => by cases h⟩
theorem over : Rows.fnSyFoldedRow.holds Tryd.pinned (OpenSpec.ofChange Rows.fnSyFoldedSpec) :=
  OpenClaim.holds_of_wide 3 Tryd.f3 rfl rfl rfl rfl rfl rfl rfl ⟨rfl, rfl, rfl, rfl, rfl⟩ rfl rfl rfl rfl rfl (by kernel_rfl) Tryd.func3 (by kernel_rfl)
    (of_decide_eq_true (by kernel_rfl)) (by unfold Func.isWrapper; first | (rw [if_pos (by decide +kernel)]; kernel_rfl) | (rw [if_neg (by decide +kernel)]; exact ⟨rfl, rfl⟩))
    (fun os started H enc _ => lifted os started H enc)
end Go.Proofs.YtkcnodkojllobaaDoor.fnSyFolded
namespace Go.Proofs.YtkcnodkojllobaaDoor
open Go.ChangeShapes Go.WideShapes Go.ChangeAt Go.RowKit
theorem fnSyFolded_card : Rows.FnSyFoldedCardSaid :=
  Claim7.holds_tied_plain_at .later [] [.data, .data, .pinned] true (true, "fb282a416ba95bc519477a7167a8f924a5bb9fa366ebecfbfe12cb27909335eb") false fnSyFolded.over (fun _ h => by cases h) (by kernel_rfl) (fun _ h => by cases h) fnSyFolded_row_tie rfl ⟨rfl, rfl⟩ (by kernel_rfl) rfl
    (fun f fn hf hfn => by
      obtain rfl : f = 3 := Option.some.inj ((show Tryd.prog.funcNamed "pub-searce/laws.FnSyFolded" = some 3 by kernel_rfl).symm.trans hf) |>.symm
      obtain rfl : fn = Tryd.f3 := (Option.some.inj (Tryd.func3.symm.trans hfn)).symm
      exact ⟨by kernel_rfl, fun j t ht => by
        rw [Tryd.params3] at ht
        have hm : t ∈ [22, 21, 21, 21] := by simpa using Array.mem_of_getElem? ht
        have hall : ([22, 21, 21, 21].all fun u => !Tryd.prog.wantsStandIn u) = true := by kernel_rfl
        exact (show Tryd.prog.wantsStandIn t = false by simpa using List.all_eq_true.1 hall t hm)⟩)
    (by kernel_rfl)
#print axioms fnSyFolded_card
end Go.Proofs.YtkcnodkojllobaaDoor
