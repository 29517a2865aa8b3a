/- FnMtLeast, for every tree and text: no match of the tree is shorter than the least length that is kept with the expression made of it; the tied card. -/
import Derived.Test.YtofkpinikkfmeaaDoorGyFnMtLeast
import Derived.Test.YtofkpinikkfmeaaDoorSl
import Derived.Test.YtofkpinikkfmeaaDoorTie
import Derived.Test.YtofkpinikkfmeaaDoorCards
import Derived.ProofKit
import Derived.OpenShut
import Derived.ChangeOld
import Derived.ShutString
import Derived.Below
import Derived.Carry
import Derived.SizedLaws
import Derived.LaidMore
import Derived.Lay
import Derived.SevenTiedAt
import Derived.Stop.Joined
namespace Go.Proofs.YtofkpinikkfmeaaDoor.fnMtLeast
open Go.ChangeShapes Go.WideShapes Go.ChangeAt Go.RowKit Go.Proofs.YtofkpinikkfmeaaDoor.PFnMtLeast Go.Proofs.YtofkpinikkfmeaaDoor.TrFnMtLeast Go.Proofs.YtofkpinikkfmeaaDoor.TxFnMtLeast
open Go.Proofs.YtofkpinikkfmeaaDoor.Sf hiding T
open Go.ChangeMaps (open_string shut_string)
set_option linter.unusedVariables false
theorem own : ownKnob Tryd.prog.godebug = none := by kernel_rfl
theorem laidOut : laidOutB Tryd.prog = true := by kernel_rfl

theorem first_data : (Rows.laid_unicode_utf8_first : DataW Unit) = Lib.firstData := by kernel_rfl
theorem accept_data : (Rows.laid_unicode_utf8_acceptRanges : DataW Unit) = Lib.acceptData := by kernel_rfl
theorem extra : U8Extra Tryd.prog Tryd.lays260_ren := ⟨by kernel_rfl, by kernel_rfl, by kernel_rfl, by kernel_rfl, by kernel_rfl, by kernel_rfl, by kernel_rfl⟩
theorem laid_says {W : World} (h : laidMetH Tryd.prog Rows.fnMtLeastRow.laid W) : Tabs W ∧ Folds W := by
  rw [MakeChecks.laidMetH_plain _ _ _ (by kernel_rfl)] at h
  have h0 : laidMet Tryd.prog Rows.fnMtLeastRow.laid W := h
  refine ⟨?_, folds_of_reads (Lib.laidMet.reads h0 (by simp [Rows.fnMtLeastRow])) (Lib.laidMet.reads h0 (by simp [Rows.fnMtLeastRow])) (Lib.laidMet.reads h0 (by simp [Rows.fnMtLeastRow]))⟩
  have h1 : Lib.VarReads Tryd.prog W "unicode/utf8.first" Rows.laid_unicode_utf8_first := Lib.laidMet.reads h0 (by simp [Rows.fnMtLeastRow])
  have h2 : Lib.VarReads Tryd.prog W "unicode/utf8.acceptRanges" Rows.laid_unicode_utf8_acceptRanges := Lib.laidMet.reads h0 (by simp [Rows.fnMtLeastRow])
  rw [first_data] at h1
  rw [accept_data] at h2
  exact utf8Tabs_of_reads Tryd.lays260 extra h1 h2

/-- A tree that came in: its cells, and that it reads the same behind the call. -/
theorem arg_tree {H : Type} {enc : TypeId × Value → H} {W : World} {v : Value} {d : DataW H} {p : List MemPlace} (h : DataW.Trod enc Tryd.prog W 0 (fun _ => true) true 25 v d p)
    (hsz : ∀ n ∈ d.weights Tryd.prog 25, n ≤ 140737488351232) : ∃ (t : T) (cs : List Value), v = .agg cs.toArray ∧ k25.K W t cs ∧ TW t := by
  obtain ⟨fuel, hf⟩ := h
  obtain ⟨t, hK, hT⟩ := tree_open fuel hf hsz
  refine ⟨t, _, ?_, hK, hT⟩
  obtain ⟨A2, c2, A7, c7, e, _⟩ := k25_open hK
  rw [e]
  have e2 : v.cells.toList = _ := e
  cases v <;> simp [Value.cells] at e2
  rw [← e2]

set_option maxRecDepth 100000 in
theorem lifted (os : Os) (started : os.Started) (H : Type) (enc : TypeId × Value → H) :
    ReturnsInHanded {} Tryd.checked os 3 .any (fun w args => (Rows.fnMtLeastSpec.pre enc Tryd.prog Tryd.f3 Rows.fnMtLeastRow.domain false w args ∧ laidMetH Tryd.prog Rows.fnMtLeastRow.laid w) ∧ sizedMet enc Tryd.prog Tryd.f3 (OpenSpec.ofChange Rows.fnMtLeastSpec) false w args)
      (Rows.fnMtLeastSpec.post enc Tryd.prog Tryd.f3 false true false false) := by
  refine returnsInHanded_of_change_and (C := Tryd.checked) (X := fun w _ => laidMetH Tryd.prog Rows.fnMtLeastRow.laid w) (fun _ _ _ hh h => h.of_heap hh) own started (by kernel_rfl) Tryd.func3
    (ChangeSpec.witness_shaped (enc := enc) (C := Tryd.checked) (os := os) (X := fun w _ => laidMetH Tryd.prog Rows.fnMtLeastRow.laid w) false (World.laidAll Tryd.prog os Rows.fnMtLeastRow.laid) #[.agg #[.int .i64 0, .int .i64 0, .slice none 0 0, .int .i64 0, .int .i64 0, .int .i64 0, .string ByteArray.empty, .slice none 0 0], .string ByteArray.empty] 8 (World.laidAll_os _ _ _)
      (World.shaped_of_ZipB (by kernel_rfl) (by kernel_rfl)) (by kernel_rfl) (by kernel_rfl) (by kernel_rfl)
      (by rw [MakeChecks.laidMetH_plain _ _ _ (by kernel_rfl)]; exact laidMet_laidAll _ (by kernel_rfl) (by kernel_rfl))) ?_
  intro W base args ds gs before hval0 hW hcnd hsz0 hL _
  have hsz : (DataW.weightsEach Tryd.prog (Tryd.f3.params.toList ++ Rows.fnMtLeastSpec.plain.varTypes Tryd.prog) (ds ++ gs)).all (· ≤ reachBytes) = true := hsz0
  have hval : ∀ (j : Nat) t v, Tryd.f3.params[j]? = some t → args[j]? = some v → Value.okWide Tryd.prog W .any base t v := hval0
  have hW' := hW
  obtain ⟨p, q, hA0, hV, rfl, hfz, hnd⟩ := hW
  have hA : DataW.TrodAll enc Tryd.prog W 0 (fun _ => true) true Tryd.f3.params.toList args.toList ds p := hA0
  rw [Tryd.params3] at hA hval hsz
  obtain ⟨v0, vs0, d0, ds0, p0, q0, hargs, rfl, rfl, h0, r0⟩ := trodAll_cons hA
  obtain ⟨v1, vs1, d1, ds1, p1, q1, rfl, rfl, rfl, h1, r1⟩ := trodAll_cons r0
  obtain ⟨rfl, rfl, rfl⟩ := trodAll_nil r1
  obtain rfl : args = #[v0, v1] := by cases args; simp_all
  obtain ⟨rfl, rfl⟩ := trodVars_none hV
  obtain ⟨s, rfl, rfl, rfl, ws⟩ := open_string Tryd.underlying9 (hval 1 9 v1 rfl rfl) h1
  have k0 := h0
  have lt0 : ∀ x ∈ p0, x.block < W.heap.size := by obtain ⟨m, hm⟩ := k0; exact DataW.trod_lt m _ _ _ hm
  have z0 : ∀ n ∈ d0.weights Tryd.prog 25, n ≤ 140737488351232 := by
    intro n hn
    have := List.all_eq_true.1 hsz n (DataW.weights_mem_each (ts := [25, 9] ++ []) (j := 0) (t := 25) (d := d0) rfl rfl n hn)
    have e : reachBytes = 140737488351232 := rfl
    rw [e] at this
    exact of_decide_eq_true this
  obtain ⟨t, cs, rfl, hK, hT⟩ := arg_tree h0 z0
  obtain ⟨hTB, hFD⟩ := laid_says hL
  clear hA0 hval0 hval hsz0 hsz
  refine (law_calls t hT W cs hK hFD hTB s (by have := ws; unfold maxLen at this; exact this)).mono fun e W' ⟨he, bel⟩ => ?_
  subst he
  exact ⟨_, rfl, _, _, _, [], _, [], hW', trodAll_mk1 (shut_bool Tryd.underlying4 _), (trodAll_cons_mk (Below.trod laidOut (by kernel_rfl) (of_decide_eq_true (by kernel_rfl)) k0 bel lt0) (trodAll_cons_mk (shut_string Tryd.underlying9 ws) trodAll_mk0)), rfl, bel.frame _, fun h => by cases h⟩
theorem over : Rows.fnMtLeastRow.holds Tryd.pinned (OpenSpec.ofChange Rows.fnMtLeastSpec) :=
  OpenClaim.holds_of_wide 3 Tryd.f3 rfl rfl rfl rfl rfl rfl rfl ⟨rfl, rfl, rfl, rfl, rfl⟩ rfl rfl rfl rfl rfl (by kernel_rfl) Tryd.func3 (by kernel_rfl)
    (of_decide_eq_true (by kernel_rfl)) (by unfold Func.isWrapper; first | (rw [if_pos (by decide +kernel)]; kernel_rfl) | (rw [if_neg (by decide +kernel)]; exact ⟨rfl, rfl⟩))
    (fun os started H enc _ => lifted os started H enc)
end Go.Proofs.YtofkpinikkfmeaaDoor.fnMtLeast
namespace Go.Proofs.YtofkpinikkfmeaaDoor
open Go.ChangeShapes Go.WideShapes Go.ChangeAt Go.RowKit
theorem fnMtLeast_card : Rows.FnMtLeastCardSaid :=
  Claim7.holds_tied_plain_at .later [] [.data, .data, .data, .pinned, .pinned] true (true, "a00ca54715ad159ecde0cb34bdd8b575ac83cdd23c333dd8fb7e39ca620a2192") false fnMtLeast.over (fun _ h => by cases h) (by kernel_rfl) (fun _ h => by cases h) fnMtLeast_row_tie rfl ⟨rfl, rfl⟩ (by kernel_rfl) rfl
    (fun f fn hf hfn => by
      obtain rfl : f = 3 := Option.some.inj ((show Tryd.prog.funcNamed "pub-searce/laws.FnMtLeast" = some 3 by kernel_rfl).symm.trans hf) |>.symm
      obtain rfl : fn = Tryd.f3 := (Option.some.inj (Tryd.func3.symm.trans hfn)).symm
      exact ⟨by kernel_rfl, fun j t ht => by
        rw [Tryd.params3] at ht
        have hm : t ∈ [25, 9] := by simpa using Array.mem_of_getElem? ht
        have hall : ([25, 9].all fun u => !Tryd.prog.wantsStandIn u) = true := by kernel_rfl
        exact (show Tryd.prog.wantsStandIn t = false by simpa using List.all_eq_true.1 hall t hm)⟩)
    (by kernel_rfl)
#print axioms fnMtLeast_card
end Go.Proofs.YtofkpinikkfmeaaDoor
