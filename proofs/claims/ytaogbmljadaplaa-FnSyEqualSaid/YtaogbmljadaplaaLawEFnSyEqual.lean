/- The law FnSyEqual, for every two trees that the statement speaks of: Equal of the package answers as the reference's SySame does, the same in either order, and true of a tree and itself. -/
import Derived.Test.YtaogbmljadaplaaEdFnSyEqual
import Derived.ProofKit
import Derived.OpenShut
import Derived.ChangeOld
import Derived.ShutString
import Derived.Below
import Derived.Carry
import Derived.SizedLaws
import Derived.Test.YtaogbmljadaplaaRows
namespace Go.Proofs.Ytaogbmljadaplaa.fnSyEqual
open Go.ChangeShapes Go.WideShapes Go.ChangeAt Go.RowKit Go.Proofs.Ytaogbmljadaplaa.TrFnSyEqual Go.Proofs.Ytaogbmljadaplaa.PFnSyEqual
set_option linter.unusedVariables false
theorem own : ownKnob Try.prog.godebug = none := by kernel_rfl
theorem laidOut : laidOutB Try.prog = true := by kernel_rfl

/-- A tree that came in: its cells, and that it reads the same behind the call. -/
theorem arg_tree {H : Type} {enc : TypeId × Value → H} {W : World} {v : Value} {d : DataW H} {p : List MemPlace} (h : DataW.Trod enc Try.prog W 0 (fun _ => true) true 40 v d p)
    (hsz : ∀ n ∈ d.weights Try.prog 40, n ≤ 140737488351232) : ∃ (t : T) (cs : List Value), v = .agg cs.toArray ∧ k40.K W t cs ∧ TW t := by
  obtain ⟨fuel, hf⟩ := h
  obtain ⟨t, hK, hT⟩ := tree_open fuel hf hsz
  refine ⟨t, _, ?_, hK, hT⟩
  obtain ⟨A2, c2, A7, c7, e, _⟩ := k40_open hK
  rw [e]
  have e2 : v.cells.toList = _ := e
  cases v <;> simp [Value.cells] at e2
  rw [← e2]

set_option maxRecDepth 100000 in
theorem lifted (os : Os) (started : os.Started) (H : Type) (enc : TypeId × Value → H) :
    ReturnsInHanded {} Try.checked os 9 .any (Rows.fnSyEqualSpec.pre6 enc Try.prog Try.f9 Rows.fnSyEqualRow.domain false) (Rows.fnSyEqualSpec.post enc Try.prog Try.f9 false true false false) := by
  refine returnsInHanded_of_change_sized (C := Try.checked) own started (by kernel_rfl) Try.func9
    (ChangeSpec.witness6 (enc := enc) (C := Try.checked) false ⟨#[], #[.agg #[.int .i64 0, .int .i64 0, .slice none 0 0, .int .i64 0, .int .i64 0, .int .i64 0, .string ByteArray.empty, .slice none 0 0], .agg #[.int .i64 0, .int .i64 0, .slice none 0 0, .int .i64 0, .int .i64 0, .int .i64 0, .string ByteArray.empty, .slice none 0 0]], []⟩ 8 (by kernel_rfl) (by kernel_rfl) (by kernel_rfl) (by kernel_rfl)) ?_
  intro W base args ds gs before hval0 hW hcnd hsz0 _
  have hsz : (DataW.weightsEach Try.prog (Try.f9.params.toList ++ Rows.fnSyEqualSpec.plain.varTypes Try.prog) (ds ++ gs)).all (· ≤ reachBytes) = true := hsz0
  have hW' := hW
  obtain ⟨p, q, hA0, hV, rfl, hfz, hnd⟩ := hW
  have hA : DataW.TrodAll enc Try.prog W 0 (fun _ => true) true Try.f9.params.toList args.toList ds p := hA0
  rw [Try.params9] at hA hsz
  obtain ⟨v0, vs0, d0, ds0, p0, q0, hargs, rfl, rfl, h0, r0⟩ := trodAll_cons hA
  obtain ⟨v1, vs1, d1, ds1, p1, q1, rfl, rfl, rfl, h1, r1⟩ := trodAll_cons r0
  obtain ⟨rfl, rfl, rfl⟩ := trodAll_nil r1
  obtain rfl : args = #[v0, v1] := by cases args; simp_all
  obtain ⟨rfl, rfl⟩ := trodVars_none hV
  have k0 := h0
  have k1 := h1
  have lt0 : ∀ x ∈ p0, x.block < W.heap.size := by obtain ⟨m, hm⟩ := k0; exact DataW.trod_lt m _ _ _ hm
  have lt1 : ∀ x ∈ p1, x.block < W.heap.size := by obtain ⟨m, hm⟩ := k1; exact DataW.trod_lt m _ _ _ hm
  have z0 : ∀ n ∈ d0.weights Try.prog 40, n ≤ 140737488351232 := by
    intro n hn
    have := List.all_eq_true.1 hsz n (DataW.weights_mem_each (ts := [40, 40] ++ []) (j := 0) (t := 40) (d := d0) rfl rfl n hn)
    have e : reachBytes = 140737488351232 := rfl
    rw [e] at this
    exact of_decide_eq_true this
  have z1 : ∀ n ∈ d1.weights Try.prog 40, n ≤ 140737488351232 := by
    intro n hn
    have := List.all_eq_true.1 hsz n (DataW.weights_mem_each (ts := [40, 40] ++ []) (j := 1) (t := 40) (d := d1) rfl rfl n hn)
    have e : reachBytes = 140737488351232 := rfl
    rw [e] at this
    exact of_decide_eq_true this
  obtain ⟨x, cs, rfl, hK, hX⟩ := arg_tree h0 z0
  obtain ⟨y, ds, rfl, hK', hY⟩ := arg_tree h1 z1
  clear hA0 hval0 hsz0 hsz
  refine (law_calls x y hX hY W cs ds hK hK').mono fun e W' ⟨he, bel⟩ => ?_
  subst he
  exact ⟨_, rfl, _, _, _, [], _, [], hW', trodAll_mk1 (shut_bool Try.underlying4 _), (trodAll_cons_mk (Below.trod laidOut (by kernel_rfl) (of_decide_eq_true (by kernel_rfl)) k0 bel lt0) (trodAll_cons_mk (Below.trod laidOut (by kernel_rfl) (of_decide_eq_true (by kernel_rfl)) k1 bel lt1) trodAll_mk0)), rfl, bel.frame _, fun h => by cases h⟩
theorem over : Rows.fnSyEqualRow.holds Try.pinned (OpenSpec.ofChange Rows.fnSyEqualSpec) :=
  OpenClaim.holds_of_wide 9 Try.f9 rfl rfl rfl rfl rfl rfl rfl ⟨rfl, rfl, rfl, rfl, rfl⟩ rfl rfl rfl rfl rfl (by kernel_rfl) Try.func9 (by kernel_rfl)
    (of_decide_eq_true (by kernel_rfl)) (by unfold Func.isWrapper; first | (rw [if_pos (by decide +kernel)]; kernel_rfl) | (rw [if_neg (by decide +kernel)]; exact ⟨rfl, rfl⟩))
    (fun os started H enc _ => lifted os started H enc)
end Go.Proofs.Ytaogbmljadaplaa.fnSyEqual
namespace Go.Proofs.Ytaogbmljadaplaa
theorem fnSyEqual_holds : Rows.FnSyEqualSaid := fnSyEqual.over
#print axioms fnSyEqual_holds
end Go.Proofs.Ytaogbmljadaplaa
