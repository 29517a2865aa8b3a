/- SyOrbit and the law FnSyFolded: the walks. -/
import Derived.Test.YtkcnodkojllobaaDoorZm
import Derived.Test.YtkcnodkojllobaaDoorBase
namespace Go.Proofs.YtkcnodkojllobaaDoor.Fld
open Go Go.RowKit Go.Proofs.YtkcnodkojllobaaDoor.EvN Go.Proofs.YtkcnodkojllobaaDoor.Row Go.Proofs.YtkcnodkojllobaaDoor.PFnSyFolded Go.Proofs.YtkcnodkojllobaaDoorW.PrintWords Go.Proofs.YtkcnodkojllobaaDoorW.PrintLast Go.Proofs.YtkcnodkojllobaaDoorW.PrintMore
open Go.Proofs.YtkcnodkojllobaaDoor.Sf (it Folds sfN orbit it_le sfN_le fold_calls)
set_option linter.unusedVariables false
set_option linter.unusedSimpArgs false

set_option maxRecDepth 100000 in
set_option maxHeartbeats 4000000 in
theorem syFold_calls (w : World) (r : Nat) (hr : r ≤ 1114111) (hF : Folds w) : Calls Tryd.prog 10 #[.int .i32 (r : Int)] w fun e w' => e = .returned (.int .i32 (sfN r : Int)) ∧ ∃ n, w' = w.drewN n := by
  have HC := Lib.hid (fold_calls w r hr hF)
  clear hF
  go_enter Tryd.func10, Tryd.ntmps10
  go_wp2_with fail
  refine HC.out.mono ?_
  rintro e w1 ⟨rfl, n, rfl⟩
  clear HC
  go_wp2_with fail
  go_ret
  exact ⟨rfl, n, rfl⟩
/-- A character's orbit. -/
def orbL (r m : Nat) : List Int := (List.range m).map fun n => (it n r : Int)
def OPost (w : World) (r m : Nat) (e : Ending) (w' : World) : Prop := ∃ A c, e = .returned (.slice A m c) ∧ m ≤ c ∧ (∀ j, j < m → ∃ ad, A = some ad ∧ w'.cell? (ad.add j) = some (.int .i32 (it j r : Int))) ∧ Below w.heap.size w w'
set_option maxRecDepth 100000 in
set_option maxHeartbeats 4000000 in
theorem syOrbit_calls (w : World) (r m : Nat) (hr : r ≤ 1114111) (m1 : 1 ≤ m) (m2 : m ≤ 4) (m3 : it m r = r) (m5 : ∀ j, 1 ≤ j → j < m → it j r ≠ r) (hF : Folds w) : Calls Tryd.prog 7 #[.int .i32 (r : Int)] w (OPost w r m) := by
  have HF := Lib.hid hF
  have HM := Lib.hid (And.intro m3 m5)
  clear hF m3 m5
  go_enter Tryd.func7, Tryd.ntmps7
  go_wp2_with fail
  have HB1 := Lib.hid (below_alloc (Below.refl w.heap.size w) (.cells #[.int .i32 (r : Int)] 21))
  have HC := Lib.hid (syFold_calls _ r hr (HF.out.below HB1.out))
  have HO1 := Lib.hid (show (w.alloc (.cells #[.int .i32 (r : Int)] 21)).ownsRow w.heap.size 21 1 (.slice (some ⟨w.heap.size, 0, none⟩) 1 1) 1 [.int .i32 (r : Int)] from own_mk (heap_alloc_new w _) (Nat.le_refl _) (Nat.le_refl _) (by unfold maxLen; omega) (by simp) (by simp))
  obtain ⟨v1, hv1⟩ : ∃ v1, v1 = Value.slice (some ⟨w.heap.size, 0, none⟩) 1 1 := ⟨_, rfl⟩
  rw [← hv1] at HO1 ⊢
  clear hv1
  generalize w.alloc (.cells #[.int .i32 (r : Int)] 21) = w1 at *
  refine HC.out.mono ?_
  rintro e w2 ⟨rfl, q, rfl⟩
  clear HC
  go_wp2_with fail
  go_loopg [3, 4] m (fun gk s3 s4 wr => ∃ (v : Value) (n f : Nat), Hid (gk + n = m + 1 ∧ f = it n r ∧ wr.ownsRow w.heap.size 21 1 v n ((List.range n).map fun j => .int .i32 (it j r : Int)) ∧ Below w.heap.size w wr) ∧ (1 ≤ n ∧ n ≤ m) ∧ f ≤ 1114111 ∧ v = s3 ∧ s4 = .int .i32 (f : Int))
  case atStart => exact ⟨v1, 1, sfN r, ⟨by omega, rfl, HO1.out, pw_below_drewN HB1.out _⟩, ⟨Nat.le_refl _, m1⟩, sfN_le r hr, rfl, rfl⟩
  case round =>
    obtain ⟨v, n, f, HI, hn, hf, rfl, rfl⟩ := hrel
    obtain ⟨Av, cv, rfl⟩ := owns_slice HI.out.2.2.1
    by_cases hnm : n = m
    · have hfr : f = r := by rw [HI.out.2.1, hnm]; exact HM.out.1
      have e1 : ((f : Int) != (r : Int)) = false := by rw [hfr]; exact bne_self_eq_false _
      have HR := Lib.hid (show OPost w r m (.returned (.slice Av n cv)) wr by
        have ho := HI.out.2.2.1
        rcases ho.2 with ⟨e, e2⟩ | ⟨g', cap', cur, e, hb, hg, h1, h2, h3, h4⟩
        · exfalso
          have := ho.1
          rw [e2] at this
          simp at this
          omega
        · cases e
          refine ⟨_, _, by rw [hnm], by omega, fun j hj => ⟨_, rfl, ?_⟩, HI.out.2.2.2⟩
          have := (own_cell ho (j := j) (u := .int .i32 (it j r : Int)) (by rw [List.getElem?_map, List.getElem?_range (by omega)]; rfl)).1
          rw [show (⟨g', 0, none⟩ : Addr).add j = ⟨g', j, none⟩ by unfold Addr.add; split <;> simp_all]
          exact this)
      clear hfr hnm
      go_wp2_with fail
      go_ret
      exact HR.out
    · have hfr : f ≠ r := by rw [HI.out.2.1]; exact HM.out.2 n hn.1 (by omega)
      have e1 : ((f : Int) != (r : Int)) = true := by rw [bne_iff_ne]; omega
      clear hfr
      go_wp2_with (at_builtin; refine My.app1 rfl (.tmp 14) (.tmp 16) 22 rfl 21 (.int .i32 0) 4 Tryd.underlying22 ii32 rfl _ n _ rfl w.heap.size w (pw_own_below HI.out.2.2.1 (below_alloc (Below.refl _ _) _)) (below_alloc HI.out.2.2.2 _) (Nat.le_refl _) wr.heap.size rfl (.int .i32 (f : Int)) (by simp) rfl (by omega) (by unfold maxLen; omega) ?_; intro v2 w4 hown2 hbel2 hg2)
      have HC := Lib.hid (syFold_calls w4 f hf (HF.out.below hbel2.out))
      refine HC.out.mono ?_
      rintro e w5 ⟨rfl, q5, rfl⟩
      clear HC
      have HO2 := Lib.hid (show w4.ownsRow w.heap.size 21 1 v2 (n + 1) ((List.range (n + 1)).map fun j => .int .i32 (it j r : Int)) by
        have := hown2.out
        rw [List.range_succ, List.map_append, List.map_cons, List.map_nil, ← HI.out.2.1]
        exact this)
      go_wp2_with fail
      go_roundg (gk - 1)
      case measure => have := HI.out.1; omega
      case rel => exact ⟨v2, n + 1, sfN f, ⟨by have := HI.out.1; omega, by rw [HI.out.2.1]; rfl, HO2.out, pw_below_drewN hbel2.out _⟩, ⟨by omega, by omega⟩, sfN_le f hf, rfl, rfl⟩
end Go.Proofs.YtkcnodkojllobaaDoor.Fld
