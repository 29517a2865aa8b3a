/- What a queue holds, read out: zzQueue. -/
import Derived.Test.YtjmiliijoodbcaaDoorViFnPgAdd
namespace Go.Proofs.YtjmiliijoodbcaaDoor.PgFnPgAdd
open Go.RowKit Go.Proofs.YtjmiliijoodbcaaDoor.EvN Go.Proofs.YtjmiliijoodbcaaDoor.Row Go.Proofs.YtjmiliijoodbcaaDoor.PFnPgAdd Go.Proofs.YtjmiliijoodbcaaDoorW.PrintWords Go.Proofs.YtjmiliijoodbcaaDoorW.PrintLast Go.Proofs.YtjmiliijoodbcaaDoorW.PrintMore
set_option linter.unusedSimpArgs false
set_option linter.unusedVariables false

theorem own_apart {w : World} {B n m : Nat} {e e2 : TypeId} {v v2 : Value} {xs ys : List Value} (h : w.ownsRow B e 1 v n xs) (h2 : w.ownsRow B e2 1 v2 m ys) (hne : e ≠ e2) : v.ownBlock = none ∨ v.ownBlock ≠ v2.ownBlock := by
  rcases h.2 with ⟨rfl, _⟩ | ⟨g, cap, cur, rfl, _, hg, _⟩
  · exact .inl rfl
  · right
    rcases h2.2 with ⟨rfl, _⟩ | ⟨g2, cap2, cur2, rfl, _, hg2, _⟩
    · simp [Value.ownBlock]
    · intro e
      have : g = g2 := by simpa [Value.ownBlock] using e
      exact blk_ne hg hg2 hne this
theorem box_kept {wr w1 : World} {t : TypeId} {x y : Value} {U : Obj} {row : Option Nat} (hg : ((wr.alloc (.cells #[x, y] t)).alloc U).grownBy w1 row) (hr : ∀ g, row = some g → g < wr.heap.size) : w1.cell? ⟨wr.heap.size, 1, none⟩ = some y := by
  have h0 := (hg.block wr.heap.size (by simp; omega) (fun e => by have := hr _ e.symm; omega)).trans ((Below.heap_alloc _ _ _ (by simp)).trans (heap_alloc_new wr (.cells #[x, y] t)))
  exact (blk_cell h0 1).trans rfl

set_option maxRecDepth 100000 in
set_option maxHeartbeats 4000000 in
theorem queue_calls (w : World) (mb qo de S : Nat) (mc : Nat → Value) (da : Array Value) (E : List En) (hm : w.heap[mb]? = some (mach mc)) (hq : qo = 2 ∨ qo = 4) (hd : mc (qo + 1) = .slice (some ⟨de, 0, none⟩) E.length S)
    (hda : w.heap[de]? = some (.cells da 115 (0, 0))) (hE : ∀ (i : Nat) (e : En), E[i]? = some e → da[i * 2]? = some (.int .u32 e.1) ∧ da[i * 2 + 1]? = some (ptrT e.2)) (hl : E.length ≤ 2000) :
    Calls Tryd.prog 34 #[.pointer (some ⟨mb, qo, none⟩)] w fun e w' => ∃ lv tv, e = .returned (.tuple #[lv, tv]) ∧ RowAt w' (fun i => w.heap.size ≤ i ∧ i < w'.heap.size) 71 lv (E.map fun e => .int .u32 (e.1 : Int)) ∧
      RowAt w' (fun i => w.heap.size ≤ i ∧ i < w'.heap.size) 4 tv (E.map fun e => .bool e.2.isSome) ∧ Below w.heap.size w w' := by
  have hc1 : w.cell? ⟨mb, qo + 1, none⟩ = some (.slice (some ⟨de, 0, none⟩) E.length S) := by rw [← hd]; exact mach_cell hm _ (by omega)
  have HM := Lib.hid hm
  have HDA := Lib.hid hda
  have HE := Lib.hid hE
  clear hm hda hE
  go_enter Tryd.func34, Tryd.ntmps34
  go_wp2_with fail
  go_loopg [2, 3, 11] E.length (fun gk s2 s3 s11 wr => ∃ (k : Nat), Hid (gk + k = E.length ∧ wr.ownsRow w.heap.size 71 1 s2 k ((E.take k).map fun e => .int .u32 (e.1 : Int)) ∧ wr.ownsRow w.heap.size 4 1 s3 k ((E.take k).map fun e => .bool e.2.isSome) ∧ Below w.heap.size w wr) ∧ k ≤ E.length ∧ s11 = .int .i64 k)
  case atStart => exact ⟨0, ⟨by omega, World.ownsRow_nil _ _ _ _, World.ownsRow_nil _ _ _ _, Below.refl _ w⟩, Nat.zero_le _, rfl⟩
  case round =>
    obtain ⟨k, HI, hk, rfl⟩ := hrel
    by_cases hlt : k < E.length
    · have hda1 := blk_below HDA.out HI.out.2.2.2
      obtain ⟨hx1, hx2⟩ := HE.out k E[k] (List.getElem?_eq_getElem hlt)
      have hx0 : wr.cell? ⟨de, k * 2, none⟩ = some (.int .u32 (E[k].1 : Int)) := (blk_cell hda1 _).trans hx1
      have hx1 : wr.cell? ⟨de, k * 2 + 1, none⟩ = some (ptrT E[k].2) := (blk_cell hda1 _).trans hx2
      clear hda1 hx2
      have htv : ∃ (o : Option Addr), ptrT E[k].2 = .pointer o ∧ o.isSome = E[k].2.isSome := by
        cases E[k].2 <;> exact ⟨_, rfl, rfl⟩
      obtain ⟨o, ho, hs⟩ := htv
      rw [ho] at hx1
      have hlt2 : ∀ g, u2.ownBlock = some g → g < wr.heap.size := fun g hg => (HI.out.2.1.lt g hg).2
      go_wp2_with (at_builtin; first
        | (refine My.app1 rfl (.tmp 15) (.tmp 18) 47 rfl 71 (.int .u32 0) 4 Tryd.underlying47 iu32 rfl _ k _ rfl w.heap.size w ((HI.out.2.1.alloc _).alloc _) (below_alloc (below_alloc HI.out.2.2.2 _) _) (Nat.le_refl _) (wr.heap.size + 1) rfl (.int .u32 (E[k].1 : Int)) (by simp) rfl (by omega) (by unfold maxLen; omega) ?_; intro v1 w1 hown1 hbel1 hg1; have hce := box_kept hg1.out hlt2; have HO3 := Lib.hid (((HI.out.2.2.1.alloc _).alloc _).kept hg1.out (own_apart HI.out.2.2.1 HI.out.2.1 (by decide))))
        | (refine My.app1 rfl (.tmp 20) (.tmp 24) 28 rfl 4 (.bool false) 1 Tryd.underlying28 ibool rfl _ k _ rfl w.heap.size w (HO3.out.alloc _) (below_alloc hbel1.out _) (Nat.le_refl _) w1.heap.size rfl (.bool o.isSome) (by simp; try exact hs.symm) rfl (by omega) (by unfold maxLen; omega) ?_; intro v2 w2 hown2 hbel2 hg2))
      go_roundg (gk - 1)
      case measure => have := HI.out.1; omega
      case rel =>
        have e1 : ∀ {α : Type} (f : En → α), (E.take (k + 1)).map f = (E.take k).map f ++ [f E[k]] := fun f => by rw [List.take_succ_eq_append_getElem hlt, List.map_append]; rfl
        refine ⟨k + 1, ⟨by have := HI.out.1; omega, ?_, ?_, hbel2.out⟩, by omega, by go_num⟩
        · rw [e1]
          exact (hown1.out.alloc _).kept hg2.out (own_apart hown1.out HO3.out (by decide))
        · rw [e1, ← hs]
          exact hown2.out
    · have hke : k = E.length := by omega
      subst hke
      rw [List.take_length] at HI
      go_wp2_with fail
      go_ret2
      refine ⟨u2, u3, rfl, RowAt.of_owns HI.out.2.1 fun g hg => HI.out.2.1.lt g hg, RowAt.of_owns HI.out.2.2.1 fun g hg => HI.out.2.2.1.lt g hg, HI.out.2.2.2⟩
end Go.Proofs.YtjmiliijoodbcaaDoor.PgFnPgAdd
