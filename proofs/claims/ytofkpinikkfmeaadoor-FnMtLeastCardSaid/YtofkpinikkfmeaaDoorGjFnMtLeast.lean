/- The closure of reEnds (reEnds$1): the first part of a tree once. -/
import Derived.Test.YtofkpinikkfmeaaDoorGiFnMtLeast
import Derived.StillTailTactics
namespace Go.Proofs.YtofkpinikkfmeaaDoor.TxFnMtLeast
open Go.Proofs.YtofkpinikkfmeaaDoor.Sf hiding T
open Go.RowKit Go.Proofs.YtofkpinikkfmeaaDoor.TrFnMtLeast Go.Proofs.YtofkpinikkfmeaaDoor.PFnMtLeast Go.Proofs.YtofkpinikkfmeaaDoorW.PrintWords Go.Proofs.YtofkpinikkfmeaaDoorW.PrintLast Go.Proofs.YtofkpinikkfmeaaDoorW.PrintMore
set_option linter.unusedSimpArgs false
set_option linter.unusedVariables false

/-- What reEnds leaves. -/
abbrev EndsQ (m : Int) (N : Nat) (l : List Bool) (w : World) (e : Ending) (w' : World) : Prop := (∃ v r, e = .returned v ∧ Rw w' v r ∧ r.length = N ∧ Lo m l r) ∧ Below w.heap.size w w'
abbrev EndsS (W0 : World) (t : T) (s : ByteArray) : Prop := ∀ (w : World) (cs : List Value), k25.K W0 t cs → Below W0.heap.size W0 w → Folds w → Tabs w →
    ∀ (A : Option Addr) (c : Nat) (l : List Bool), Kd.C Kd.bool w A l.length l → l.length ≤ c → l.length = s.size + 1 →
    Calls Tryd.prog 23 #[.agg cs.toArray, .string s, .slice A l.length c] w (EndsQ (minL t) (s.size + 1) l w)

set_option maxRecDepth 100000 in
set_option maxHeartbeats 4000000 in
theorem once_calls (W0 w : World) (t : T) (cs : List Value) (hK : k25.K W0 t cs) (hW : Below W0.heap.size W0 w) (hF : Folds w) (hT : Tabs w) (s : ByteArray) (h7 : 0 < t.f7.length) (hE : EndsS W0 t.f7[0] s) (gb gt : Nat) (hb : w.heap[gb]? = some (.cells cs.toArray 25 (0, 0))) (ht : w.heap[gt]? = some (.cells #[.string s] 9 (0, 0))) :
    StepS w (minL t.f7[0]) (s.size + 1) (.pointer (some ⟨gb, 0, none⟩)) (.pointer (some ⟨gt, 0, none⟩)) := by
  intro w1 hw1 A c l hC hc hl
  obtain ⟨A2, c2, A7, c7, rfl, l2, g2, l7, g7⟩ := k25_open hK
  have hu40 := Tryd.underlying25
  obtain ⟨ad, A2', c2', A7', c7', e, hx0, hx1, hx2, hx3, hx4, hx5, hx6, hx7, hK'⟩ := sub_at g7 (hW.trans (hw1.mono hW.size)) 0 h7
  have hf7 : t.f7.length ≤ 9223372036854775807 := g7.2.1
  subst e
  simp only [Nat.zero_mul, Go.Proofs.YtofkpinikkfmeaaDoor.IcFnMtLeast.add_0] at hx0 hx1 hx2 hx3 hx4 hx5 hx6 hx7
  obtain ⟨hz0, hz1, hz2, hz3, hz4, hz5, hz6, hz7⟩ := blk8 (blk_below hb hw1)
  have hs0 : w1.cell? ⟨gt, 0, none⟩ = some (.string s) := by
    have := blk_below ht hw1
    simp [World.cell?, this]
  have HE := Lib.hid (hE w1.drew _ hK' (below_drew (hW.trans (hw1.mono hW.size))) (hF.below (below_drew hw1)) (Utf8Tabs_below hT (below_drew hw1)) A c l (Kd.C_below hC (below_drew (Below.refl _ _))) hc hl)
  have p0 : (0 : Int) ≤ 0 := Int.le_refl 0
  have p1 : (0 : Int) < (t.f7.length : Int) := by omega
  have HB := Lib.hid (show Below w1.heap.size w1 w1.drew from below_drew (Below.refl _ _))
  clear hK hW hF hT hE hb ht hw1 hC hc hl l2 g2 l7 g7 hK' hz0 hz1 hz2 hz3 hz4 hz5 hz6
  go_enter Tryd.func33, Tryd.ntmps33
  go_upto_region 1 with (fail)
  go_still_tail 6, (by kernel_rfl)
  change wpList _ _ _ _ _ w1.drew
  go_wp2_with fail
  refine HE.out.mono ?_
  rintro e w5 ⟨⟨v, r, rfl, hr⟩, hb5⟩
  have HR := Lib.hid hr
  have HB5 := Lib.hid (below_step HB.out hb5)
  clear hr hb5 HE
  go_wp2_with fail
  go_ret
  exact ⟨⟨v, r, rfl, HR.out⟩, HB5.out⟩
end Go.Proofs.YtofkpinikkfmeaaDoor.TxFnMtLeast
