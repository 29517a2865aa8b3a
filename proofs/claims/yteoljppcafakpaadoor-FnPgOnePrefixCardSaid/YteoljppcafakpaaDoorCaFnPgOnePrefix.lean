/- CondAt: the walk. -/
import Derived.Test.YteoljppcafakpaaDoorTbFnPgOnePrefix
import Derived.Test.YteoljppcafakpaaDoorCbFnPgOnePrefix
namespace Go.Proofs.YteoljppcafakpaaDoor.PgFnPgOnePrefix
open Go.RowKit Go.Proofs.YteoljppcafakpaaDoor.EvN Go.Proofs.YteoljppcafakpaaDoor.Row Go.Proofs.YteoljppcafakpaaDoor.Sf Go.Proofs.YteoljppcafakpaaDoor.PFnPgOnePrefix Go.Proofs.YteoljppcafakpaaDoorW.PrintWords Go.Proofs.YteoljppcafakpaaDoorW.PrintLast Go.Proofs.YteoljppcafakpaaDoorW.PrintMore
set_option linter.unusedSimpArgs false
set_option linter.unusedVariables false

theorem PSound.most_le {L : List I} {st nc most most2 : Int} (h : PSound L st nc most) (hm : most ≤ most2) : PSound L st nc most2 := ⟨h.pos, by have := h.most; omega, h.first, h.st0, h.st1, h.nc0, h.nc1, h.even, h.inst, h.circ⟩

set_option maxRecDepth 100000 in
set_option maxHeartbeats 4000000 in
theorem condat_calls (s : ByteArray) (i : Nat) (w : World) (hi : i ≤ s.size) (hs : s.size ≤ 100000) (hT : Tabs w) :
    Calls Tryd.prog 12 #[.string s, .int .i64 (i : Int)] w fun e w' => e = .returned (.int .i64 (condZ (lastR s i) (dec s i).1)) ∧ Below w.heap.size w w' := by
  have HT := Lib.hid hT
  clear hT
  go_enter Tryd.func12, Tryd.ntmps12
  go_wp2_with fail
  refine (next_calls s i w hi (by omega) HT.out).mono ?_
  rintro e w1 ⟨rfl, hb1⟩
  have HB1 := Lib.hid hb1
  clear hb1
  go_wp2_with fail
  refine (last_calls s i w1 hi (by omega) (Utf8Tabs_below HT.out HB1.out)).mono ?_
  rintro e w2 ⟨rfl, hb2⟩
  have HB2 := Lib.hid (below_step HB1.out hb2)
  clear hb2
  go_wp2_with fail
  refine (spec_CondBetween.calls 6 (lastR s i) (dec s i).1 (condZ (lastR s i) (dec s i).1) w2 (cond_z _ _)).mono ?_
  rintro e w3 ⟨rfl, hd⟩
  go_wp2_with fail
  go_ret
  exact ⟨rfl, below_step HB2.out hd.below⟩
end Go.Proofs.YteoljppcafakpaaDoor.PgFnPgOnePrefix
