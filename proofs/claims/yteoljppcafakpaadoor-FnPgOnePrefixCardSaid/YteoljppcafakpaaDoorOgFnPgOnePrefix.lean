/- pgFine at place 0 (the programs and texts of which the laws speak): the walk. -/
import Derived.Test.YteoljppcafakpaaDoorTbFnPgOnePrefix
import Derived.Test.YteoljppcafakpaaDoorFiFnPgOnePrefix
namespace Go.Proofs.YteoljppcafakpaaDoor.PgFnPgOnePrefix
open Go.RowKit Go.Proofs.YteoljppcafakpaaDoor.EvN Go.Proofs.YteoljppcafakpaaDoor.Row Go.Proofs.YteoljppcafakpaaDoor.PFnPgOnePrefix Go.Proofs.YteoljppcafakpaaDoorW.PrintWords Go.Proofs.YteoljppcafakpaaDoorW.PrintLast Go.Proofs.YteoljppcafakpaaDoorW.PrintMore
set_option linter.unusedSimpArgs false
set_option linter.unusedVariables false

set_option maxRecDepth 100000 in
theorem border0_calls (s : ByteArray) (w : World) : Calls Tryd.prog 22 #[.string s, .int .i64 0] w fun e w' => e = .returned (.bool true) ∧ w' = w := by
  go_enter Tryd.func22, Tryd.ntmps22
  go_wp2_with fail
  go_loopg [5] 0 (fun gk s5 wr => s5 = .int .i64 0 ∧ wr = w)
  case atStart => exact ⟨rfl, rfl⟩
  case round =>
    obtain ⟨rfl, rfl⟩ := hrel
    go_wp2_with fail
    go_ret
    exact ⟨rfl, rfl⟩

def fineB (L : List I) (st nc : Int) (s : ByteArray) : Bool := decide (s.size ≤ 60000) && decide (L.length * (s.size + 1) ≤ 1048576) && psnd L st nc 2000
set_option maxRecDepth 100000 in
set_option maxHeartbeats 4000000 in
theorem fine_calls {L : List I} {st nc : Int} (hL : L.length ≤ 2147483647) (hr : ∀ i ∈ L, i.f3.length ≤ 2147483647) (s : ByteArray) (hz : s.size ≤ 2147483647) (w : World) (A : Option Addr) (c : Nat) (hK : Kd.C k29 w A L.length L) (hc : L.length ≤ c) :
    Calls Tryd.prog 8 #[.agg #[.slice A L.length c, .int .i64 st, .int .i64 nc], .string s, .int .i64 0, .int .i64 0] w fun e w' => e = .returned (.bool (fineB L st nc s)) ∧ Below w.heap.size w w' := by
  have hu24 := Tryd.underlying24
  obtain ⟨kp, hkp⟩ := (ev_psnd L st nc 2000 (by omega) (fun i hi => by have := hr i hi; omega)).get
  have HK := Lib.hid hK
  have HKP := Lib.hid hkp
  clear hK hr hkp
  unfold fineB
  go_enter Tryd.func8, Tryd.ntmps8
  by_cases h1 : s.size ≤ 60000
  · have d1 : decide (s.size ≤ 60000) = true := decide_eq_true h1
    have hmul : L.length * (s.size + 1) ≤ 2147483647 * 60001 := Nat.mul_le_mul hL (by omega)
    have hw : wrap64 ((L.length : Int) * ((s.size : Int) + 1)) = ((L.length * (s.size + 1) : Nat) : Int) := by
      rw [show (L.length : Int) * ((s.size : Int) + 1) = ((L.length * (s.size + 1) : Nat) : Int) by push_cast; rfl]
      generalize L.length * (s.size + 1) = m at *
      have := wrap_nat m 0 (by omega)
      simpa using this
    generalize L.length * (s.size + 1) = m at *
    by_cases h2 : m ≤ 1048576
    · have d2 : decide (m ≤ 1048576) = true := decide_eq_true h2
      rw [d1, d2, Bool.true_and, Bool.true_and]
      go_wp2_with fail
      refine (spec_ProgSound.calls kp A c L st nc 2000 (psnd L st nc 2000) _ (Kd.C_below HK.out (below_alloc (Below.refl _ w) _)) hc HKP.out).mono ?_
      rintro e w2 ⟨rfl, hb2⟩
      have HB2 := Lib.hid (below_step (below_alloc (Below.refl _ w) _) hb2)
      clear hb2 HKP
      cases hq : psnd L st nc 2000 with
      | false =>
        go_wp2_with fail
        go_ret
        exact ⟨by rw [hq]; rfl, HB2.out⟩
      | true =>
        go_wp2_with fail
        refine (border0_calls s _).mono ?_
        rintro e w3 ⟨rfl, rfl⟩
        go_wp2_with fail
        go_ret
        exact ⟨by rw [hq]; rfl, HB2.out⟩
    · have d2 : decide (m ≤ 1048576) = false := decide_eq_false h2
      rw [d1, d2, Bool.true_and, Bool.false_and]
      go_wp2_with fail
      go_ret
      exact ⟨rfl, below_alloc (Below.refl _ w) _⟩
  · have d1 : decide (s.size ≤ 60000) = false := decide_eq_false h1
    rw [d1, Bool.false_and, Bool.false_and]
    go_wp2_with fail
    go_ret
    exact ⟨rfl, below_alloc (Below.refl _ w) _⟩
end Go.Proofs.YteoljppcafakpaaDoor.PgFnPgOnePrefix
