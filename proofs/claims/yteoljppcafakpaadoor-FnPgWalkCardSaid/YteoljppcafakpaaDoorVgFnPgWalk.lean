import Derived.Test.YteoljppcafakpaaDoorVfFnPgWalk
namespace Go.Proofs.YteoljppcafakpaaDoor.PgFnPgWalk
open Go.RowKit Go.Proofs.YteoljppcafakpaaDoor.EvN Go.Proofs.YteoljppcafakpaaDoor.Row Go.Proofs.YteoljppcafakpaaDoor.PFnPgWalk Go.Proofs.YteoljppcafakpaaDoorW.PrintWords Go.Proofs.YteoljppcafakpaaDoorW.PrintLast Go.Proofs.YteoljppcafakpaaDoorW.PrintMore
set_option linter.unusedSimpArgs false
set_option linter.unusedVariables false
set_option maxRecDepth 100000 in
theorem should_calls {w : World} {p : Nat} {ad : Addr} {len cap : Nat} {st nc : Int} (h : w.heap[p]? = some (.cells #[.slice (some ad) len cap, .int .i64 st, .int .i64 nc] 83 (0, 0))) (_hl : len ≤ 2000) :
    Calls Tryd.prog 90 #[.pointer (some ⟨p, 0, none⟩)] w fun e w' => e = .returned (.bool (decide ((len : Int) ≤ 500))) ∧ w' = w := by
  obtain ⟨hz0, hz1, hz2⟩ := blk3 h
  go_enter Tryd.func90, Tryd.ntmps90
  go_wp2_with fail
  go_ret
  exact ⟨rfl, rfl⟩
set_option maxRecDepth 100000 in
theorem max_calls {w : World} {p : Nat} {ad : Addr} {len cap : Nat} {st nc : Int} (h : w.heap[p]? = some (.cells #[.slice (some ad) len cap, .int .i64 st, .int .i64 nc] 83 (0, 0))) (hl : len ≤ 2000) (h1 : 1 ≤ len) :
    ∃ v : Int, Calls Tryd.prog 77 #[.pointer (some ⟨p, 0, none⟩)] w fun e w' => e = .returned (.int .i64 v) ∧ w' = w := by
  obtain ⟨hz0, hz1, hz2⟩ := blk3 h
  have h0 : ((len : Int) == 0) = false := by rw [beq_eq_false_iff_ne]; omega
  by_cases hd : (len : Int) ≤ 500
  · have hd1 : decide ((len : Int) ≤ 500) = true := decide_eq_true hd
    refine ⟨262144 / (len : Int), ?_⟩
    go_enter Tryd.func77, Tryd.ntmps77
    go_wp2_with fail
    refine (should_calls h hl).mono ?_
    rintro e w1 ⟨rfl, rfl⟩
    rw [hd1]
    go_wp2_with fail
    go_ret
    exact ⟨rfl, rfl⟩
  · have hd1 : decide ((len : Int) ≤ 500) = false := decide_eq_false hd
    refine ⟨0, ?_⟩
    go_enter Tryd.func77, Tryd.ntmps77
    go_wp2_with fail
    refine (should_calls h hl).mono ?_
    rintro e w1 ⟨rfl, rfl⟩
    rw [hd1]
    go_wp2_with fail
    go_ret
    exact ⟨rfl, rfl⟩
end Go.Proofs.YteoljppcafakpaaDoor.PgFnPgWalk
