/- Walks for FnTxQuote: the table of special bytes, and special. -/
import Derived.Test.YtaogbmljadaplaaRows
import Derived.WalkKit
import Derived.WalkSpells
import Derived.WalkLawsBesides
import Derived.BigRegion
import Derived.RegionTactic
import Derived.BigQuiet
import Derived.Deep.QuietTactic
import Derived.Lib.Hide
import Derived.Laws.Rows
import Derived.LoopN
import Derived.Lib.SmallJoins
import Derived.Lib.SlBytesConst
namespace Go.Proofs.Ytaogbmljadaplaa.Qm
open Go.RowKit

set_option maxRecDepth 100000 in
set_option maxHeartbeats 4000000 in
theorem table_calls (w : World) :
    Calls Try.prog 60 #[] w fun e w' => e = .returned (.agg #[.int .u8 0, .int .u8 0, .int .u8 0, .int .u8 0, .int .u8 4, .int .u8 0, .int .u8 0, .int .u8 0, .int .u8 4, .int .u8 4, .int .u8 4, .int .u8 164, .int .u8 160, .int .u8 160, .int .u8 36, .int .u8 8]) ∧ Below w.heap.size w w' := by
  have hcv := fun (o : Obj) (C : Array Value) (n c : Nat) => Joins.run_convert_bytes_const_at (P := Try.prog) (w.alloc o) 58 5 C n c (w.heap.size + 1) (by simp) Try.underlying58 Try.underlying5
  have hcl := fun (o : Obj) (C : Array Value) (j : Nat) => Joins.cell_alloc_mark_at (w.alloc o) C 5 (14, 15) (w.heap.size + 1) j (by simp)
  go_enter Try.func60, Try.ntmps60
  go_wp2_with fail
  refine wp_loop_rounds 15 ?_
  iterate 14 (rw [rounds_succ]; go_wp2_with fail)
  rw [rounds_succ]
  go_wp2_with fail
  refine bodyPost_ret (v := .agg #[.int .u8 0, .int .u8 0, .int .u8 0, .int .u8 0, .int .u8 4, .int .u8 0, .int .u8 0, .int .u8 0, .int .u8 4, .int .u8 4, .int .u8 4, .int .u8 164, .int .u8 160, .int .u8 160, .int .u8 36, .int .u8 8]) ?_ rfl ⟨rfl, ?_⟩
  · simp [results, Try.results60, go_sem]
    decide +kernel
  · exact ((Below.refl _ _).alloc (Nat.le_refl _) _).alloc (by simp) _

end Go.Proofs.Ytaogbmljadaplaa.Qm
