/- Walks for FnSyMatchEmpty: what MatchEmptyWidth, IsWordChar, CondBetween and the law's own function do. Conditions: the instruction is one of the six conditions. -/
import Derived.Test.YtaogbmljadaplaaRows
import Derived.WalkKit
import Derived.WalkSpells
import Derived.WalkLawsBesides
import Derived.BigRegion
import Derived.RegionTactic
import Derived.BigQuiet
import Derived.Deep.QuietTactic
import Derived.Lib.Hide
namespace Go.Proofs.Ytaogbmljadaplaa.Me
open Go.RowKit

set_option maxHeartbeats 400000 in
theorem instOf_empty (c : Int) (h0 : 0 ≤ c) (h1 : c ≤ 32) (w : World) :
    Calls Try.prog 31 #[.agg #[.int .i64 3, .int .i64 0, .int .i64 c, .slice none 0 0]] w fun e w' => e = .returned (.agg #[.int .u8 3, .int .u32 0, .int .u32 c, .slice none 0 0]) ∧ Below w.heap.size w w' := by
  go_enter Try.func31, Try.ntmps31
  go_wp2
  go_region
  go_wp2
  exact bodyPost_ret (v := .agg #[.int .u8 3, .int .u32 0, .int .u32 c, .slice none 0 0]) (by simp [results, Try.results31, go_sem]) rfl ⟨rfl, ((((Below.refl _ _).alloc (Nat.le_refl _) _).alloc (by simp) _)).drew⟩

def isWord (a : Int) : Bool := decide (97 ≤ a ∧ a ≤ 122 ∨ 65 ≤ a ∧ a ≤ 90 ∨ 48 ≤ a ∧ a ≤ 57 ∨ a = 95)

theorem ret_bool {a b : Bool} (h : a = b) : Ending.returned (.bool a) = .returned (.bool b) := by rw [h]
theorem ret_int {k : IntKind} {a b : Int} (h : a = b) : Ending.returned (.int k a) = .returned (.int k b) := by rw [h]

set_option maxHeartbeats 400000 in
theorem word_calls (a : Int) (w : World) : Calls Try.prog 30 #[.int .i32 a] w fun e w' => e = .returned (.bool (isWord a)) ∧ w = w' := by
  go_enter Try.func30, Try.ntmps30
  go_wp2
  all_goals (go_ret; exact ⟨ret_bool (by unfold isWord; rw [Bool.eq_iff_iff]; simp; omega), rfl⟩)

set_option maxHeartbeats 400000 in
theorem reword_calls (a : Int) (w : World) : Calls Try.prog 29 #[.int .i32 a] w fun e w' => e = .returned (.bool (isWord a)) ∧ w = w' := by
  go_enter Try.func29, Try.ntmps29
  go_wp2
  all_goals (go_ret; exact ⟨ret_bool (by unfold isWord; rw [Bool.eq_iff_iff]; simp; omega), rfl⟩)

/-- What an instruction of one condition answers. -/
def mew (c b a : Int) : Bool :=
  if c = 1 then b == 10 || b == -1 else if c = 2 then a == 10 || a == -1 else if c = 4 then b == -1 else if c = 8 then a == -1
  else if c = 16 then isWord b != isWord a else isWord b == isWord a

set_option maxHeartbeats 1000000 in
theorem mew_calls (c b a : Int) (hc : c = 1 ∨ c = 2 ∨ c = 4 ∨ c = 8 ∨ c = 16 ∨ c = 32) (B o : Nat) (w : World) (h : w.cell? ⟨B, o + 2, none⟩ = some (.int .u32 c)) :
    Calls Try.prog 32 #[.pointer (some ⟨B, o, none⟩), .int .i32 b, .int .i32 a] w fun e w' => e = .returned (.bool (mew c b a)) ∧ w = w' := by
  rcases hc with rfl | rfl | rfl | rfl | rfl | rfl
  all_goals
    go_enter Try.func32, Try.ntmps32
    go_wp2_with (go_at_call 30; refine (word_calls _ _).mono ?_; rintro e w' ⟨rfl, rfl⟩)
    all_goals (go_ret; exact ⟨ret_bool (by unfold mew; first | (simp_all; done) | (cases isWord b <;> cases isWord a <;> rfl)), rfl⟩)

theorem some_cell {x y : Value} {o : Option Value} (h : o = some x) (e : x = y) : o = some y := by rw [h, e]

end Go.Proofs.Ytaogbmljadaplaa.Me
