/- The walk of FnSyMatchEmpty, and the row. -/
import Derived.Test.YtaogbmljadaplaaMe
namespace Go.Proofs.Ytaogbmljadaplaa.Me
open Go.RowKit

set_option maxHeartbeats 1000000 in
theorem sme_calls (c b a : Int) (hc : c = 1 ∨ c = 2 ∨ c = 4 ∨ c = 8 ∨ c = 16 ∨ c = 32) (w : World) :
    Calls Try.prog 13 #[.agg #[.int .i64 3, .int .i64 0, .int .i64 c, .slice none 0 0], .int .i32 b, .int .i32 a] w
      fun e w' => e = .returned (.tuple #[.bool (mew c b a), .bool true]) ∧ Below w.heap.size w w' := by
  have hi := instOf_empty c (by omega) (by omega)
  have hm := mew_calls c b a hc
  have HM := Lib.hid hm
  clear hm
  rcases hc with rfl | rfl | rfl | rfl | rfl | rfl
  all_goals
    have HI := Lib.hid hi
    clear hi
    go_enter Try.func13, Try.ntmps13
    go_wp2_with fail
    refine (HI.out _).mono ?_
    rintro e w1 ⟨rfl, hb⟩
    go_wp2_with fail
    refine (HM.out _ 0 _ (by go_simp)).mono ?_
    rintro e w2 ⟨rfl, rfl⟩
    go_wp2_with fail
    go_ret2
    exact ⟨rfl, (((Below.refl _ _).alloc (Nat.le_refl _) _).trans (hb.mono (by simp))).alloc (by have := hb.size; simp at this; omega) _⟩


/-- The conditions between two characters. -/
def condB (b a : Int) : Int :=
  (if (b == -1) = true then 5 else if (b == 10) = true then 1 else 0) + (if (a == -1) = true then 10 else if (a == 10) = true then 2 else 0) + (if (!isWord b == isWord a) = true then 16 else 32)

theorem three (b : Int) : b = -1 ∨ b = 10 ∨ ((b == -1) = false ∧ (b == 10) = false) := by
  by_cases h : b = -1
  · exact .inl h
  · by_cases h' : b = 10
    · exact .inr (.inl h')
    · exact .inr (.inr ⟨by simpa using h, by simpa using h'⟩)

set_option maxHeartbeats 1000000 in
theorem cond_calls (b a : Int) (w : World) :
    Calls Try.prog 11 #[.int .i32 b, .int .i32 a] w fun e w' => e = .returned (.int .i64 (condB b a)) ∧ w = w' := by
  rcases three b with rfl | rfl | ⟨h1, h2⟩ <;> rcases three a with rfl | rfl | ⟨h3, h4⟩
  all_goals
    go_enter Try.func11, Try.ntmps11
    go_wp2_with (go_at_call 29; refine (reword_calls _ _).mono ?_; rintro e w' ⟨rfl, rfl⟩)
    all_goals
      go_ret
      refine ⟨ret_int ?_, rfl⟩
      first
        | (decide +kernel)
        | (simp only [condB, *, Bool.false_eq_true, if_true, if_false]; decide +kernel)

end Go.Proofs.Ytaogbmljadaplaa.Me
