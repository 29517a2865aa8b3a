/- The walk of FnSyMatchEmpty's own function. -/
import Derived.Test.YtaogbmljadaplaaMf
import Derived.LoopTactic
namespace Go.Proofs.Ytaogbmljadaplaa.Me
open Go.RowKit

theorem kinds (a : Int) (_ : -1 ≤ a) : (isWord a = true ∧ (a == -1) = false ∧ (a == 10) = false) ∨ (isWord a = false ∧ a = 10) ∨ (isWord a = false ∧ a = -1) ∨ (isWord a = false ∧ (a == -1) = false ∧ (a == 10) = false) := by
  by_cases hw : isWord a = true
  · left
    refine ⟨hw, ?_⟩
    unfold isWord at hw
    rw [decide_eq_true_iff] at hw
    exact ⟨by simp; omega, by simp; omega⟩
  · have hf : isWord a = false := by simpa using hw
    by_cases h10 : a = 10
    · exact Or.inr (Or.inl ⟨hf, h10⟩)
    · by_cases h1 : a = -1
      · exact Or.inr (Or.inr (Or.inl ⟨hf, h1⟩))
      · exact Or.inr (Or.inr (Or.inr ⟨hf, by simpa using h1, by simpa using h10⟩))

theorem mew_cond (c b a : Int) (hc : c = 1 ∨ c = 2 ∨ c = 4 ∨ c = 8 ∨ c = 16 ∨ c = 32) (hb : -1 ≤ b) (ha : -1 ≤ a) :
    (mew c b a == !(bits .and .i64 (condB b a) c == 0)) = true := by
  rcases hc with rfl | rfl | rfl | rfl | rfl | rfl <;>
  rcases kinds b hb with ⟨w0, p0, q0⟩ | ⟨w0, rfl⟩ | ⟨w0, rfl⟩ | ⟨w0, p0, q0⟩ <;>
  rcases kinds a ha with ⟨w1, p1, q1⟩ | ⟨w1, rfl⟩ | ⟨w1, rfl⟩ | ⟨w1, p1, q1⟩ <;>
  simp only [mew, condB, *, Bool.false_eq_true, if_true, if_false] <;> decide +kernel

set_option maxHeartbeats 2000000 in
theorem law_calls (c b a : Int) (w : World) :
    Calls Try.prog 4 #[.int .i64 c, .int .i32 b, .int .i32 a] w fun e w' => e = .returned (.bool true) ∧ Below w.heap.size w w' := by
  by_cases hd : -1 ≤ b ∧ -1 ≤ a ∧ b ≤ 1114111 ∧ a ≤ 1114111
  · obtain ⟨hb, ha, hb', ha'⟩ := hd
    have g1 : decide (b < -1) = false := by simp; omega
    have g2 : decide (a < -1) = false := by simp; omega
    have g3 : decide (b > 1114111) = false := by simp; omega
    have g4 : decide (a > 1114111) = false := by simp; omega
    go_enter Try.func4, Try.ntmps4
    go_wp2_with fail
    clear g1 g2 g3 g4
    go_loop [7] (fun i => ∃ n : Int, (n = 1 ∨ n = 2 ∨ n = 4 ∨ n = 8 ∨ n = 16 ∨ n = 32 ∨ n = 64) ∧ i = .int .i64 n) (fun i => 64 - (intOf i).toNat)
    case atStart => exact ⟨1, by simp, rfl⟩
    case round =>
      obtain ⟨n, hn, rfl⟩ := hrel
      by_cases h64 : n = 64
      · subst h64
        go_wp2_with fail
        go_ret
        exact ⟨rfl, Below.refl _ _⟩
      · have hn' : n = 1 ∨ n = 2 ∨ n = 4 ∨ n = 8 ∨ n = 16 ∨ n = 32 := by omega
        have t1 : decide (n ≤ 32) = true := by simp; omega
        by_cases hc : c = n
        · subst hc
          have e2 : (c == c) = true := by simp
          have HS := Lib.hid (sme_calls c b a hn')
          have HC := Lib.hid (mew_cond c b a hn' hb ha)
          have HL := Lib.hid (cond_calls b a)
          clear hn hn' h64 hb ha hb' ha'
          go_wp2_with fail
          refine (HS.out _).mono ?_
          rintro e w1 ⟨rfl, hbel⟩
          go_wp2_with fail
          refine (HL.out _).mono ?_
          rintro e w2 ⟨rfl, rfl⟩
          go_wp2_with fail
          go_ret
          exact ⟨ret_bool HC.out, hbel⟩
        · have t2 : (c == n) = false := by simpa using hc
          have l1 : 1 ≤ n := by omega
          have l2 : n ≤ 32 := by omega
          have HN := Lib.hid hn'
          clear hn h64 hn' hc
          go_wp2_with fail
          go_round
          case rel => exact ⟨n * 2, by have := HN.out; omega, rfl⟩
          case measure => simp [intOf]; omega
  · go_enter Try.func4, Try.ntmps4
    go_wp2_with fail
    all_goals first
      | (exfalso; omega)
      | (go_ret; exact ⟨rfl, Below.refl _ _⟩)

end Go.Proofs.Ytaogbmljadaplaa.Me
