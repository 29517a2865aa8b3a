/- Walks for FnTxQuote: special. -/
import Derived.Test.YtaogbmljadaplaaQa
namespace Go.Proofs.Ytaogbmljadaplaa.Qm
open Go.RowKit

/-- The table of the bytes that are quoted: row b % 16, bit b / 16. -/
def tabv (n : Nat) : Int := [0, 0, 0, 0, 4, 0, 0, 0, 4, 4, 4, 164, 160, 160, 36, 8].getD n 0

theorem tab_index0 (w : World) (n : Nat) (h : n < 16) :
    (Instr.index 94 (.agg #[.int .u8 0, .int .u8 0, .int .u8 0, .int .u8 0, .int .u8 4, .int .u8 0, .int .u8 0, .int .u8 0, .int .u8 4, .int .u8 4, .int .u8 4, .int .u8 164, .int .u8 160, .int .u8 160, .int .u8 36, .int .u8 8]) (.int .u8 n)).run Try.prog w = .ok (.int .u8 (tabv n)) w := by
  have : n = 0 ∨ n = 1 ∨ n = 2 ∨ n = 3 ∨ n = 4 ∨ n = 5 ∨ n = 6 ∨ n = 7 ∨ n = 8 ∨ n = 9 ∨ n = 10 ∨ n = 11 ∨ n = 12 ∨ n = 13 ∨ n = 14 ∨ n = 15 := by omega
  rcases this with rfl | rfl | rfl | rfl | rfl | rfl | rfl | rfl | rfl | rfl | rfl | rfl | rfl | rfl | rfl | rfl <;> (show _ = _; kernel_rfl)

theorem tab_index (w : World) (b : Nat) :
    (Instr.index 94 (.agg #[.int .u8 0, .int .u8 0, .int .u8 0, .int .u8 0, .int .u8 4, .int .u8 0, .int .u8 0, .int .u8 0, .int .u8 4, .int .u8 4, .int .u8 4, .int .u8 164, .int .u8 160, .int .u8 160, .int .u8 36, .int .u8 8]) (.int .u8 ((b : Int) % 16))).run Try.prog w = .ok (.int .u8 (tabv (b % 16))) w := by
  have := tab_index0 w (b % 16) (Nat.mod_lt _ (by decide))
  simpa using this

/-- The bytes that are quoted. -/
def spb (c : UInt8) : Bool := c == 92 || c == 46 || c == 43 || c == 42 || c == 63 || c == 40 || c == 41 || c == 124 || c == 91 || c == 93 || c == 123 || c == 125 || c == 94 || c == 36

theorem spb_tab : ∀ n : Fin 128, (bits .and .u8 (tabv (n.val % 16)) (2 ^ (n.val / 16) % 256) != 0) = spb (UInt8.ofNat n.val) := by decide +kernel

theorem spb_great : ∀ n : Fin 128, spb (UInt8.ofNat (n.val + 128)) = false := by decide +kernel

theorem ret_bool {a b : Bool} (h : a = b) : Ending.returned (.bool a) = .returned (.bool b) := by rw [h]
theorem ret_int {k : IntKind} {a b : Int} (h : a = b) : Ending.returned (.int k a) = .returned (.int k b) := by rw [h]

set_option maxHeartbeats 1000000 in
theorem special_nat (b : Nat) (hb : b < 256) (w : World) :
    Calls Try.prog 48 #[.int .u8 b] w fun e w' => e = .returned (.bool (spb (UInt8.ofNat b))) ∧ Below w.heap.size w w' := by
  by_cases h : b < 128
  · have ht : decide ((b : Int) < 128) = true := by simp; omega
    have hx := tab_index
    go_enter Try.func48, Try.ntmps48
    go_wp2_with fail
    refine (table_calls _).mono ?_
    rintro e w1 ⟨rfl, hbel⟩
    go_wp2_with fail
    go_ret
    exact ⟨ret_bool (spb_tab ⟨b, h⟩), hbel⟩
  · have ht : decide ((b : Int) < 128) = false := by simp; omega
    go_enter Try.func48, Try.ntmps48
    go_wp2_with fail
    go_ret
    refine ⟨ret_bool ?_, Below.refl _ _⟩
    have := spb_great ⟨b - 128, by omega⟩
    rw [show b - 128 + 128 = b from by omega] at this
    exact this.symm

theorem special_calls (c : UInt8) (w : World) :
    Calls Try.prog 48 #[.int .u8 (c.toNat : Int)] w fun e w' => e = .returned (.bool (spb c)) ∧ Below w.heap.size w w' := by
  have := special_nat c.toNat (UInt8.toNat_lt c) w
  rw [UInt8.ofNat_toNat] at this
  exact this

end Go.Proofs.Ytaogbmljadaplaa.Qm
