/- The walk of TxSpecial. -/
import Derived.Test.YtaogbmljadaplaaQb
namespace Go.Proofs.Ytaogbmljadaplaa.Qm
open Go.RowKit

set_option maxRecDepth 100000 in
set_option maxHeartbeats 4000000 in
theorem txspecial_int (c : Int) (r : Bool) (hr : r = (c == 92 || c == 46 || c == 43 || c == 42 || c == 63 || c == 40 || c == 41 || c == 124 || c == 91 || c == 93 || c == 123 || c == 125 || c == 94 || c == 36)) (w : World) :
    Calls Try.prog 34 #[.int .u8 c] w fun e w' => e = .returned (.bool r) ∧ w = w' := by
  have HR := Lib.hid hr
  clear hr
  go_enter Try.func34, Try.ntmps34
  go_wp2_with fail
  refine wp_loop_rounds 15 ?_
  rw [rounds_succ]
  go_wp2_with fail
  · have h := eq_of_beq ‹(_ == c) = true›
    subst h
    go_ret
    exact ⟨ret_bool (Eq.symm (HR.out.trans (by decide +kernel))), rfl⟩
  have n0 : ((92 : Int) == c) = false := ‹(_ == c) = false›
  rw [rounds_succ]
  go_wp2_with fail
  · have h := eq_of_beq ‹(_ == c) = true›
    subst h
    go_ret
    exact ⟨ret_bool (Eq.symm (HR.out.trans (by decide +kernel))), rfl⟩
  have n1 : ((46 : Int) == c) = false := ‹(_ == c) = false›
  rw [rounds_succ]
  go_wp2_with fail
  · have h := eq_of_beq ‹(_ == c) = true›
    subst h
    go_ret
    exact ⟨ret_bool (Eq.symm (HR.out.trans (by decide +kernel))), rfl⟩
  have n2 : ((43 : Int) == c) = false := ‹(_ == c) = false›
  rw [rounds_succ]
  go_wp2_with fail
  · have h := eq_of_beq ‹(_ == c) = true›
    subst h
    go_ret
    exact ⟨ret_bool (Eq.symm (HR.out.trans (by decide +kernel))), rfl⟩
  have n3 : ((42 : Int) == c) = false := ‹(_ == c) = false›
  rw [rounds_succ]
  go_wp2_with fail
  · have h := eq_of_beq ‹(_ == c) = true›
    subst h
    go_ret
    exact ⟨ret_bool (Eq.symm (HR.out.trans (by decide +kernel))), rfl⟩
  have n4 : ((63 : Int) == c) = false := ‹(_ == c) = false›
  rw [rounds_succ]
  go_wp2_with fail
  · have h := eq_of_beq ‹(_ == c) = true›
    subst h
    go_ret
    exact ⟨ret_bool (Eq.symm (HR.out.trans (by decide +kernel))), rfl⟩
  have n5 : ((40 : Int) == c) = false := ‹(_ == c) = false›
  rw [rounds_succ]
  go_wp2_with fail
  · have h := eq_of_beq ‹(_ == c) = true›
    subst h
    go_ret
    exact ⟨ret_bool (Eq.symm (HR.out.trans (by decide +kernel))), rfl⟩
  have n6 : ((41 : Int) == c) = false := ‹(_ == c) = false›
  rw [rounds_succ]
  go_wp2_with fail
  · have h := eq_of_beq ‹(_ == c) = true›
    subst h
    go_ret
    exact ⟨ret_bool (Eq.symm (HR.out.trans (by decide +kernel))), rfl⟩
  have n7 : ((124 : Int) == c) = false := ‹(_ == c) = false›
  rw [rounds_succ]
  go_wp2_with fail
  · have h := eq_of_beq ‹(_ == c) = true›
    subst h
    go_ret
    exact ⟨ret_bool (Eq.symm (HR.out.trans (by decide +kernel))), rfl⟩
  have n8 : ((91 : Int) == c) = false := ‹(_ == c) = false›
  rw [rounds_succ]
  go_wp2_with fail
  · have h := eq_of_beq ‹(_ == c) = true›
    subst h
    go_ret
    exact ⟨ret_bool (Eq.symm (HR.out.trans (by decide +kernel))), rfl⟩
  have n9 : ((93 : Int) == c) = false := ‹(_ == c) = false›
  rw [rounds_succ]
  go_wp2_with fail
  · have h := eq_of_beq ‹(_ == c) = true›
    subst h
    go_ret
    exact ⟨ret_bool (Eq.symm (HR.out.trans (by decide +kernel))), rfl⟩
  have n10 : ((123 : Int) == c) = false := ‹(_ == c) = false›
  rw [rounds_succ]
  go_wp2_with fail
  · have h := eq_of_beq ‹(_ == c) = true›
    subst h
    go_ret
    exact ⟨ret_bool (Eq.symm (HR.out.trans (by decide +kernel))), rfl⟩
  have n11 : ((125 : Int) == c) = false := ‹(_ == c) = false›
  rw [rounds_succ]
  go_wp2_with fail
  · have h := eq_of_beq ‹(_ == c) = true›
    subst h
    go_ret
    exact ⟨ret_bool (Eq.symm (HR.out.trans (by decide +kernel))), rfl⟩
  have n12 : ((94 : Int) == c) = false := ‹(_ == c) = false›
  rw [rounds_succ]
  go_wp2_with fail
  · have h := eq_of_beq ‹(_ == c) = true›
    subst h
    go_ret
    exact ⟨ret_bool (Eq.symm (HR.out.trans (by decide +kernel))), rfl⟩
  have n13 : ((36 : Int) == c) = false := ‹(_ == c) = false›
  rw [rounds_succ]
  go_wp2_with fail
  go_ret
  refine ⟨ret_bool ?_, rfl⟩
  rw [HR.out]
  have g : ∀ n : Int, (n == c) = false → (c == n) = false := fun n h => by rw [← h, Bool.eq_iff_iff]; simp; exact eq_comm
  rw [g _ n0, g _ n1, g _ n2, g _ n3, g _ n4, g _ n5, g _ n6, g _ n7, g _ n8, g _ n9, g _ n10, g _ n11, g _ n12, g _ n13]
  rfl

theorem txspecial_calls (c : UInt8) (w : World) :
    Calls Try.prog 34 #[.int .u8 (c.toNat : Int)] w fun e w' => e = .returned (.bool (spb c)) ∧ w = w' :=
  txspecial_int _ _ (by
    unfold spb
    have : ∀ n : UInt8, ((c.toNat : Int) == (n.toNat : Int)) = (c == n) := fun n => by
      rw [Bool.eq_iff_iff, beq_iff_eq, beq_iff_eq, ← UInt8.toNat_inj]; omega
    simp only [← this]
    rfl) w

end Go.Proofs.Ytaogbmljadaplaa.Qm
