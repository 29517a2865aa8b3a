/- sort.breakPatterns over a state that is known by what Less and Swap do to it: some permutation. -/
import Derived.Test.YtkcnodkojllobaaDoorZe
import Derived.Test.YtkcnodkojllobaaDoorShelf
import Derived.Sort.Walk7a
namespace Go.Proofs.YtkcnodkojllobaaDoor.Srt
open Go Go.RowKit Go.Sort Go.Proofs.YtkcnodkojllobaaDoor.Row Go.Proofs.YtkcnodkojllobaaDoorW.PrintWords Go.Proofs.YtkcnodkojllobaaDoorW.PrintLast Go.Proofs.YtkcnodkojllobaaDoorW.PrintMore
set_option linter.unusedVariables false
set_option linter.unusedSimpArgs false

section
variable {α : Type} [Inhabited α] {N B hb : Nat} {lt : α → α → Bool} {St : Array α → World → Prop}

set_option maxRecDepth 100000 in
set_option maxHeartbeats 4000000 in
theorem breakPatterns_calls (h : SK N B hb lt St) (a b : Nat) (d : Array α) (w : World) (hs : St d w) (hd : d.size = N) (hab : a + 12 < b) (hbN : b ≤ N) :
    Calls Tryd.prog 26 #[.iface 44 (RV hb), .int .i64 (a : Int), .int .i64 (b : Int)] w fun e w' => e = .returned (.tuple #[]) ∧ ∃ d', PermIn a b d d' ∧ SQ B St w d' w' := by
  have hNs := h.small
  have HK := Lib.hid h
  have HS := Lib.hid hs
  have HD := Lib.hid hd
  have hB := h.low hs
  have mS := method_swap hb
  obtain ⟨L, hL⟩ : ∃ L : Nat, L = b - a := ⟨_, rfl⟩
  obtain ⟨M, hM⟩ : ∃ M : Nat, M = 1 <<< bitsLen L := ⟨_, rfl⟩
  have hM1 : 1 ≤ M := by rw [hM, Nat.one_shiftLeft]; exact Nat.two_pow_pos _
  have hM2 : M ≤ 2 * L := by rw [hM, Nat.one_shiftLeft]; exact two_pow_bitsLen_le (by omega)
  have HNP := Lib.hid (show ∀ w, Calls Tryd.prog 33 #[.int .i64 (L : Int)] w fun e w' => e = .returned (.int .u64 (M : Int)) ∧ w' = w by rw [hM]; exact fun w => Go.Proofs.Tryd.nextPowerOfTwo L (by omega) w)
  obtain ⟨I, hI⟩ : ∃ I : Nat, I = a + L / 4 * 2 - 1 := ⟨_, rfl⟩
  have eL : (b : Int) - (a : Int) = (L : Int) := by omega
  have d8 : decide (8 ≤ (L : Int)) = true := decide_eq_true (by omega)
  have eI : ((a : Int) + (L : Int) / 4 * 2) - 1 = (I : Int) := by omega
  have eJ : ((a : Int) + (L : Int) / 4 * 2) + 1 = (I : Int) + 2 := by omega
  have hIb : a ≤ I ∧ I + 2 < b := by omega
  have hLb : a + L ≤ b ∧ 12 < L := by omega
  clear h hs hd hM hI hL
  go_enter Tryd.func26, Tryd.ntmps26
  go_wp2_with fail
  obtain ⟨cb, hcb⟩ : ∃ cb, cb = w.heap.size := ⟨_, rfl⟩
  have HCB := Lib.hid hcb
  have HBX := Lib.hid (show (w.alloc (.cells #[.int .u64 (L : Int)] 68)).heap[cb]? = some (.cells #[.int .u64 (L : Int)] 68 (0, 0)) by rw [hcb]; exact heap_alloc_new w _)
  have HF1 := Lib.hid (show SQ B St w d (w.alloc (.cells #[.int .u64 (L : Int)] 68)) from ⟨HK.out.keep HS.out ((Fr.refl _ w).alloc _), (Fr.refl _ _).alloc _⟩)
  rw [← hcb]
  have hBc : B ≤ cb := by omega
  clear hcb hB
  generalize w.alloc (.cells #[.int .u64 (L : Int)] 68) = w1 at *
  refine (HNP.out w1).mono ?_
  rintro e w2 ⟨rfl, rfl⟩
  go_wp2_with fail
  go_loopg [9] 3 (fun gk s9 wr => ∃ (t R : Nat) (dk : Array α), Hid (gk + t = 3 ∧ SQ B St w dk wr ∧ dk.size = N ∧ PermIn a b d dk ∧ wr.heap[cb]? = some (.cells #[.int .u64 (R : Int)] 68 (0, 0)) ∧ R < 18446744073709551616) ∧ t ≤ 3 ∧ s9 = .int .i64 ((I + t : Nat) : Int))
  case atStart => exact ⟨0, L, d, ⟨by omega, HF1.out, HD.out, permIn_refl _ _ _, HBX.out, by omega⟩, by omega, rfl⟩
  case round =>
    obtain ⟨t, R, dk, HI, ht, rfl⟩ := hrel
    by_cases ht3 : t < 3
    · have d1 : decide ((I : Int) + (t : Int) ≤ (I : Int) + 2) = true := decide_eq_true (by omega)
      have hcB : wr.cell? ⟨cb, 0, none⟩ = some (.int .u64 (R : Int)) := (blk_cell HI.out.2.2.2.2.1 0).trans rfl
      have hfB := blk_frozen HI.out.2.2.2.2.1 0
      have hlR := xorNextN_lt R HI.out.2.2.2.2.2
      have HNX := Lib.hid (Go.Proofs.Tryd.xorshift_Next cb 0 R HI.out.2.2.2.2.2 wr hcB hfB)
      obtain ⟨R', hR'⟩ : ∃ R', R' = xorNextN R := ⟨_, rfl⟩
      rw [← hR'] at HNX hlR
      obtain ⟨O, hO⟩ : ∃ O : Nat, O = R' &&& (M - 1) := ⟨_, rfl⟩
      have lO : O ≤ M - 1 := by rw [hO]; exact Nat.and_le_right
      have eAnd : bits .and .u64 (R' : Int) ((M : Int) - 1) = (O : Int) := by
        rw [show ((M : Int) - 1) = ((M - 1 : Nat) : Int) by omega, bits_and_u64_nat _ _ hlR (by omega), hO]
      clear hO hR' hcB hfB
      go_wp2_with fail
      refine HNX.out.mono ?_
      rintro e w3 ⟨rfl, hw3⟩
      have HS3 := Lib.hid (show SQ B St w dk w3 by
        rw [hw3]
        exact ⟨HK.out.keep HI.out.2.1.1 (((Fr.refl _ _).set _ (.inl hBc)).drewN 3), HI.out.2.1.2.os, HI.out.2.1.2.tape, HI.out.2.1.2.output, by have := HI.out.2.1.2.size; simp [World.setCell, World.drewN]; exact this, fun i hi hne => (Below.heap_setCell _ _ _ _ (fun e => by have := HCB.out; have : i = cb := e; omega)).trans (HI.out.2.1.2.block i hi hne)⟩)
      have HX3 := Lib.hid (show w3.heap[cb]? = some (.cells #[.int .u64 (R' : Int)] 68 (0, 0)) by rw [hw3]; exact blk_set HI.out.2.2.2.2.1 0 _)
      clear hw3 HNX
      by_cases hO2 : L ≤ O
      · have d2 : decide (L ≤ O) = true := decide_eq_true hO2
        have hsw := HK.out.swap HS3.out.1 HI.out.2.2.1 (I + t) (a + (O - L)) (by omega) (by omega)
        rw [show ((a + (O - L) : Nat) : Int) = (a : Int) + ((O : Int) - (L : Int)) by omega, show ((I + t : Nat) : Int) = (I : Int) + (t : Int) by push_cast; rfl] at hsw
        have HSW := Lib.hid hsw
        clear hsw
        go_wp2_with fail
        refine HSW.out.mono ?_
        rintro e w4 ⟨rfl, hs4, hf4⟩
        have HQ4 := Lib.hid (HS3.out.turn ⟨hs4, hf4⟩)
        have HX4 := Lib.hid ((hf4.block cb (blk_lt HX3.out) (by omega)).trans HX3.out)
        have HP := Lib.hid (permIn_trans _ _ _ a b HI.out.2.2.2.1 (swp_permIn dk a b (I + t) (a + (O - L)) (by omega) (by omega) (by omega) (by omega) (by rw [HI.out.2.2.1]; exact hbN)))
        clear hs4 hf4 HSW
        go_wp2_with fail
        go_roundg (gk - 1)
        case measure => have := HI.out.1; omega
        case rel => exact ⟨t + 1, R', swp dk (I + t) (a + (O - L)), ⟨by have := HI.out.1; omega, HQ4.out, by rw [size_swp]; exact HI.out.2.2.1, HP.out, HX4.out, hlR⟩, by omega, by first | rfl | (congr 1; done) | (congr 1; omega)⟩
      · have d2 : decide (L ≤ O) = false := decide_eq_false hO2
        have hsw := HK.out.swap HS3.out.1 HI.out.2.2.1 (I + t) (a + O) (by omega) (by omega)
        rw [show ((a + O : Nat) : Int) = (a : Int) + (O : Int) by push_cast; rfl, show ((I + t : Nat) : Int) = (I : Int) + (t : Int) by push_cast; rfl] at hsw
        have HSW := Lib.hid hsw
        clear hsw
        go_wp2_with fail
        refine HSW.out.mono ?_
        rintro e w4 ⟨rfl, hs4, hf4⟩
        have HQ4 := Lib.hid (HS3.out.turn ⟨hs4, hf4⟩)
        have HX4 := Lib.hid ((hf4.block cb (blk_lt HX3.out) (by omega)).trans HX3.out)
        have HP := Lib.hid (permIn_trans _ _ _ a b HI.out.2.2.2.1 (swp_permIn dk a b (I + t) (a + O) (by omega) (by omega) (by omega) (by omega) (by rw [HI.out.2.2.1]; exact hbN)))
        clear hs4 hf4 HSW
        go_wp2_with fail
        go_roundg (gk - 1)
        case measure => have := HI.out.1; omega
        case rel => exact ⟨t + 1, R', swp dk (I + t) (a + O), ⟨by have := HI.out.1; omega, HQ4.out, by rw [size_swp]; exact HI.out.2.2.1, HP.out, HX4.out, hlR⟩, by omega, by first | rfl | (congr 1; done) | (congr 1; omega)⟩
    · have d1 : decide ((I : Int) + (t : Int) ≤ (I : Int) + 2) = false := decide_eq_false (by omega)
      go_wp2_with fail
      go_end0
      exact ⟨rfl, dk, HI.out.2.2.2.1, HI.out.2.1⟩
end
end Go.Proofs.YtkcnodkojllobaaDoor.Srt
