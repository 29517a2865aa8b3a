/- sort.partialInsertionSort over a state that is known by what Less and Swap do to it. -/
import Derived.Test.YtkcnodkojllobaaDoorZb
import Derived.Sort.WalkA6
namespace Go.Proofs.YtkcnodkojllobaaDoor.Srt
open Go Go.RowKit Go.Sort Go.Proofs.YtkcnodkojllobaaDoor.Row Go.Proofs.YtkcnodkojllobaaDoorW.PrintWords
set_option linter.unusedVariables false
set_option linter.unusedSimpArgs false

section
variable {α : Type} [Inhabited α] {N B hb : Nat} {lt : α → α → Bool} {St : Array α → World → Prop}

set_option maxRecDepth 100000 in
set_option maxHeartbeats 8000000 in
theorem partialInsertionSort_calls (h : SK N B hb lt St) (a b : Nat) (d : Array α) (w : World) (hs : St d w) (hd : d.size = N) (hab : a < b) (hbN : b ≤ N) :
    Calls Tryd.prog 29 #[.iface 44 (RV hb), .int .i64 (a : Int), .int .i64 (b : Int)] w fun e w' => e = .returned (.bool (partialInsertionSort lt d a b).2) ∧ SQ B St w (partialInsertionSort lt d a b).1 w' := by
  have hNs := h.small
  have HK := Lib.hid h
  have HS := Lib.hid hs
  have HD := Lib.hid hd
  have mL := method_less hb
  have mS := method_swap hb
  obtain ⟨R, hR⟩ : ∃ R, R = partialInsertionSort lt d a b := ⟨_, rfl⟩
  rw [← hR]
  have HR := Lib.hid hR
  clear h hs hd hR
  go_enter Tryd.func29, Tryd.ntmps29
  go_wp2_with fail
  go_loopg [7, 8] 5 (fun gk s7 s8 wr => ∃ (i s : Nat) (dk : Array α), Hid (gk + s = 5 ∧ SQ B St w dk wr ∧ dk.size = N ∧ partialIns lt a b (5 - s) i dk = R) ∧ (a < i ∧ i ≤ b) ∧ s ≤ 5 ∧ s7 = .int .i64 (i : Int) ∧ s8 = .int .i64 (s : Int))
  case atStart => exact ⟨a + 1, 0, d, ⟨by omega, SQ.refl HS.out, HD.out, by rw [HR.out]; rfl⟩, ⟨by omega, by omega⟩, by omega, by go_num, rfl⟩
  case round =>
    obtain ⟨i, s, dk, HI, hi, hs5, rfl, rfl⟩ := hrel
    obtain ⟨ga, hga⟩ : ∃ ga, ga = gk := ⟨_, rfl⟩
    rw [← hga] at HI
    have HGA := Lib.hid hga
    clear hga
    by_cases hs : s < 5
    · have hd1 : decide ((s : Int) < 5) = true := decide_eq_true (by omega)
      go_wp2_with fail
      go_loopg [7] (b - i) (fun gj s7 wq => ∃ k : Nat, Hid (gj + k = b ∧ SQ B St w dk wq ∧ scanSorted lt dk b k = scanSorted lt dk b i) ∧ (i ≤ k ∧ k ≤ b) ∧ s7 = .int .i64 (k : Int))
      case atStart => exact ⟨i, ⟨by omega, HI.out.2.1, rfl⟩, ⟨Nat.le_refl _, hi.2⟩, rfl⟩
      case round =>
        obtain ⟨k, HJ, hk, rfl⟩ := hrel
        go_upto_region 5 with (fail)
        go_cut [27] (fun v27 wc => ∃ v : Bool, v27 = .bool v ∧ Hid (SQ B St w dk wc ∧ (v = true → k < b ∧ lt dk[k]! dk[k - 1]! = false) ∧ (v = false → ¬ k < b ∨ lt dk[k]! dk[k - 1]! = true)))
        case first =>
          by_cases hkb : k < b
          · have hd2 : decide (k < b) = true := decide_eq_true hkb
            have hl := HK.out.less HJ.out.2.1.1 HI.out.2.2.1 k (k - 1) (by omega) (by omega)
            rw [show ((k - 1 : Nat) : Int) = (k : Int) - 1 by omega] at hl
            have HL := Lib.hid hl
            clear hl
            go_wp2_with fail
            refine HL.out.mono ?_
            rintro e w1 ⟨rfl, hf1⟩
            have HQ1 := Lib.hid (HJ.out.2.1.read HK.out hf1)
            clear hf1 HL
            go_wp2_with fail
            go_meet
            exact ⟨_, rfl, Lib.hid ⟨HQ1.out, fun e => ⟨hkb, by simpa using e⟩, fun e => .inr (by simpa using e)⟩⟩
          · have hd2 : decide (k < b) = false := decide_eq_false hkb
            go_wp2_with fail
            go_meet
            exact ⟨_, rfl, Lib.hid ⟨HJ.out.2.1, fun e => (by cases e), fun _ => .inl hkb⟩⟩
        case rest =>
          obtain ⟨v, rfl, HV⟩ := hcut
          cases v with
          | true =>
            have hkb := (HV.out.2.1 rfl).1
            have HG := Lib.hid (show scanSorted lt dk b (k + 1) = scanSorted lt dk b i by rw [← HJ.out.2.2]; exact (scanSorted_go lt dk b k hkb (HV.out.2.1 rfl).2).symm)
            go_wp2_with fail
            go_roundg (gk - 1)
            case measure => have := HJ.out.1; omega
            case rel => exact ⟨k + 1, ⟨by have := HJ.out.1; omega, HV.out.1, HG.out⟩, ⟨by omega, by omega⟩, by go_num⟩
          | false =>
            have HG := Lib.hid (show scanSorted lt dk b i = k by rw [← HJ.out.2.2]; exact scanSorted_stop lt dk b k (HV.out.2.2 rfl))
            have hSQ := HV.out.1
            have HSQ := Lib.hid hSQ
            clear hSQ HV HJ
            by_cases hkb : k = b
            · subst hkb
              have HF := Lib.hid (show (dk, true) = R by rw [← HI.out.2.2.2, pi_true lt a k s i dk hs HG.out])
              have e0 : (((k : Nat) : Int) == ((k : Nat) : Int)) = true := beq_self_eq_true _
              go_wp2_with fail
              go_ret
              rw [← HF.out]
              exact ⟨rfl, HSQ.out⟩
            · have e0 : (((k : Nat) : Int) == ((b : Nat) : Int)) = false := by rw [beq_eq_false_iff_ne]; omega
              by_cases h50 : b - a < 50
              · have d50 : decide ((b : Int) - (a : Int) < 50) = true := decide_eq_true (by omega)
                have HF := Lib.hid (show (dk, false) = R by rw [← HI.out.2.2.2, pi_short lt a b s i dk hs (by rw [HG.out]; exact hkb) h50])
                go_wp2_with fail
                go_ret
                rw [← HF.out]
                exact ⟨rfl, HSQ.out⟩
              · have d50 : decide ((b : Int) - (a : Int) < 50) = false := decide_eq_false (by omega)
                have HF := Lib.hid (show partialIns lt a b (5 - (s + 1)) k (fixUp lt b k (fixDown lt a k (swp dk k (k - 1)))) = R by rw [← HI.out.2.2.2, pi_go lt a b s i k dk hs HG.out hkb h50])
                have hsw := HK.out.swap HSQ.out.1 HI.out.2.2.1 k (k - 1) (by omega) (by omega)
                rw [show ((k - 1 : Nat) : Int) = (k : Int) - 1 by omega] at hsw
                have HSW := Lib.hid hsw
                clear hsw
                go_wp2_with fail
                refine HSW.out.mono ?_
                rintro e w2 ⟨rfl, hs2, hf2⟩
                have HQ2 := Lib.hid (HSQ.out.turn ⟨hs2, hf2⟩)
                have HZ2 := Lib.hid (show (swp dk k (k - 1)).size = N by rw [size_swp]; exact HI.out.2.2.1)
                clear hs2 hf2 HSW
                go_upto_if 45 with (fail)
                go_cut [9] (fun v9 wc => Hid (SQ B St w (fixDown lt a k (swp dk k (k - 1))) wc ∧ (fixDown lt a k (swp dk k (k - 1))).size = N))
                case first =>
                  by_cases h2 : k - a ≥ 2
                  · have d2 : decide (2 ≤ (k : Int) - (a : Int)) = true := decide_eq_true (by omega)
                    (try rw [d2])
                    go_wp2_with fail
                    go_loopg [9] k (fun gj s9 wq => ∃ (j : Nat) (dj : Array α), Hid (gj = j + 1 ∧ SQ B St w dj wq ∧ dj.size = N ∧ shiftDown lt j dj = shiftDown lt (k - 1) (swp dk k (k - 1))) ∧ j < k ∧ s9 = .int .i64 (j : Int))
                    case atStart => exact ⟨k - 1, swp dk k (k - 1), ⟨by omega, HQ2.out, HZ2.out, rfl⟩, by omega, by congr 1; omega⟩
                    case round =>
                      obtain ⟨j, dj, HJ, hj, rfl⟩ := hrel
                      by_cases hj1 : 1 ≤ j
                      · have d1 : decide (1 ≤ (j : Int)) = true := decide_eq_true (by omega)
                        have hl := HK.out.less HJ.out.2.1.1 HJ.out.2.2.1 j (j - 1) (by omega) (by omega)
                        rw [show ((j - 1 : Nat) : Int) = (j : Int) - 1 by omega] at hl
                        have HL := Lib.hid hl
                        clear hl
                        go_wp2_with fail
                        refine HL.out.mono ?_
                        rintro e w3 ⟨rfl, hf3⟩
                        have HQ3 := Lib.hid (HJ.out.2.1.read HK.out hf3)
                        clear hf3 HL
                        cases hlv : lt dj[j]! dj[j - 1]! with
                        | true =>
                          have hsw := HK.out.swap HQ3.out.1 HJ.out.2.2.1 j (j - 1) (by omega) (by omega)
                          rw [show ((j - 1 : Nat) : Int) = (j : Int) - 1 by omega] at hsw
                          have HSW := Lib.hid hsw
                          have HG := Lib.hid (show shiftDown lt (j - 1) (swp dj j (j - 1)) = shiftDown lt (k - 1) (swp dk k (k - 1)) by rw [← HJ.out.2.2.2]; exact (shiftDown_go lt j dj hj1 hlv).symm)
                          clear hsw hlv
                          go_wp2_with fail
                          refine HSW.out.mono ?_
                          rintro e w4 ⟨rfl, hs4, hf4⟩
                          have HQ4 := Lib.hid (HQ3.out.turn ⟨hs4, hf4⟩)
                          clear hs4 hf4 HSW
                          go_wp2_with fail
                          go_roundg (gk - 1)
                          case measure => have := HJ.out.1; omega
                          case rel => exact ⟨j - 1, swp dj j (j - 1), ⟨by have := HJ.out.1; omega, HQ4.out, by rw [size_swp]; exact HJ.out.2.2.1, HG.out⟩, by omega, by congr 1; omega⟩
                        | false =>
                          have HG := Lib.hid (show dj = fixDown lt a k (swp dk k (k - 1)) by unfold fixDown; rw [if_pos h2, ← HJ.out.2.2.2]; exact (shiftDown_stop lt j dj (.inr hlv)).symm)
                          clear hlv
                          go_wp2_with fail
                          go_meet
                          exact Lib.hid (by rw [← HG.out]; exact ⟨HQ3.out, HJ.out.2.2.1⟩)
                      · have d1 : decide (1 ≤ (j : Int)) = false := decide_eq_false (by omega)
                        have HG := Lib.hid (show dj = fixDown lt a k (swp dk k (k - 1)) by unfold fixDown; rw [if_pos h2, ← HJ.out.2.2.2]; exact (shiftDown_stop lt j dj (.inl (by omega))).symm)
                        go_wp2_with fail
                        go_meet
                        exact Lib.hid (by rw [← HG.out]; exact ⟨HJ.out.2.1, HJ.out.2.2.1⟩)
                  · have d2 : decide (2 ≤ (k : Int) - (a : Int)) = false := decide_eq_false (by omega)
                    go_wp2_with fail
                    go_meet
                    exact Lib.hid (by unfold fixDown; rw [if_neg h2]; exact ⟨HQ2.out, HZ2.out⟩)
                case rest =>
                  have HC := hcut
                  clear hcut HQ2 HZ2
                  generalize fixDown lt a k (swp dk k (k - 1)) = D at *
                  by_cases h2 : b - k ≥ 2
                  · have d2 : decide (2 ≤ (b : Int) - (k : Int)) = true := decide_eq_true (by omega)
                    go_wp2_with fail
                    go_loopg [10] (b - k) (fun gj s10 wq => ∃ (j : Nat) (dj : Array α), Hid (gj + j = b + 1 ∧ SQ B St w dj wq ∧ dj.size = N ∧ shiftUp lt b j dj = shiftUp lt b (k + 1) D) ∧ (k < j ∧ j ≤ b) ∧ s10 = .int .i64 (j : Int))
                    case atStart => exact ⟨k + 1, D, ⟨by omega, HC.out.1, HC.out.2, rfl⟩, ⟨by omega, by omega⟩, by go_num⟩
                    case round =>
                      obtain ⟨j, dj, HJ, hj, rfl⟩ := hrel
                      by_cases hj1 : j < b
                      · have d1 : decide (j < b) = true := decide_eq_true hj1
                        have hl := HK.out.less HJ.out.2.1.1 HJ.out.2.2.1 j (j - 1) (by omega) (by omega)
                        rw [show ((j - 1 : Nat) : Int) = (j : Int) - 1 by omega] at hl
                        have HL := Lib.hid hl
                        clear hl
                        go_wp2_with fail
                        refine HL.out.mono ?_
                        rintro e w3 ⟨rfl, hf3⟩
                        have HQ3 := Lib.hid (HJ.out.2.1.read HK.out hf3)
                        clear hf3 HL
                        cases hlv : lt dj[j]! dj[j - 1]! with
                        | true =>
                          have hsw := HK.out.swap HQ3.out.1 HJ.out.2.2.1 j (j - 1) (by omega) (by omega)
                          rw [show ((j - 1 : Nat) : Int) = (j : Int) - 1 by omega] at hsw
                          have HSW := Lib.hid hsw
                          have HG := Lib.hid (show shiftUp lt b (j + 1) (swp dj j (j - 1)) = shiftUp lt b (k + 1) D by rw [← HJ.out.2.2.2]; exact (shiftUp_go lt b j dj hj1 hlv).symm)
                          clear hsw hlv
                          go_wp2_with fail
                          refine HSW.out.mono ?_
                          rintro e w4 ⟨rfl, hs4, hf4⟩
                          have HQ4 := Lib.hid (HQ3.out.turn ⟨hs4, hf4⟩)
                          clear hs4 hf4 HSW
                          go_wp2_with fail
                          go_roundg (gk - 1)
                          case measure => have := HJ.out.1; omega
                          case rel => exact ⟨j + 1, swp dj j (j - 1), ⟨by have := HJ.out.1; omega, HQ4.out, by rw [size_swp]; exact HJ.out.2.2.1, HG.out⟩, ⟨by omega, by omega⟩, by go_num⟩
                        | false =>
                          have HG := Lib.hid (show dj = fixUp lt b k D by unfold fixUp; rw [if_pos h2, ← HJ.out.2.2.2]; exact (shiftUp_stop lt b j dj (.inr hlv)).symm)
                          clear hlv
                          go_wp2_with fail
                          go_roundg (ga - 1)
                          case measure => have := HI.out.1; have := HGA.out; omega
                          case rel => exact ⟨k, s + 1, fixUp lt b k D, ⟨by have := HI.out.1; omega, by rw [← HG.out]; exact HQ3.out, by rw [← HG.out]; exact HJ.out.2.2.1, HF.out⟩, ⟨by omega, by omega⟩, by omega, rfl, by go_num⟩
                      · have d1 : decide (j < b) = false := decide_eq_false hj1
                        have HG := Lib.hid (show dj = fixUp lt b k D by unfold fixUp; rw [if_pos h2, ← HJ.out.2.2.2]; exact (shiftUp_stop lt b j dj (.inl hj1)).symm)
                        go_wp2_with fail
                        go_roundg (ga - 1)
                        case measure => have := HI.out.1; have := HGA.out; omega
                        case rel => exact ⟨k, s + 1, fixUp lt b k D, ⟨by have := HI.out.1; omega, by rw [← HG.out]; exact HJ.out.2.1, by rw [← HG.out]; exact HJ.out.2.2.1, HF.out⟩, ⟨by omega, by omega⟩, by omega, rfl, by go_num⟩
                  · have d2 : decide (2 ≤ (b : Int) - (k : Int)) = false := decide_eq_false (by omega)
                    have HG := Lib.hid (show D = fixUp lt b k D by unfold fixUp; rw [if_neg h2])
                    go_wp2_with fail
                    go_roundg (ga - 1)
                    case measure => have := HI.out.1; have := HGA.out; omega
                    case rel => exact ⟨k, s + 1, fixUp lt b k D, ⟨by have := HI.out.1; omega, by rw [← HG.out]; exact HC.out.1, by rw [← HG.out]; exact HC.out.2, HF.out⟩, ⟨by omega, by omega⟩, by omega, rfl, by go_num⟩
    · obtain rfl : s = 5 := by omega
      have HF := Lib.hid (show (dk, false) = R by rw [← HI.out.2.2.2, pi_end])
      go_wp2_with fail
      go_ret
      rw [← HF.out]
      exact ⟨rfl, HI.out.2.1⟩
end
end Go.Proofs.YtkcnodkojllobaaDoor.Srt
