/- sort.reverseRange, sort.siftDown, sort.heapSort over a state that is known by what Less and Swap do to it. -/
import Derived.Test.YtkcnodkojllobaaDoorZa
import Derived.Sort.WalkB2
import Derived.Sort.WalkB3
namespace Go.Proofs.YtkcnodkojllobaaDoor.Srt
open Go Go.RowKit Go.Sort Go.Proofs.YtkcnodkojllobaaDoor.Row Go.Proofs.YtkcnodkojllobaaDoorW.PrintWords
set_option linter.unusedVariables false
set_option linter.unusedSimpArgs false

section
variable {α : Type} [Inhabited α] {N B hb : Nat} {lt : α → α → Bool} {St : Array α → World → Prop}

set_option maxRecDepth 100000 in
set_option maxHeartbeats 4000000 in
theorem reverseRange_calls (h : SK N B hb lt St) (a b : Nat) (d : Array α) (w : World) (hs : St d w) (hd : d.size = N) (hab : a < b) (hbN : b ≤ N) :
    Calls Tryd.prog 28 #[.iface 44 (RV hb), .int .i64 (a : Int), .int .i64 (b : Int)] w fun e w' => e = .returned (.tuple #[]) ∧ ∃ d', PermIn a b d d' ∧ SQ B St w d' w' := by
  have hNs := h.small
  have HK := Lib.hid h
  have HS := Lib.hid hs
  have HD := Lib.hid hd
  have mS := method_swap hb
  clear h hs hd
  go_enter Tryd.func28, Tryd.ntmps28
  go_wp2_with fail
  go_loopg [6, 7] b (fun gk s6 s7 wr => ∃ (i j : Nat) (dk : Array α), Hid (gk = j + 1 ∧ a ≤ i ∧ j < b ∧ SQ B St w dk wr ∧ dk.size = N ∧ PermIn a b d dk) ∧ s6 = .int .i64 (i : Int) ∧ s7 = .int .i64 (j : Int))
  case atStart => exact ⟨a, b - 1, d, ⟨by omega, Nat.le_refl _, by omega, SQ.refl HS.out, HD.out, permIn_refl _ _ _⟩, rfl, by congr 1; omega⟩
  case round =>
    obtain ⟨i, j, dk, HI, rfl, rfl⟩ := hrel
    by_cases hlt : i < j
    · have hd1 : decide (i < j) = true := decide_eq_true hlt
      have hbj := HI.out.2.2.1
      have HSW := Lib.hid (HK.out.swap HI.out.2.2.2.1.1 HI.out.2.2.2.2.1 i j (by omega) (by omega))
      go_wp2_with fail
      refine HSW.out.mono ?_
      rintro e w2 ⟨rfl, hs2, hf2⟩
      have HQ2 := Lib.hid (HI.out.2.2.2.1.turn ⟨hs2, hf2⟩)
      have HP := Lib.hid (permIn_trans _ _ _ a b HI.out.2.2.2.2.2 (swp_permIn dk a b i j HI.out.2.1 (by omega) (by have := HI.out.2.1; omega) (by omega) (by rw [HI.out.2.2.2.2.1]; exact hbN)))
      clear hs2 hf2 HSW
      go_wp2_with fail
      go_roundg (gk - 1)
      case measure => have := HI.out.1; omega
      case rel => exact ⟨i + 1, j - 1, swp dk i j, ⟨by have := HI.out.1; omega, by have := HI.out.2.1; omega, by omega, HQ2.out, by rw [size_swp]; exact HI.out.2.2.2.2.1, HP.out⟩, by go_num, by congr 1; omega⟩
    · have hd1 : decide (i < j) = false := decide_eq_false hlt
      go_wp2_with fail
      go_end0
      exact ⟨rfl, dk, HI.out.2.2.2.2.2, HI.out.2.2.2.1⟩

set_option maxRecDepth 100000 in
set_option maxHeartbeats 4000000 in
theorem siftDown_calls (h : SK N B hb lt St) (lo hi first : Nat) (d : Array α) (w : World) (hs : St d w) (hd : d.size = N) (hlo : lo ≤ hi) (hbN : first + hi ≤ N) :
    Calls Tryd.prog 32 #[.iface 44 (RV hb), .int .i64 (lo : Int), .int .i64 (hi : Int), .int .i64 (first : Int)] w fun e w' => e = .returned (.tuple #[]) ∧ SQ B St w (siftDown lt hi first lo d) w' := by
  have hNs := h.small
  have HK := Lib.hid h
  have HS := Lib.hid hs
  have HD := Lib.hid hd
  have mL := method_less hb
  have mS := method_swap hb
  clear h hs hd
  go_enter Tryd.func32, Tryd.ntmps32
  go_wp2_with fail
  go_loopg [8] (hi - lo) (fun gk s8 wr => ∃ (r : Nat) (dk : Array α), Hid (gk + r = hi ∧ SQ B St w dk wr ∧ dk.size = N ∧ siftDown lt hi first r dk = siftDown lt hi first lo d) ∧ r ≤ hi ∧ s8 = .int .i64 (r : Int))
  case atStart => exact ⟨lo, d, ⟨by omega, SQ.refl HS.out, HD.out, rfl⟩, hlo, rfl⟩
  case round =>
    obtain ⟨r, dk, HI, hr, rfl⟩ := hrel
    by_cases hc : hi ≤ 2 * r + 1
    · have hd1 : decide ((hi : Int) ≤ 2 * (r : Int) + 1) = true := decide_eq_true (by omega)
      go_wp2_with fail
      go_end0
      exact ⟨rfl, by rw [← HI.out.2.2.2, sd_end lt dk hc]; exact HI.out.2.1⟩
    · have hd1 : decide ((hi : Int) ≤ 2 * (r : Int) + 1) = false := decide_eq_false (by omega)
      go_upto_region 3 with (fail)
      go_cut [31] (fun v31 wc => ∃ v : Bool, v31 = .bool v ∧ Hid (SQ B St w dk wc ∧ (v = true → 2 * r + 2 < hi ∧ lt dk[first + (2 * r + 1)]! dk[first + (2 * r + 2)]! = true) ∧ (v = false → 2 * r + 2 < hi → lt dk[first + (2 * r + 1)]! dk[first + (2 * r + 2)]! = false)))
      case first =>
        by_cases h2 : 2 * r + 2 < hi
        · have hd2 : decide (2 * (r : Int) + 1 + 1 < (hi : Int)) = true := decide_eq_true (by omega)
          have hl := HK.out.less HI.out.2.1.1 HI.out.2.2.1 (first + (2 * r + 1)) (first + (2 * r + 2)) (by omega) (by omega)
          rw [show (((first + (2 * r + 1) : Nat) : Nat) : Int) = (first : Int) + (2 * (r : Int) + 1) by push_cast; rfl, show (((first + (2 * r + 2) : Nat) : Nat) : Int) = (first : Int) + (2 * (r : Int) + 1) + 1 by omega] at hl
          have HL := Lib.hid hl
          clear hl
          go_wp2_with fail
          refine HL.out.mono ?_
          rintro e w1 ⟨rfl, hf1⟩
          have HQ1 := Lib.hid (HI.out.2.1.read HK.out hf1)
          clear hf1 HL
          go_wp2_with fail
          go_meet
          exact ⟨_, rfl, Lib.hid ⟨HQ1.out, fun e => ⟨h2, e⟩, fun e _ => e⟩⟩
        · have hd2 : decide (2 * (r : Int) + 1 + 1 < (hi : Int)) = false := decide_eq_false (by omega)
          go_wp2_with fail
          go_meet
          exact ⟨_, rfl, Lib.hid ⟨HI.out.2.1, fun e => (by cases e), fun _ e => absurd e h2⟩⟩
      case rest =>
        obtain ⟨v, rfl, HV⟩ := hcut
        go_upto_if 31 with (fail)
        go_cut [9] (fun v9 wd => ∃ c : Nat, v9 = .int .i64 (c : Int) ∧ Hid (wd = wc ∧ (v = true → c = 2 * r + 2) ∧ (v = false → c = 2 * r + 1)) ∧ 2 * r + 1 ≤ c ∧ c < hi)
        case first =>
          cases v with
          | true =>
            have h3 := (HV.out.2.1 rfl).1
            go_wp2_with fail
            go_meet
            exact ⟨2 * r + 2, by congr 1, Lib.hid ⟨rfl, fun _ => rfl, fun e => by cases e⟩, by omega, h3⟩
          | false =>
            go_wp2_with fail
            go_meet
            exact ⟨2 * r + 1, by congr 1, Lib.hid ⟨rfl, fun e => (by cases e), fun _ => rfl⟩, by omega, by omega⟩
        case rest =>
          obtain ⟨c, rfl, HC, hc1, hc2⟩ := hcut
          obtain ⟨e1, e2, e3⟩ := HC.out
          subst e1
          have hl := HK.out.less HV.out.1.1 HI.out.2.2.1 (first + r) (first + c) (by omega) (by omega)
          rw [show ((first + r : Nat) : Int) = (first : Int) + (r : Int) by push_cast; rfl, show ((first + c : Nat) : Int) = (first : Int) + (c : Int) by push_cast; rfl] at hl
          have HL := Lib.hid hl
          have HE := Lib.hid (And.intro e2 e3)
          clear hl e2 e3 HC
          go_wp2_with fail
          refine HL.out.mono ?_
          rintro e w1 ⟨rfl, hf1⟩
          have HQ1 := Lib.hid (HV.out.1.read HK.out hf1)
          clear hf1 HL
          cases hlv : lt dk[first + r]! dk[first + c]! with
          | false =>
            have HG := Lib.hid (show siftDown lt hi first r dk = dk by
              cases v with
              | true => obtain rfl := HE.out.1 rfl; exact sd_right_stop lt dk hc2 (HV.out.2.1 rfl).2 hlv
              | false => obtain rfl := HE.out.2 rfl; exact sd_left_stop lt dk hc2 (HV.out.2.2 rfl) hlv)
            clear hlv
            go_wp2_with fail
            (try simp only [Exit.inBlock, Exit.then]); refine bodyPost_ret (results_none rfl _ _ _) rfl ?_
            exact ⟨rfl, by rw [← HI.out.2.2.2, HG.out]; exact HQ1.out⟩
          | true =>
            have HG := Lib.hid (show siftDown lt hi first r dk = siftDown lt hi first c (swp dk (first + r) (first + c)) by
              cases v with
              | true => obtain rfl := HE.out.1 rfl; exact sd_right_go lt dk hc2 (HV.out.2.1 rfl).2 hlv
              | false => obtain rfl := HE.out.2 rfl; exact sd_left_go lt dk hc2 (HV.out.2.2 rfl) hlv)
            have hsw := HK.out.swap HQ1.out.1 HI.out.2.2.1 (first + r) (first + c) (by omega) (by omega)
            rw [show ((first + r : Nat) : Int) = (first : Int) + (r : Int) by push_cast; rfl, show ((first + c : Nat) : Int) = (first : Int) + (c : Int) by push_cast; rfl] at hsw
            have HSW := Lib.hid hsw
            clear hlv hsw
            go_wp2_with fail
            refine HSW.out.mono ?_
            rintro e w2 ⟨rfl, hs2, hf2⟩
            have HQ2 := Lib.hid (HQ1.out.turn ⟨hs2, hf2⟩)
            clear hs2 hf2 HSW
            go_wp2_with fail
            go_roundg (hi - c)
            case measure => have := HI.out.1; omega
            case rel => exact ⟨c, swp dk (first + r) (first + c), ⟨by omega, HQ2.out, by rw [size_swp]; exact HI.out.2.2.1, by rw [← HG.out]; exact HI.out.2.2.2⟩, by omega, rfl⟩

set_option maxRecDepth 100000 in
set_option maxHeartbeats 4000000 in
theorem heapSort_calls (h : SK N B hb lt St) (a b : Nat) (d : Array α) (w : World) (hs : St d w) (hd : d.size = N) (hab : a < b) (hbN : b ≤ N) :
    Calls Tryd.prog 25 #[.iface 44 (RV hb), .int .i64 (a : Int), .int .i64 (b : Int)] w fun e w' => e = .returned (.tuple #[]) ∧ SQ B St w (heapSort lt d a b) w' := by
  have hNs := h.small
  have HK := Lib.hid h
  have HS := Lib.hid hs
  have HD := Lib.hid hd
  have mS := method_swap hb
  obtain ⟨n, hn⟩ : ∃ n, n = b - a := ⟨_, rfl⟩
  have hq : heapSort lt d a b = heapPop lt a n (heapBuild lt n a ((n - 1) / 2 + 1) d) := by unfold heapSort; rw [← hn]
  rw [hq]
  obtain ⟨D1, hD1⟩ : ∃ D1, D1 = heapBuild lt n a ((n - 1) / 2 + 1) d := ⟨_, rfl⟩
  rw [← hD1]
  have H1 := Lib.hid hD1
  have e1 : (b : Int) - (a : Int) = (n : Int) := by omega
  have hbn : a + n ≤ N := by omega
  have hn0 : 0 < n := by omega
  clear h hs hd hq hn hD1 hab hbN
  go_enter Tryd.func25, Tryd.ntmps25
  go_wp2_with fail
  go_loopg [9] ((n - 1) / 2 + 1) (fun gk s9 wr => ∃ (dk : Array α), Hid (SQ B St w dk wr ∧ dk.size = N ∧ heapBuild lt n a gk dk = D1) ∧ gk ≤ (n - 1) / 2 + 1 ∧ s9 = .int .i64 ((gk : Int) - 1))
  case atStart => exact ⟨d, ⟨SQ.refl HS.out, HD.out, H1.out.symm⟩, Nat.le_refl _, by congr 1; omega⟩
  case round =>
    obtain ⟨dk, HI, hk, rfl⟩ := hrel
    by_cases hk0 : 0 < gk
    · obtain ⟨k, rfl⟩ : ∃ k, gk = k + 1 := ⟨gk - 1, by omega⟩
      rw [show (((k + 1 : Nat) : Int) - 1) = (k : Int) by omega]
      have HC := Lib.hid (siftDown_calls HK.out k n a dk wr HI.out.1.1 HI.out.2.1 (by omega) hbn)
      go_wp2_with fail
      refine HC.out.mono ?_
      rintro e w2 ⟨rfl, hq2⟩
      have HQ2 := Lib.hid (HI.out.1.turn hq2)
      clear hq2 HC
      go_wp2_with fail
      go_roundg k
      case measure => omega
      case rel => exact ⟨siftDown lt n a k dk, ⟨HQ2.out, by rw [size_siftDown lt n a _ _ _ (Nat.le_refl _)]; exact HI.out.2.1, HI.out.2.2⟩, by omega, rfl⟩
    · obtain rfl : gk = 0 := by omega
      rw [show (((0 : Nat) : Int) - 1) = -1 from rfl]
      have HD2 := Lib.hid (show dk = D1 from HI.out.2.2)
      go_wp2_with fail
      go_loopg [10] n (fun gk s10 wr2 => ∃ (dk2 : Array α), Hid (SQ B St w dk2 wr2 ∧ dk2.size = N ∧ heapPop lt a gk dk2 = heapPop lt a n D1) ∧ gk ≤ n ∧ s10 = .int .i64 ((gk : Int) - 1))
      case atStart => exact ⟨dk, ⟨HI.out.1, HI.out.2.1, by rw [HD2.out]⟩, Nat.le_refl _, by first | rfl | (congr 1; omega)⟩
      case round =>
        obtain ⟨dk2, HJ, hj, rfl⟩ := hrel
        by_cases hk1 : 0 < gk
        · obtain ⟨k, rfl⟩ : ∃ k, gk = k + 1 := ⟨gk - 1, by omega⟩
          rw [show (((k + 1 : Nat) : Int) - 1) = (k : Int) by omega]
          have hsw := HK.out.swap HJ.out.1.1 HJ.out.2.1 a (a + k) (by omega) (by omega)
          rw [show ((a + k : Nat) : Int) = (a : Int) + (k : Int) by push_cast; rfl] at hsw
          have HSW := Lib.hid hsw
          clear hsw
          go_wp2_with fail
          refine HSW.out.mono ?_
          rintro e w2 ⟨rfl, hs2, hf2⟩
          have HQ2 := Lib.hid (HJ.out.1.turn ⟨hs2, hf2⟩)
          have hc := siftDown_calls HK.out 0 k a (swp dk2 a (a + k)) w2 hs2 (by rw [size_swp]; exact HJ.out.2.1) (Nat.zero_le _) (by omega)
          have HC := Lib.hid hc
          clear hs2 hf2 HSW hc
          go_wp2_with fail
          refine HC.out.mono ?_
          rintro e w3 ⟨rfl, hq3⟩
          have HQ3 := Lib.hid (HQ2.out.turn hq3)
          clear hq3 HC
          go_wp2_with fail
          go_roundg k
          case measure => omega
          case rel => exact ⟨siftDown lt k a 0 (swp dk2 a (a + k)), ⟨HQ3.out, by rw [size_siftDown lt k a _ _ _ (Nat.le_refl _), size_swp]; exact HJ.out.2.1, HJ.out.2.2⟩, by omega, rfl⟩
        · obtain rfl : gk = 0 := by omega
          rw [show (((0 : Nat) : Int) - 1) = -1 from rfl]
          go_wp2_with fail
          go_end0
          exact ⟨rfl, by rw [← HJ.out.2.2]; exact HJ.out.1⟩
end
end Go.Proofs.YtkcnodkojllobaaDoor.Srt
