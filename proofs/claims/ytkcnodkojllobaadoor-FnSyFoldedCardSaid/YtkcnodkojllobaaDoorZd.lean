/- sort.partitionEqual, sort.partition over a state that is known by what Less and Swap do to it. -/
import Derived.Test.YtkcnodkojllobaaDoorZa
import Derived.Sort.WalkC4
namespace Go.Proofs.YtkcnodkojllobaaDoor.Srt
open Go Go.RowKit Go.Sort Go.Proofs.YtkcnodkojllobaaDoor.Row Go.Proofs.YtkcnodkojllobaaDoorW.PrintWords
set_option linter.unusedVariables false
set_option linter.unusedSimpArgs false

section
variable {α : Type} [Inhabited α] {N B hb : Nat} {lt : α → α → Bool} {St : Array α → World → Prop}

set_option maxRecDepth 100000 in
set_option maxHeartbeats 8000000 in
theorem partitionEqual_calls (h : SK N B hb lt St) (a b p : Nat) (d : Array α) (w : World) (hs : St d w) (hd : d.size = N) (hap : a ≤ p) (hpb : p < b) (hbN : b ≤ N) :
    Calls Tryd.prog 30 #[.iface 44 (RV hb), .int .i64 (a : Int), .int .i64 (b : Int), .int .i64 (p : Int)] w fun e w' => e = .returned (.int .i64 ((partitionEqual lt d a b p).1 : Int)) ∧ SQ B St w (partitionEqual lt d a b p).2 w' := by
  have hNs := h.small
  have HK := Lib.hid h
  have HSW := Lib.hid (h.swap hs hd a p (by omega) (by omega))
  have HD := Lib.hid hd
  have mL := method_less hb
  have mS := method_swap hb
  obtain ⟨R, hR⟩ : ∃ R, R = partitionEqual lt d a b p := ⟨_, rfl⟩
  rw [← hR]
  have HR := Lib.hid hR
  clear h hs hd hR
  go_enter Tryd.func30, Tryd.ntmps30
  go_wp2_with fail
  refine HSW.out.mono ?_
  rintro e w1 ⟨rfl, hs1, hf1⟩
  have HQ1 := Lib.hid (show SQ B St w (swp d a p) w1 from ⟨hs1, hf1⟩)
  clear hs1 hf1 HSW
  go_wp2_with fail
  go_loopg [9, 10] (b - 1 - a) (fun gk s9 s10 wr => ∃ (i j : Nat) (dk : Array α), Hid (gk + i = j + 1 ∧ SQ B St w dk wr ∧ dk.size = N ∧ partEqLoop lt a i j dk = R) ∧ (a < i ∧ i ≤ j + 1 ∧ j < b) ∧ s9 = .int .i64 (i : Int) ∧ s10 = .int .i64 (j : Int))
  case atStart => exact ⟨a + 1, b - 1, swp d a p, ⟨by omega, HQ1.out, by rw [size_swp]; exact HD.out, by rw [HR.out]; rfl⟩, ⟨by omega, by omega, by omega⟩, by go_num, by congr 1; omega⟩
  case round =>
    obtain ⟨i, j, dk, HI, hij, rfl, rfl⟩ := hrel
    go_upto_block 2 with (fail)
    go_cut [9] (fun vv wc => ∃ i2 : Nat, vv = .int .i64 (i2 : Int) ∧ Hid (i2 = scanUp (fun x => !lt dk[a]! x) dk j i ∧ SQ B St w dk wc) ∧ i ≤ i2 ∧ i2 ≤ j + 1)
    case first =>
      go_wp2_with fail
      go_loopg [9] (j + 1 - i) (fun gk ss wq => ∃ k : Nat, Hid (gk + k = j + 1 ∧ SQ B St w dk wq ∧ scanUp (fun x => !lt dk[a]! x) dk j k = scanUp (fun x => !lt dk[a]! x) dk j i) ∧ (i ≤ k ∧ k ≤ j + 1) ∧ ss = .int .i64 (k : Int))
      case atStart => exact ⟨i, ⟨by omega, HI.out.2.1, rfl⟩, ⟨Nat.le_refl _, hij.2.1⟩, rfl⟩
      case round =>
        obtain ⟨k, HJ, hk, rfl⟩ := hrel
        by_cases hkj : k ≤ j
        · have hd : decide (k ≤ j) = true := decide_eq_true hkj
          have HL := Lib.hid (HK.out.less HJ.out.2.1.1 HI.out.2.2.1 a k (by omega) (by omega))
          go_wp2_with fail
          refine HL.out.mono ?_
          rintro e w3 ⟨rfl, hf3⟩
          have HQ3 := Lib.hid (HJ.out.2.1.read HK.out hf3)
          clear hf3 HL
          cases hlv : lt dk[a]! dk[k]! with
          | false =>
            have HG := Lib.hid (show scanUp (fun x => !lt dk[a]! x) dk j (k + 1) = scanUp (fun x => !lt dk[a]! x) dk j i by rw [← HJ.out.2.2]; exact (scanUp_go (fun x => !lt dk[a]! x) dk j k hkj (by simp [hlv])).symm)
            clear hlv
            go_wp2_with fail
            go_roundg (gk - 1)
            case measure => have := HJ.out.1; omega
            case rel => exact ⟨k + 1, ⟨by have := HJ.out.1; omega, HQ3.out, HG.out⟩, ⟨by omega, by omega⟩, by go_num⟩
          | true =>
            have HG := Lib.hid (show k = scanUp (fun x => !lt dk[a]! x) dk j i by rw [← HJ.out.2.2]; exact (scanUp_end (fun x => !lt dk[a]! x) dk j k (.inr (by simp [hlv]))).symm)
            clear hlv
            go_wp2_with fail
            go_meet
            exact ⟨k, rfl, Lib.hid ⟨HG.out, HQ3.out⟩, by omega, by omega⟩
        · have hd : decide (k ≤ j) = false := decide_eq_false hkj
          have HG := Lib.hid (show k = scanUp (fun x => !lt dk[a]! x) dk j i by rw [← HJ.out.2.2]; exact (scanUp_end (fun x => !lt dk[a]! x) dk j k (.inl hkj)).symm)
          go_wp2_with fail
          go_meet
          exact ⟨k, rfl, Lib.hid ⟨HG.out, HJ.out.2.1⟩, by omega, by omega⟩
    case rest =>
      obtain ⟨i2, rfl, HU, hu1, hu2⟩ := hcut
      go_upto_block 4 with (fail)
      go_cut [10] (fun vv wc => ∃ j2 : Nat, vv = .int .i64 (j2 : Int) ∧ Hid (j2 = scanDown (fun x => lt dk[a]! x) dk i2 j ∧ SQ B St w dk wc) ∧ i2 ≤ j2 + 1 ∧ j2 ≤ j)
      case first =>
        go_wp2_with fail
        go_loopg [10] (j + 1) (fun gk ss wq => ∃ k : Nat, Hid (gk = k + 1 ∧ SQ B St w dk wq ∧ scanDown (fun x => lt dk[a]! x) dk i2 k = scanDown (fun x => lt dk[a]! x) dk i2 j) ∧ (i2 ≤ k + 1 ∧ k ≤ j) ∧ ss = .int .i64 (k : Int))
        case atStart => exact ⟨j, ⟨rfl, HU.out.2, rfl⟩, ⟨by omega, Nat.le_refl _⟩, rfl⟩
        case round =>
          obtain ⟨k, HJ, hk, rfl⟩ := hrel
          by_cases hkj : i2 ≤ k
          · have hd : decide (i2 ≤ k) = true := decide_eq_true hkj
            have HL := Lib.hid (HK.out.less HJ.out.2.1.1 HI.out.2.2.1 a k (by omega) (by omega))
            go_wp2_with fail
            refine HL.out.mono ?_
            rintro e w3 ⟨rfl, hf3⟩
            have HQ3 := Lib.hid (HJ.out.2.1.read HK.out hf3)
            clear hf3 HL
            cases hlv : lt dk[a]! dk[k]! with
            | true =>
              have HG := Lib.hid (show scanDown (fun x => lt dk[a]! x) dk i2 (k - 1) = scanDown (fun x => lt dk[a]! x) dk i2 j by rw [← HJ.out.2.2]; exact (scanDown_go (fun x => lt dk[a]! x) dk i2 k hkj (by omega) (by simp [hlv])).symm)
              clear hlv
              go_wp2_with fail
              go_roundg (gk - 1)
              case measure => have := HJ.out.1; omega
              case rel => exact ⟨k - 1, ⟨by have := HJ.out.1; omega, HQ3.out, HG.out⟩, ⟨by omega, by omega⟩, by congr 1; omega⟩
            | false =>
              have HG := Lib.hid (show k = scanDown (fun x => lt dk[a]! x) dk i2 j by rw [← HJ.out.2.2]; exact (scanDown_end (fun x => lt dk[a]! x) dk i2 k (.inr (by simp [hlv]))).symm)
              clear hlv
              go_wp2_with fail
              go_meet
              exact ⟨k, rfl, Lib.hid ⟨HG.out, HQ3.out⟩, by omega, by omega⟩
          · have hd : decide (i2 ≤ k) = false := decide_eq_false hkj
            have HG := Lib.hid (show k = scanDown (fun x => lt dk[a]! x) dk i2 j by rw [← HJ.out.2.2]; exact (scanDown_end (fun x => lt dk[a]! x) dk i2 k (.inl hkj)).symm)
            go_wp2_with fail
            go_meet
            exact ⟨k, rfl, Lib.hid ⟨HG.out, HJ.out.2.1⟩, by omega, by omega⟩
      case rest =>
        obtain ⟨j2, rfl, HW, hw1, hw2⟩ := hcut
        by_cases h2 : j2 < i2
        · have hd : decide (j2 < i2) = true := decide_eq_true h2
          have HG := Lib.hid (show (i2, dk) = R by rw [← HI.out.2.2.2]; exact (partEq_break lt a i j dk HU.out.1 HW.out.1 h2).symm)
          go_wp2_with fail
          go_ret
          rw [← HG.out]
          exact ⟨rfl, HW.out.2⟩
        · have hd : decide (j2 < i2) = false := decide_eq_false h2
          have hlt := scans_lt lt a i j dk (by omega) HU.out.1 HW.out.1 (by omega)
          have HG := Lib.hid (show partEqLoop lt a (i2 + 1) (j2 - 1) (swp dk i2 j2) = R by rw [← HI.out.2.2.2]; exact (partEq_go lt a i j dk HU.out.1 HW.out.1 (by omega)).symm)
          have HS2 := Lib.hid (HK.out.swap HW.out.2.1 HI.out.2.2.1 i2 j2 (by omega) (by omega))
          go_wp2_with fail
          refine HS2.out.mono ?_
          rintro e w4 ⟨rfl, hs4, hf4⟩
          have HQ4 := Lib.hid (HW.out.2.turn ⟨hs4, hf4⟩)
          clear hs4 hf4 HS2
          go_wp2_with fail
          go_roundg (j2 - 1 - i2)
          case measure => have := HI.out.1; omega
          case rel => exact ⟨i2 + 1, j2 - 1, swp dk i2 j2, ⟨by omega, HQ4.out, by rw [size_swp]; exact HI.out.2.2.1, HG.out⟩, ⟨by omega, by omega, by omega⟩, by go_num, by congr 1; omega⟩

set_option maxRecDepth 100000 in
set_option maxHeartbeats 8000000 in
theorem partition_calls (h : SK N B hb lt St) (a b p : Nat) (d : Array α) (w : World) (hs : St d w) (hd : d.size = N) (hap : a ≤ p) (hpb : p < b) (hbN : b ≤ N) :
    Calls Tryd.prog 31 #[.iface 44 (RV hb), .int .i64 (a : Int), .int .i64 (b : Int), .int .i64 (p : Int)] w fun e w' => e = .returned (.tuple #[.int .i64 ((partition lt d a b p).1 : Int), .bool (partition lt d a b p).2.1]) ∧ SQ B St w (partition lt d a b p).2.2 w' := by
  have hNs := h.small
  have HK := Lib.hid h
  have HSW := Lib.hid (h.swap hs hd a p (by omega) (by omega))
  have mL := method_less hb
  have mS := method_swap hb
  obtain ⟨R, hR⟩ : ∃ R, R = partition lt d a b p := ⟨_, rfl⟩
  rw [← hR]
  have HR := Lib.hid hR
  obtain ⟨i, hi⟩ : ∃ i : Nat, i = a + 1 := ⟨_, rfl⟩
  obtain ⟨j, hj⟩ : ∃ j : Nat, j = b - 1 := ⟨_, rfl⟩
  obtain ⟨dk, hdk⟩ : ∃ dk : Array α, dk = swp d a p := ⟨_, rfl⟩
  have HZ := Lib.hid (show dk.size = N by rw [hdk, size_swp]; exact hd)
  have hij : a < i ∧ i ≤ j + 1 ∧ j < b := by omega
  have ei : (a : Int) + 1 = (i : Int) := by omega
  have ej : (b : Int) - 1 = (j : Int) := by omega
  rw [← hdk] at HSW
  have Hi := Lib.hid hi
  have Hj := Lib.hid hj
  have Hdk := Lib.hid hdk
  clear h hs hd hR hi hj hdk
  go_enter Tryd.func31, Tryd.ntmps31
  go_wp2_with fail
  refine HSW.out.mono ?_
  rintro e w1 ⟨rfl, hs1, hf1⟩
  have HQ1 := Lib.hid (show SQ B St w dk w1 from ⟨hs1, hf1⟩)
  clear hs1 hf1 HSW
  go_upto_block 0 with (fail)
  go_cut [10] (fun vv wc => ∃ i2 : Nat, vv = .int .i64 (i2 : Int) ∧ Hid (i2 = scanUp (fun x => lt x dk[a]!) dk j i ∧ SQ B St w dk wc) ∧ i ≤ i2 ∧ i2 ≤ j + 1)
  case first =>
    go_wp2_with fail
    go_loopg [10] (j + 1 - i) (fun gk ss wq => ∃ k : Nat, Hid (gk + k = j + 1 ∧ SQ B St w dk wq ∧ scanUp (fun x => lt x dk[a]!) dk j k = scanUp (fun x => lt x dk[a]!) dk j i) ∧ (i ≤ k ∧ k ≤ j + 1) ∧ ss = .int .i64 (k : Int))
    case atStart => exact ⟨i, ⟨by omega, HQ1.out, rfl⟩, ⟨Nat.le_refl _, hij.2.1⟩, rfl⟩
    case round =>
      obtain ⟨k, HJ, hk, rfl⟩ := hrel
      by_cases hkj : k ≤ j
      · have hd : decide (k ≤ j) = true := decide_eq_true hkj
        have HL := Lib.hid (HK.out.less HJ.out.2.1.1 HZ.out k a (by omega) (by omega))
        go_wp2_with fail
        refine HL.out.mono ?_
        rintro e w3 ⟨rfl, hf3⟩
        have HQ3 := Lib.hid (HJ.out.2.1.read HK.out hf3)
        clear hf3 HL
        cases hlv : lt dk[k]! dk[a]! with
        | true =>
          have HG := Lib.hid (show scanUp (fun x => lt x dk[a]!) dk j (k + 1) = scanUp (fun x => lt x dk[a]!) dk j i by rw [← HJ.out.2.2]; exact (scanUp_go (fun x => lt x dk[a]!) dk j k hkj (by simp [hlv])).symm)
          clear hlv
          go_wp2_with fail
          go_roundg (gk - 1)
          case measure => have := HJ.out.1; omega
          case rel => exact ⟨k + 1, ⟨by have := HJ.out.1; omega, HQ3.out, HG.out⟩, ⟨by omega, by omega⟩, by go_num⟩
        | false =>
          have HG := Lib.hid (show k = scanUp (fun x => lt x dk[a]!) dk j i by rw [← HJ.out.2.2]; exact (scanUp_end (fun x => lt x dk[a]!) dk j k (.inr (by simp [hlv]))).symm)
          clear hlv
          go_wp2_with fail
          go_meet
          exact ⟨k, rfl, Lib.hid ⟨HG.out, HQ3.out⟩, by omega, by omega⟩
      · have hd : decide (k ≤ j) = false := decide_eq_false hkj
        have HG := Lib.hid (show k = scanUp (fun x => lt x dk[a]!) dk j i by rw [← HJ.out.2.2]; exact (scanUp_end (fun x => lt x dk[a]!) dk j k (.inl hkj)).symm)
        go_wp2_with fail
        go_meet
        exact ⟨k, rfl, Lib.hid ⟨HG.out, HJ.out.2.1⟩, by omega, by omega⟩
  case rest =>
    obtain ⟨i2, rfl, HU, hu1, hu2⟩ := hcut
    go_upto_block 2 with (fail)
    go_cut [11] (fun vv wc => ∃ j2 : Nat, vv = .int .i64 (j2 : Int) ∧ Hid (j2 = scanDown (fun x => !lt x dk[a]!) dk i2 j ∧ SQ B St w dk wc) ∧ i2 ≤ j2 + 1 ∧ j2 ≤ j)
    case first =>
      go_wp2_with fail
      go_loopg [11] (j + 1) (fun gk ss wq => ∃ k : Nat, Hid (gk = k + 1 ∧ SQ B St w dk wq ∧ scanDown (fun x => !lt x dk[a]!) dk i2 k = scanDown (fun x => !lt x dk[a]!) dk i2 j) ∧ (i2 ≤ k + 1 ∧ k ≤ j) ∧ ss = .int .i64 (k : Int))
      case atStart => exact ⟨j, ⟨rfl, HU.out.2, rfl⟩, ⟨by omega, Nat.le_refl _⟩, rfl⟩
      case round =>
        obtain ⟨k, HJ, hk, rfl⟩ := hrel
        by_cases hkj : i2 ≤ k
        · have hd : decide (i2 ≤ k) = true := decide_eq_true hkj
          have HL := Lib.hid (HK.out.less HJ.out.2.1.1 HZ.out k a (by omega) (by omega))
          go_wp2_with fail
          refine HL.out.mono ?_
          rintro e w3 ⟨rfl, hf3⟩
          have HQ3 := Lib.hid (HJ.out.2.1.read HK.out hf3)
          clear hf3 HL
          cases hlv : lt dk[k]! dk[a]! with
          | false =>
            have HG := Lib.hid (show scanDown (fun x => !lt x dk[a]!) dk i2 (k - 1) = scanDown (fun x => !lt x dk[a]!) dk i2 j by rw [← HJ.out.2.2]; exact (scanDown_go (fun x => !lt x dk[a]!) dk i2 k hkj (by omega) (by simp [hlv])).symm)
            clear hlv
            go_wp2_with fail
            go_roundg (gk - 1)
            case measure => have := HJ.out.1; omega
            case rel => exact ⟨k - 1, ⟨by have := HJ.out.1; omega, HQ3.out, HG.out⟩, ⟨by omega, by omega⟩, by congr 1; omega⟩
          | true =>
            have HG := Lib.hid (show k = scanDown (fun x => !lt x dk[a]!) dk i2 j by rw [← HJ.out.2.2]; exact (scanDown_end (fun x => !lt x dk[a]!) dk i2 k (.inr (by simp [hlv]))).symm)
            clear hlv
            go_wp2_with fail
            go_meet
            exact ⟨k, rfl, Lib.hid ⟨HG.out, HQ3.out⟩, by omega, by omega⟩
        · have hd : decide (i2 ≤ k) = false := decide_eq_false hkj
          have HG := Lib.hid (show k = scanDown (fun x => !lt x dk[a]!) dk i2 j by rw [← HJ.out.2.2]; exact (scanDown_end (fun x => !lt x dk[a]!) dk i2 k (.inl hkj)).symm)
          go_wp2_with fail
          go_meet
          exact ⟨k, rfl, Lib.hid ⟨HG.out, HJ.out.2.1⟩, by omega, by omega⟩
    case rest =>
      obtain ⟨j2, rfl, HW, hw1, hw2⟩ := hcut
      by_cases h2 : j2 < i2
      · have hd : decide (j2 < i2) = true := decide_eq_true h2
        have PF := Lib.hid (show R = (j2, true, swp dk j2 a) by rw [HR.out]; exact part_first_break lt d a b p Hi.out Hj.out Hdk.out HU.out.1 HW.out.1 h2)
        have HS2 := Lib.hid (HK.out.swap HW.out.2.1 HZ.out j2 a (by omega) (by omega))
        go_wp2_with fail
        refine HS2.out.mono ?_
        rintro e w4 ⟨rfl, hs4, hf4⟩
        have HQ4 := Lib.hid (HW.out.2.turn ⟨hs4, hf4⟩)
        clear hs4 hf4 HS2
        go_wp2_with fail
        go_ret2
        rw [PF.out]
        exact ⟨rfl, HQ4.out⟩
      · have hd : decide (j2 < i2) = false := decide_eq_false h2
        have hlt := part_scans_lt lt a i j dk (by omega) HU.out.1 HW.out.1 (by omega)
        obtain ⟨I0, hI0⟩ : ∃ I0 : Nat, I0 = i2 + 1 := ⟨_, rfl⟩
        obtain ⟨J0, hJ0⟩ : ∃ J0 : Nat, J0 = j2 - 1 := ⟨_, rfl⟩
        obtain ⟨D0, hD0⟩ : ∃ D0 : Array α, D0 = swp dk i2 j2 := ⟨_, rfl⟩
        have PF := Lib.hid (show R = ((partLoop lt a I0 J0 D0).1, false, swp (partLoop lt a I0 J0 D0).2 (partLoop lt a I0 J0 D0).1 a) by
          rw [HR.out, hI0, hJ0, hD0]; exact part_first_go lt d a b p Hi.out Hj.out Hdk.out HU.out.1 HW.out.1 (by omega))
        have H0 := Lib.hid (And.intro hI0 (And.intro hJ0 hD0))
        have HS2 := Lib.hid (HK.out.swap HW.out.2.1 HZ.out i2 j2 (by omega) (by omega))
        clear hI0 hJ0 hD0
        go_wp2_with fail
        refine HS2.out.mono ?_
        rintro e w4 ⟨rfl, hs4, hf4⟩
        have HQ4 := Lib.hid (HW.out.2.turn ⟨hs4, hf4⟩)
        have HZ4 := Lib.hid (show (swp dk i2 j2).size = N by rw [size_swp]; exact HZ.out)
        have HIJ := Lib.hid (show a < i2 + 1 ∧ i2 + 1 ≤ j2 - 1 + 1 ∧ j2 - 1 < b by omega)
        have HJ0 := Lib.hid (show ((j2 : Int) - 1) = ((j2 - 1 : Nat) : Int) by omega)
        clear hs4 hf4 HS2
        go_wp2_with fail
        go_loopg [10, 11] (J0 + 1 - I0) (fun gk s10 s11 wr => ∃ (i j : Nat) (dk : Array α), Hid (gk + i = j + 1 ∧ SQ B St w dk wr ∧ dk.size = N ∧ partLoop lt a i j dk = partLoop lt a I0 J0 D0) ∧ (a < i ∧ i ≤ j + 1 ∧ j < b) ∧ s10 = .int .i64 (i : Int) ∧ s11 = .int .i64 (j : Int))
        case atStart => exact ⟨i2 + 1, j2 - 1, swp dk i2 j2, ⟨by obtain ⟨e1, e2, _⟩ := H0.out; have := HIJ.out; omega, HQ4.out, HZ4.out, by obtain ⟨e1, e2, e3⟩ := H0.out; rw [e1, e2, e3]⟩, HIJ.out, by go_num, by first | rfl | (congr 1; done) | (congr 1; omega)⟩
        case round =>
          clear HZ HU HW Hi Hj Hdk hu1 hu2 hw1 hw2 hij h2 hd hlt HQ4 HZ4 HIJ HJ0 H0
          obtain ⟨i, j, dk, HI, hij, rfl, rfl⟩ := hrel
          go_upto_block 6 with (fail)
          go_cut [10] (fun vv wc => ∃ i2 : Nat, vv = .int .i64 (i2 : Int) ∧ Hid (i2 = scanUp (fun x => lt x dk[a]!) dk j i ∧ SQ B St w dk wc) ∧ i ≤ i2 ∧ i2 ≤ j + 1)
          case first =>
            go_wp2_with fail
            go_loopg [10] (j + 1 - i) (fun gk ss wq => ∃ k : Nat, Hid (gk + k = j + 1 ∧ SQ B St w dk wq ∧ scanUp (fun x => lt x dk[a]!) dk j k = scanUp (fun x => lt x dk[a]!) dk j i) ∧ (i ≤ k ∧ k ≤ j + 1) ∧ ss = .int .i64 (k : Int))
            case atStart => exact ⟨i, ⟨by omega, HI.out.2.1, rfl⟩, ⟨Nat.le_refl _, hij.2.1⟩, rfl⟩
            case round =>
              obtain ⟨k, HJ, hk, rfl⟩ := hrel
              by_cases hkj : k ≤ j
              · have hd : decide (k ≤ j) = true := decide_eq_true hkj
                have HL := Lib.hid (HK.out.less HJ.out.2.1.1 HI.out.2.2.1 k a (by omega) (by omega))
                go_wp2_with fail
                refine HL.out.mono ?_
                rintro e w3 ⟨rfl, hf3⟩
                have HQ3 := Lib.hid (HJ.out.2.1.read HK.out hf3)
                clear hf3 HL
                cases hlv : lt dk[k]! dk[a]! with
                | true =>
                  have HG := Lib.hid (show scanUp (fun x => lt x dk[a]!) dk j (k + 1) = scanUp (fun x => lt x dk[a]!) dk j i by rw [← HJ.out.2.2]; exact (scanUp_go (fun x => lt x dk[a]!) dk j k hkj (by simp [hlv])).symm)
                  clear hlv
                  go_wp2_with fail
                  go_roundg (gk - 1)
                  case measure => have := HJ.out.1; omega
                  case rel => exact ⟨k + 1, ⟨by have := HJ.out.1; omega, HQ3.out, HG.out⟩, ⟨by omega, by omega⟩, by go_num⟩
                | false =>
                  have HG := Lib.hid (show k = scanUp (fun x => lt x dk[a]!) dk j i by rw [← HJ.out.2.2]; exact (scanUp_end (fun x => lt x dk[a]!) dk j k (.inr (by simp [hlv]))).symm)
                  clear hlv
                  go_wp2_with fail
                  go_meet
                  exact ⟨k, rfl, Lib.hid ⟨HG.out, HQ3.out⟩, by omega, by omega⟩
              · have hd : decide (k ≤ j) = false := decide_eq_false hkj
                have HG := Lib.hid (show k = scanUp (fun x => lt x dk[a]!) dk j i by rw [← HJ.out.2.2]; exact (scanUp_end (fun x => lt x dk[a]!) dk j k (.inl hkj)).symm)
                go_wp2_with fail
                go_meet
                exact ⟨k, rfl, Lib.hid ⟨HG.out, HJ.out.2.1⟩, by omega, by omega⟩
          case rest =>
            obtain ⟨i2, rfl, HU, hu1, hu2⟩ := hcut
            go_upto_block 8 with (fail)
            go_cut [11] (fun vv wc => ∃ j2 : Nat, vv = .int .i64 (j2 : Int) ∧ Hid (j2 = scanDown (fun x => !lt x dk[a]!) dk i2 j ∧ SQ B St w dk wc) ∧ i2 ≤ j2 + 1 ∧ j2 ≤ j)
            case first =>
              go_wp2_with fail
              go_loopg [11] (j + 1) (fun gk ss wq => ∃ k : Nat, Hid (gk = k + 1 ∧ SQ B St w dk wq ∧ scanDown (fun x => !lt x dk[a]!) dk i2 k = scanDown (fun x => !lt x dk[a]!) dk i2 j) ∧ (i2 ≤ k + 1 ∧ k ≤ j) ∧ ss = .int .i64 (k : Int))
              case atStart => exact ⟨j, ⟨rfl, HU.out.2, rfl⟩, ⟨by omega, Nat.le_refl _⟩, rfl⟩
              case round =>
                obtain ⟨k, HJ, hk, rfl⟩ := hrel
                by_cases hkj : i2 ≤ k
                · have hd : decide (i2 ≤ k) = true := decide_eq_true hkj
                  have HL := Lib.hid (HK.out.less HJ.out.2.1.1 HI.out.2.2.1 k a (by omega) (by omega))
                  go_wp2_with fail
                  refine HL.out.mono ?_
                  rintro e w3 ⟨rfl, hf3⟩
                  have HQ3 := Lib.hid (HJ.out.2.1.read HK.out hf3)
                  clear hf3 HL
                  cases hlv : lt dk[k]! dk[a]! with
                  | false =>
                    have HG := Lib.hid (show scanDown (fun x => !lt x dk[a]!) dk i2 (k - 1) = scanDown (fun x => !lt x dk[a]!) dk i2 j by rw [← HJ.out.2.2]; exact (scanDown_go (fun x => !lt x dk[a]!) dk i2 k hkj (by omega) (by simp [hlv])).symm)
                    clear hlv
                    go_wp2_with fail
                    go_roundg (gk - 1)
                    case measure => have := HJ.out.1; omega
                    case rel => exact ⟨k - 1, ⟨by have := HJ.out.1; omega, HQ3.out, HG.out⟩, ⟨by omega, by omega⟩, by congr 1; omega⟩
                  | true =>
                    have HG := Lib.hid (show k = scanDown (fun x => !lt x dk[a]!) dk i2 j by rw [← HJ.out.2.2]; exact (scanDown_end (fun x => !lt x dk[a]!) dk i2 k (.inr (by simp [hlv]))).symm)
                    clear hlv
                    go_wp2_with fail
                    go_meet
                    exact ⟨k, rfl, Lib.hid ⟨HG.out, HQ3.out⟩, by omega, by omega⟩
                · have hd : decide (i2 ≤ k) = false := decide_eq_false hkj
                  have HG := Lib.hid (show k = scanDown (fun x => !lt x dk[a]!) dk i2 j by rw [← HJ.out.2.2]; exact (scanDown_end (fun x => !lt x dk[a]!) dk i2 k (.inl hkj)).symm)
                  go_wp2_with fail
                  go_meet
                  exact ⟨k, rfl, Lib.hid ⟨HG.out, HJ.out.2.1⟩, by omega, by omega⟩
            case rest =>
              obtain ⟨j2, rfl, HW, hw1, hw2⟩ := hcut
              by_cases h2 : j2 < i2
              · have hd : decide (j2 < i2) = true := decide_eq_true h2
                have HG := Lib.hid (show (j2, dk) = partLoop lt a I0 J0 D0 by rw [← HI.out.2.2.2]; exact (part_break lt a i j dk HU.out.1 HW.out.1 h2).symm)
                have HS2 := Lib.hid (HK.out.swap HW.out.2.1 HI.out.2.2.1 j2 a (by omega) (by omega))
                go_wp2_with fail
                refine HS2.out.mono ?_
                rintro e w4 ⟨rfl, hs4, hf4⟩
                have HQ4 := Lib.hid (HW.out.2.turn ⟨hs4, hf4⟩)
                clear hs4 hf4 HS2
                go_wp2_with fail
                go_ret2
                rw [PF.out, ← HG.out]
                exact ⟨rfl, HQ4.out⟩
              · have hd : decide (j2 < i2) = false := decide_eq_false h2
                have hlt := part_scans_lt lt a i j dk (by omega) HU.out.1 HW.out.1 (by omega)
                have HG := Lib.hid (show partLoop lt a (i2 + 1) (j2 - 1) (swp dk i2 j2) = partLoop lt a I0 J0 D0 by rw [← HI.out.2.2.2]; exact (part_go lt a i j dk HU.out.1 HW.out.1 (by omega)).symm)
                have HS2 := Lib.hid (HK.out.swap HW.out.2.1 HI.out.2.2.1 i2 j2 (by omega) (by omega))
                go_wp2_with fail
                refine HS2.out.mono ?_
                rintro e w4 ⟨rfl, hs4, hf4⟩
                have HQ4 := Lib.hid (HW.out.2.turn ⟨hs4, hf4⟩)
                clear hs4 hf4 HS2
                go_wp2_with fail
                go_roundg (j2 - 1 - i2)
                case measure => have := HI.out.1; omega
                case rel => exact ⟨i2 + 1, j2 - 1, swp dk i2 j2, ⟨by omega, HQ4.out, by rw [size_swp]; exact HI.out.2.2.1, HG.out⟩, ⟨by omega, by omega, by omega⟩, by go_num, by congr 1; omega⟩
end
end Go.Proofs.YtkcnodkojllobaaDoor.Srt
