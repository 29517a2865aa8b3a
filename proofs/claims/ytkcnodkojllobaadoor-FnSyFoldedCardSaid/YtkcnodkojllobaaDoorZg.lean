/- sort.pdqsort, sort.Sort over a state that is known by what Less and Swap do to it: sorted, a permutation. -/
import Derived.Test.YtkcnodkojllobaaDoorZb
import Derived.Test.YtkcnodkojllobaaDoorZc
import Derived.Test.YtkcnodkojllobaaDoorZd
import Derived.Test.YtkcnodkojllobaaDoorZe
import Derived.Test.YtkcnodkojllobaaDoorZf
import Derived.Sort.LotD3
import Derived.Sort.LotD4
namespace Go.Proofs.YtkcnodkojllobaaDoor.Srt
open Go Go.RowKit Go.Sort Go.Proofs.YtkcnodkojllobaaDoor.Row Go.Proofs.YtkcnodkojllobaaDoorW.PrintWords Go.Proofs.YtkcnodkojllobaaDoorW.PrintLast Go.Proofs.YtkcnodkojllobaaDoorW.PrintMore
set_option linter.unusedVariables false
set_option linter.unusedSimpArgs false

section
variable {α : Type} [Inhabited α] {N B hb : Nat} {lt : α → α → Bool} {St : Array α → World → Prop}
/-- A part is sorted. -/
def Srtd (lt : α → α → Bool) (B : Nat) (St : Array α → World → Prop) (a b : Nat) (d : Array α) (w w' : World) : Prop := ∃ d', PermIn a b d d' ∧ SortedIn lt a b d' ∧ SQ B St w d' w'
set_option maxRecDepth 100000 in
set_option maxHeartbeats 8000000 in
theorem pdqsort_calls (h : SK N B hb lt St) : ∀ (n a b limit : Nat) (d : Array α) (w : World), b - a < n → St d w → d.size = N → a ≤ b → b ≤ N → limit ≤ 1000 → Sort.Below lt a b d →
    Calls Tryd.prog 21 #[.iface 44 (RV hb), .int .i64 (a : Int), .int .i64 (b : Int), .int .i64 (limit : Int)] w fun e w' => e = .returned (.tuple #[]) ∧ Srtd lt B St a b d w w' := by
  have hNs := h.small
  have HK := Lib.hid h
  have HO := Lib.hid h.swo
  have mL := method_less hb
  clear h
  intro n
  induction n with
  | zero => intro a b limit d w h; omega
  | succ n ih =>
    intro a b limit d w hn hs hd hab hbN hlim hBl
    have IH := Lib.hid ih
    have HS := Lib.hid hs
    have HD := Lib.hid hd
    have HBL := Lib.hid hBl
    clear ih hs hd hBl
    go_enter Tryd.func21, Tryd.ntmps21
    go_wp2_with fail
    go_loopg [1, 2, 3, 8, 9] (b - a) (fun gk s1 s2 s3 s8 s9 wr => ∃ (a' b' lim : Nat) (wb wp : Bool) (dk : Array α), Hid (b' - a' ≤ gk ∧ gk ≤ b - a ∧ SQ B St w dk wr ∧ dk.size = N ∧ Sort.Below lt a' b' dk ∧ (∀ R, PermIn a' b' dk R → SortedIn lt a' b' R → PermIn a b d R ∧ SortedIn lt a b R)) ∧ (a' ≤ b' ∧ b' ≤ N ∧ lim ≤ 1000) ∧
      s1 = .int .i64 (a' : Int) ∧ s2 = .int .i64 (b' : Int) ∧ s3 = .int .i64 (lim : Int) ∧ s8 = .bool wb ∧ s9 = .bool wp)
    case atStart => exact ⟨a, b, limit, true, true, d, ⟨Nat.le_refl _, Nat.le_refl _, SQ.refl HS.out, HD.out, HBL.out, fun R h1 h2 => ⟨h1, h2⟩⟩, ⟨hab, hbN, hlim⟩, rfl, rfl, rfl, rfl, rfl⟩
    case round =>
      obtain ⟨a', b', lim, wb, wp, dk, HI, hab', rfl, rfl, rfl, rfl, rfl⟩ := hrel
      by_cases h12 : b' - a' ≤ 12
      · have d12 : decide ((b' : Int) - (a' : Int) ≤ 12) = true := decide_eq_true (by omega)
        have HC := Lib.hid (insertionSort_calls HK.out a' b' dk wr HI.out.2.2.1.1 HI.out.2.2.2.1 hab'.1 hab'.2.1)
        go_wp2_with fail
        refine HC.out.mono ?_
        rintro e w1 ⟨rfl, hq1⟩
        obtain ⟨i1, i2⟩ := insertionSort_holds HO.out dk a' b' hab'.1 (by rw [HI.out.2.2.2.1]; exact hab'.2.1)
        have HR := Lib.hid (show Srtd lt B St a b d w w1 from ⟨_, (HI.out.2.2.2.2.2 _ i1 i2).1, (HI.out.2.2.2.2.2 _ i1 i2).2, HI.out.2.2.1.turn hq1⟩)
        clear hq1 HC i1 i2
        go_wp2_with fail
        (try simp only [Exit.inBlock, Exit.then]); refine bodyPost_ret (results_none rfl _ _ _) rfl ?_
        exact ⟨rfl, HR.out⟩
      · have d12 : decide ((b' : Int) - (a' : Int) ≤ 12) = false := decide_eq_false (by omega)
        by_cases hl0 : lim = 0
        · subst hl0
          have HC := Lib.hid (heapSort_calls HK.out a' b' dk wr HI.out.2.2.1.1 HI.out.2.2.2.1 (by omega) hab'.2.1)
          go_wp2_with fail
          refine HC.out.mono ?_
          rintro e w1 ⟨rfl, hq1⟩
          obtain ⟨i1, i2⟩ := heapSort_holds HO.out dk a' b' hab'.1 (by rw [HI.out.2.2.2.1]; exact hab'.2.1)
          have HR := Lib.hid (show Srtd lt B St a b d w w1 from ⟨_, (HI.out.2.2.2.2.2 _ i1 i2).1, (HI.out.2.2.2.2.2 _ i1 i2).2, HI.out.2.2.1.turn hq1⟩)
          clear hq1 HC i1 i2
          go_wp2_with fail
          (try simp only [Exit.inBlock, Exit.then]); refine bodyPost_ret (results_none rfl _ _ _) rfl ?_
          exact ⟨rfl, HR.out⟩
        · have dl : ((lim : Int) == 0) = false := by rw [beq_eq_false_iff_ne]; omega
          go_upto_if 35 with (fail)
          go_cut [3] (fun s3 wc => ∃ (lim1 : Nat) (d1 : Array α), s3 = .int .i64 (lim1 : Int) ∧ Hid (PermIn a' b' dk d1 ∧ SQ B St w d1 wc) ∧ lim1 ≤ 1000)
          case first =>
            cases wb with
            | true =>
              go_wp2_with fail
              go_meet
              exact ⟨lim, dk, rfl, Lib.hid ⟨permIn_refl _ _ _, HI.out.2.2.1⟩, hab'.2.2⟩
            | false =>
              have HC := Lib.hid (breakPatterns_calls HK.out a' b' dk wr HI.out.2.2.1.1 HI.out.2.2.2.1 (by omega) hab'.2.1)
              go_wp2_with fail
              refine HC.out.mono ?_
              rintro e w1 ⟨rfl, d1, hp1, hq1⟩
              have HQ1 := Lib.hid (And.intro hp1 (HI.out.2.2.1.turn hq1))
              clear hp1 hq1 HC
              go_wp2_with fail
              go_meet
              exact ⟨lim - 1, d1, by congr 1; omega, HQ1, by omega⟩
          case rest =>
            obtain ⟨lim1, d1, rfl, H1, hlim1⟩ := hcut
            have HZ1 := Lib.hid (show d1.size = N from H1.out.1.1.trans HI.out.2.2.2.1)
            have HC := Lib.hid (choosePivot_calls HK.out a' b' d1 wc H1.out.2.1 HZ1.out (by omega) hab'.2.1)
            go_upto_if 50 with (go_at_call 27; refine HC.out.mono ?_; rintro e w2 ⟨x0, hint, rfl, hx0, hhint, hq2⟩)
            have HQ2 := Lib.hid (H1.out.2.turn hq2)
            have HP1 := Lib.hid H1.out.1
            clear hq2 HC H1
            go_cut [11, 12] (fun s11 s12 wd => ∃ (x1 : Nat) (hint1 : Int) (d2 : Array α), s11 = .int .i64 (x1 : Int) ∧ s12 = .int .i64 hint1 ∧ Hid (PermIn a' b' dk d2 ∧ SQ B St w d2 wd) ∧ a' ≤ x1 ∧ x1 < b')
            case first =>
              by_cases h2 : hint = 2
              · have dh : (hint == 2) = true := beq_iff_eq.2 h2
                have HC := Lib.hid (reverseRange_calls HK.out a' b' d1 w2 HQ2.out.1 HZ1.out (by omega) hab'.2.1)
                clear hhint h2
                go_wp2_with fail
                refine HC.out.mono ?_
                rintro e w3 ⟨rfl, d2, hp2, hq3⟩
                have HQ3 := Lib.hid (And.intro (permIn_trans _ _ _ a' b' HP1.out hp2) (HQ2.out.turn hq3))
                clear hp2 hq3 HC
                go_wp2_with fail
                go_meet
                exact ⟨b' - 1 - (x0 - a'), 1, d2, by congr 1; omega, rfl, HQ3, by omega, by omega⟩
              · have dh : (hint == 2) = false := beq_eq_false_iff_ne.2 h2
                clear hhint h2
                go_wp2_with fail
                go_meet
                exact ⟨x0, hint, d1, rfl, rfl, Lib.hid ⟨HP1.out, HQ2.out⟩, hx0.1, hx0.2⟩
            case rest =>
              obtain ⟨x1, hint1, d2, rfl, rfl, H2, hx1, hx2⟩ := hcut
              clear hhint hx0 HQ2 HP1 HZ1
              have HZ2 := Lib.hid (show d2.size = N from H2.out.1.1.trans HI.out.2.2.2.1)
              go_upto_region 15 with (fail)
              go_cut [68] (fun v68 wx => ∃ v : Bool, v68 = .bool v ∧ Hid (wx = wc))
              case first =>
                have hdec : (hint1 == 1) = true ∨ (hint1 == 1) = false := by cases (hint1 == 1) <;> simp
                have HDC := Lib.hid hdec
                clear hdec
                cases wb <;> cases wp <;> rcases HDC.out with hdc | hdc <;>
                  (go_wp2_with fail
                   go_meet
                   exact ⟨_, rfl, Lib.hid rfl⟩)
              case rest =>
                obtain ⟨v, rfl, hwx⟩ := hcut
                have hwx2 := hwx.out
                subst hwx2
                clear hwx
                go_upto_if 68 with (fail)
                go_cut [] (fun wx => ∃ d3 : Array α, Hid (PermIn a' b' dk d3 ∧ SQ B St w d3 wx))
                case first =>
                  cases v with
                  | false =>
                    go_wp2_with fail
                    go_meet
                    exact ⟨d2, H2⟩
                  | true =>
                    have HC := Lib.hid (partialInsertionSort_calls HK.out a' b' d2 _ H2.out.2.1 HZ2.out (by omega) hab'.2.1)
                    obtain ⟨i1, i2⟩ := partialInsertionSort_holds HO.out d2 a' b' (by omega) (by rw [HZ2.out]; exact hab'.2.1) (HI.out.2.2.2.2.1.perm (by rw [HI.out.2.2.2.1]; exact hab'.2.1) H2.out.1)
                    have HI1 := Lib.hid (permIn_trans _ _ _ a' b' H2.out.1 i1)
                    have HI2 := Lib.hid i2
                    clear i1 i2
                    go_wp2_with fail
                    refine HC.out.mono ?_
                    rintro e w4 ⟨rfl, hq4⟩
                    have HQ4 := Lib.hid (H2.out.2.turn hq4)
                    clear hq4 HC
                    cases hp : (partialInsertionSort lt d2 a' b').2 with
                    | false =>
                      go_wp2_with fail
                      go_meet
                      exact ⟨_, Lib.hid ⟨HI1.out, HQ4.out⟩⟩
                    | true =>
                      have HR := Lib.hid (show Srtd lt B St a b d w w4 from ⟨_, (HI.out.2.2.2.2.2 _ HI1.out (HI2.out hp)).1, (HI.out.2.2.2.2.2 _ HI1.out (HI2.out hp)).2, HQ4.out⟩)
                      clear hp
                      go_wp2_with fail
                      (try simp only [Exit.inBlock, Exit.then]); refine bodyPost_ret (results_none rfl _ _ _) rfl ?_
                      exact ⟨rfl, HR.out⟩
                case rest =>
                  obtain ⟨d3, H3⟩ := hcut
                  clear H2 HZ2
                  have HZ3 := Lib.hid (show d3.size = N from H3.out.1.1.trans HI.out.2.2.2.1)
                  have HB3 := Lib.hid (HI.out.2.2.2.2.1.perm (by rw [HI.out.2.2.2.1]; exact hab'.2.1) H3.out.1)
                  go_upto_region 17 with (fail)
                  go_cut [82] (fun s82 wx => ∃ u : Bool, s82 = .bool u ∧ Hid (SQ B St w d3 wx ∧ (u = true → 0 < a' ∧ lt d3[a' - 1]! d3[x1]! = false)))
                  case first =>
                    by_cases ha0 : 0 < a'
                    · have d0 : decide (0 < a') = true := decide_eq_true ha0
                      have hl := HK.out.less H3.out.2.1 HZ3.out (a' - 1) x1 (by omega) (by omega)
                      rw [show ((a' - 1 : Nat) : Int) = (a' : Int) - 1 by omega] at hl
                      have HL := Lib.hid hl
                      clear hl
                      go_wp2_with fail
                      refine HL.out.mono ?_
                      rintro e w5 ⟨rfl, hf5⟩
                      have HQ5 := Lib.hid (H3.out.2.read HK.out hf5)
                      clear hf5 HL
                      go_wp2_with fail
                      go_meet
                      exact ⟨_, rfl, Lib.hid ⟨HQ5.out, fun e => ⟨ha0, by simpa using e⟩⟩⟩
                    · have d0 : decide (0 < a') = false := decide_eq_false ha0
                      go_wp2_with fail
                      go_meet
                      exact ⟨_, rfl, Lib.hid ⟨H3.out.2, fun e => by cases e⟩⟩
                  case rest =>
                    obtain ⟨u, rfl, H5⟩ := hcut
                    have hbz : b' ≤ d3.size := by rw [HZ3.out]; exact hab'.2.1
                    cases u with
                    | true =>
                      obtain ⟨mid, d4, hx⟩ : ∃ mid d4, partitionEqual lt d3 a' b' x1 = (mid, d4) := ⟨_, _, rfl⟩
                      obtain ⟨r1, r2, r3, r4, r5⟩ := round_eq HO.out (partitionEqual_holds lt) (H5.out.2 rfl).1 hx1 hx2 hbz HB3.out (H5.out.2 rfl).2 hx
                      have hc := partitionEqual_calls HK.out a' b' x1 d3 _ H5.out.1.1 HZ3.out hx1 hx2 hab'.2.1
                      rw [hx] at hc
                      have HC := Lib.hid hc
                      have HR5 := Lib.hid r5
                      have HR4 := Lib.hid (And.intro r3 r4)
                      clear hx hc r5 r4 r3
                      go_wp2_with fail
                      refine HC.out.mono ?_
                      rintro e w6 ⟨rfl, hq6⟩
                      have HQ6 := Lib.hid (H5.out.1.turn hq6)
                      clear hq6 HC
                      go_wp2_with fail
                      go_roundg (b' - mid)
                      case measure => have := HI.out.1; omega
                      case rel => exact ⟨mid, b', lim1, wb, wp, d4, ⟨Nat.le_refl _, by have := HI.out.1; have := HI.out.2.1; omega, HQ6.out, HR4.out.1.trans HZ3.out, HR4.out.2, fun R h1 h2 => HI.out.2.2.2.2.2 R (permIn_trans _ _ _ a' b' H3.out.1 (HR5.out R h1 h2).1) (HR5.out R h1 h2).2⟩, ⟨by omega, by omega, hlim1⟩, rfl, rfl, rfl, rfl, rfl⟩
                    | false =>
                      obtain ⟨mid, ap, d4, hx⟩ : ∃ mid ap d4, partition lt d3 a' b' x1 = (mid, ap, d4) := ⟨_, _, _, rfl⟩
                      obtain ⟨r1, r2, r3, r4, r5, r6, r7⟩ := round_part HO.out (partition_holds lt) hx1 hx2 hbz HB3.out hx
                      have hc := partition_calls HK.out a' b' x1 d3 _ H5.out.1.1 HZ3.out hx1 hx2 hab'.2.1
                      rw [hx] at hc
                      have HC := Lib.hid hc
                      have HR := Lib.hid (And.intro r3 (And.intro r4 (And.intro r5 (And.intro r6 r7))))
                      clear hx hc r3 r4 r5 r6 r7
                      go_upto_if 108 with (go_at_call 31; refine HC.out.mono ?_; rintro e w6 ⟨rfl, hq6⟩)
                      have HQ6 := Lib.hid (H5.out.1.turn hq6)
                      have HZ4 := Lib.hid (show d4.size = N from HR.out.1.trans HZ3.out)
                      clear hq6 HC H5
                      have hn1 : b' - a' ≤ n := by have := HI.out.1; have := HI.out.2.1; omega
                      by_cases h4 : mid - a' < b' - mid
                      · have d4' : decide ((mid : Int) - (a' : Int) < (b' : Int) - (mid : Int)) = true := decide_eq_true (by omega)
                        have HRC := Lib.hid (IH.out a' mid lim1 d4 w6 (by omega) HQ6.out.1 HZ4.out r1 (by omega) hlim1 HR.out.2.1)
                        go_wp2_with fail
                        refine HRC.out.mono ?_
                        rintro e w7 ⟨rfl, d5, hp5, hs5, hq7⟩
                        have HQ7 := Lib.hid (HQ6.out.turn hq7)
                        have HG := Lib.hid (HR.out.2.2.2.1 d5 hp5 hs5)
                        have HZ5 := Lib.hid (show d5.size = N from hp5.1.trans HZ4.out)
                        clear hp5 hs5 hq7 HRC
                        go_wp2_with fail
                        go_roundg (b' - (mid + 1))
                        case measure => have := HI.out.1; omega
                        case rel => exact ⟨mid + 1, b', lim1, _, ap, d5, ⟨Nat.le_refl _, by have := HI.out.1; have := HI.out.2.1; omega, HQ7.out, HZ5.out, HG.out.1, fun R h1 h2 => HI.out.2.2.2.2.2 R (permIn_trans _ _ _ a' b' H3.out.1 (HG.out.2 R h1 h2).1) (HG.out.2 R h1 h2).2⟩, ⟨by omega, by omega, hlim1⟩, by go_num, rfl, rfl, rfl, rfl⟩
                      · have d4' : decide ((mid : Int) - (a' : Int) < (b' : Int) - (mid : Int)) = false := decide_eq_false (by omega)
                        have hrc := IH.out (mid + 1) b' lim1 d4 w6 (by omega) HQ6.out.1 HZ4.out (by omega) (by omega) hlim1 HR.out.2.2.1
                        rw [show ((mid + 1 : Nat) : Int) = (mid : Int) + 1 by push_cast; rfl] at hrc
                        have HRC := Lib.hid hrc
                        clear hrc
                        go_wp2_with fail
                        refine HRC.out.mono ?_
                        rintro e w7 ⟨rfl, d5, hp5, hs5, hq7⟩
                        have HQ7 := Lib.hid (HQ6.out.turn hq7)
                        have HG := Lib.hid (HR.out.2.2.2.2 d5 hp5 hs5)
                        have HZ5 := Lib.hid (show d5.size = N from hp5.1.trans HZ4.out)
                        clear hp5 hs5 hq7 HRC
                        go_wp2_with fail
                        go_roundg (mid - a')
                        case measure => have := HI.out.1; omega
                        case rel => exact ⟨a', mid, lim1, _, ap, d5, ⟨Nat.le_refl _, by have := HI.out.1; have := HI.out.2.1; omega, HQ7.out, HZ5.out, HG.out.1, fun R h1 h2 => HI.out.2.2.2.2.2 R (permIn_trans _ _ _ a' b' H3.out.1 (HG.out.2 R h1 h2).1) (HG.out.2 R h1 h2).2⟩, ⟨by omega, by omega, hlim1⟩, rfl, rfl, rfl, rfl, rfl⟩
end
end Go.Proofs.YtkcnodkojllobaaDoor.Srt
