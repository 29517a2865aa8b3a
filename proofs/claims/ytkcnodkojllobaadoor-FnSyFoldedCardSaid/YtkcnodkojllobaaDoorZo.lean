/- The law FnSyFolded: the walk. -/
import Derived.Test.YtkcnodkojllobaaDoorZn
namespace Go.Proofs.YtkcnodkojllobaaDoor.Fld
open Go Go.RowKit Go.Proofs.YtkcnodkojllobaaDoor.EvN Go.Proofs.YtkcnodkojllobaaDoor.Row Go.Proofs.YtkcnodkojllobaaDoor.PFnSyFolded Go.Proofs.YtkcnodkojllobaaDoorW.PrintWords Go.Proofs.YtkcnodkojllobaaDoorW.PrintLast Go.Proofs.YtkcnodkojllobaaDoorW.PrintMore
open Go.Proofs.YtkcnodkojllobaaDoor.Sf (it Folds orbit it_le)
set_option linter.unusedVariables false
set_option linter.unusedSimpArgs false

/-- What the law wants to be in. -/
def wantB (P : List (Int × Int)) (r a b m : Nat) : Bool := inB P (r : Int) || (List.range m).any fun j => decide (a ≤ it j r) && decide (it j r ≤ b)
theorem want_iff {P : List (Int × Int)} {r a b m : Nat} (m1 : 1 ≤ m) (m3 : it m r = r) : wantB P r a b m = true ↔ (inB P (r : Int) = true ∨ ∃ n, a ≤ it n r ∧ it n r ≤ b) := by
  unfold wantB
  rw [Bool.or_eq_true, List.any_eq_true]
  constructor
  · rintro (h | ⟨j, _, h⟩)
    · exact .inl h
    · simp only [Bool.and_eq_true, decide_eq_true_eq] at h; exact .inr ⟨j, h⟩
  · rintro (h | ⟨n, h⟩)
    · exact .inl h
    · refine .inr ⟨n % m, List.mem_range.2 (Nat.mod_lt _ m1), ?_⟩
      rw [← it_mod m3 n]
      simp only [Bool.and_eq_true, decide_eq_true_eq]
      exact h
theorem want_succ (P : List (Int × Int)) (r a b k : Nat) : wantB P r a b (k + 1) = (wantB P r a b k || (decide (a ≤ it k r) && decide (it k r ≤ b))) := by
  unfold wantB
  rw [List.range_succ, List.any_append, Bool.or_assoc]
  simp
set_option maxRecDepth 100000 in
set_option maxHeartbeats 8000000 in
theorem law_calls (l : List Int) (A : Option Addr) (c : Nat) (w : World) (hK : Kd.C (Kd.int .i32) w A l.length l) (hc : l.length ≤ c) (lo hi ch : Int) (hlo : -2147483648 ≤ lo ∧ lo ≤ 2147483647) (hhi : -2147483648 ≤ hi ∧ hi ≤ 2147483647) (hch : -2147483648 ≤ ch ∧ ch ≤ 2147483647) (hF : Folds w) :
    Calls Tryd.prog 3 #[.slice A l.length c, .int .i32 lo, .int .i32 hi, .int .i32 ch] w fun e w' => e = .returned (.bool true) ∧ Below w.heap.size w w' := by
  have HK := Lib.hid hK
  have HF := Lib.hid hF
  have HLM := Lib.hid (show l.length ≤ 9223372036854775807 from hK.2.1)
  obtain ⟨n, hn⟩ : ∃ n, n = l.length := ⟨_, rfl⟩
  have HN := Lib.hid hn
  rw [← hn] at hc ⊢
  clear hK hF hn
  go_enter Tryd.func3, Tryd.ntmps3
  by_cases hz : 2147483647 < n
  · have d0 : decide (2147483647 < n) = true := decide_eq_true hz
    go_wp2_with fail
    go_ret
    exact ⟨rfl, Below.refl _ _⟩
  · have d0 : decide ((2147483647 : Int) < (n : Int)) = false := decide_eq_false (by omega)
    have hsp := laws_syPairs.calls (l.length + 1) A c l (allB l && decide ((l.length : Int) ≤ 200)) w HK.out (by rw [← HN.out]; exact hc) (pairs_f l (by rw [← HN.out]; omega))
    rw [← HN.out] at hsp
    have HSP := Lib.hid hsp
    clear hsp
    go_wp2_with fail
    refine HSP.out.mono ?_
    rintro e w1 ⟨rfl, hd1⟩
    have HB1 := Lib.hid hd1.below
    clear hd1 HSP
    cases hb1 : (allB l && decide ((n : Int) ≤ 200)) with
    | false =>
      go_wp2_with fail
      go_ret
      exact ⟨rfl, HB1.out⟩
    | true =>
      rw [Bool.and_eq_true, decide_eq_true_eq] at hb1
      have hall := hb1.1
      have hn200 : n ≤ 200 := by have := hb1.2; omega
      have hK1 := Kd.C_below HK.out HB1.out
      have hsr : ∃ b2 P, spec_SyRange.f (l.length + 1) l = some b2 ∧ (b2 = true → l = flat P ∧ (∀ p ∈ P, okP p) ∧ 2 * P.length = n) := by
        by_cases he : l.length % 2 = 0
        · obtain ⟨P, hP, hPl⟩ := unflat (l.length / 2) l (by omega)
          have hv : ∀ p ∈ P, -2000000000 ≤ p.2 ∧ p.2 ≤ 2000000000 := fun p hp => by
            obtain ⟨i, hi, rfl⟩ := List.mem_iff_getElem.1 hp
            have hm := List.mem_of_getElem? (flat_get P i hi).2
            rw [← hP] at hm
            have := List.all_eq_true.1 hall _ hm
            simp only [Bool.and_eq_true, decide_eq_true_eq] at this
            omega
          have hr := range_f P (by have := HN.out; omega) hv
          have hf2 : ∀ k : Nat, P.length < k → spec_SyRange.l0 k (flat P) 0 = some (canF none P) := fun k hk => by
            have := range_l0 P (by have := HN.out; omega) hv P.length 0 k (by omega) hk
            rwa [show ((2 * 0 : Nat) : Int) = 0 from rfl, List.drop_zero] at this
          refine ⟨canF none P, P, ?_, fun e => ⟨hP, canF_ok P none e, by have := HN.out; omega⟩⟩
          unfold spec_SyRange.f
          rw [if_pos (by omega), hP, hf2 _ (by rw [flat_len]; omega)]
        · exact ⟨false, [], by unfold spec_SyRange.f; rw [if_neg (by omega)], fun e => by cases e⟩
      obtain ⟨b2, P, hf2, hP⟩ := hsr
      have hsc := spec_SyRange.calls (l.length + 1) A c l b2 w1 hK1 (by rw [← HN.out]; exact hc) hf2
      rw [← HN.out] at hsc
      have HSC := Lib.hid hsc
      have HP := Lib.hid hP
      clear hsc hf2 hK1 hall hb1 hP
      go_wp2_with fail
      refine HSC.out.mono ?_
      rintro e w2 ⟨rfl, hd2⟩
      have HB2 := Lib.hid (HB1.out.trans (hd2.below.mono HB1.out.size))
      clear hd2 HSC
      cases b2 with
      | false =>
        go_wp2_with fail
        go_ret
        exact ⟨rfl, HB2.out⟩
      | true =>
        have hPl := (HP.out rfl).2.2
        have HPO := Lib.hid (And.intro (HP.out rfl).1 (HP.out rfl).2.1)
        clear HP
        by_cases g1 : lo < 0
        · have k1 : decide (lo < 0) = true := decide_eq_true g1
          go_wp2_with fail
          go_ret
          exact ⟨rfl, HB2.out⟩
        · have k1 : decide (lo < 0) = false := decide_eq_false g1
          by_cases g2 : hi < lo
          · have k2 : decide (hi < lo) = true := decide_eq_true g2
            go_wp2_with fail
            go_ret
            exact ⟨rfl, HB2.out⟩
          · have k2 : decide (hi < lo) = false := decide_eq_false g2
            by_cases g3 : 1114111 < hi
            · have k3 : decide (1114111 < hi) = true := decide_eq_true g3
              go_wp2_with fail
              go_ret
              exact ⟨rfl, HB2.out⟩
            · have k3 : decide (1114111 < hi) = false := decide_eq_false g3
              by_cases g4 : ch < 0
              · have k4 : decide (ch < 0) = true := decide_eq_true g4
                go_wp2_with fail
                go_ret
                exact ⟨rfl, HB2.out⟩
              · have k4 : decide (ch < 0) = false := decide_eq_false g4
                by_cases g5 : 1114111 < ch
                · have k5 : decide (1114111 < ch) = true := decide_eq_true g5
                  go_wp2_with fail
                  go_ret
                  exact ⟨rfl, HB2.out⟩
                · have k5 : decide (1114111 < ch) = false := decide_eq_false g5
                  have HKW := Lib.hid (fun w' (hb : Below w.heap.size w w') => Kd.C_below HK.out hb)
                  have hsi := spec_SyIn.calls (P.length + 1) A c l ch (inB P ch) w2 (HKW.out w2 HB2.out) (by rw [← HN.out]; exact hc) (by rw [HPO.out.1]; exact syIn_f P ch (by omega))
                  rw [← HN.out] at hsi
                  have HSI := Lib.hid hsi
                  clear hsi
                  obtain ⟨a, rfl⟩ : ∃ a : Nat, lo = (a : Int) := ⟨lo.toNat, by omega⟩
                  obtain ⟨b, rfl⟩ : ∃ b : Nat, hi = (b : Int) := ⟨hi.toNat, by omega⟩
                  obtain ⟨r, rfl⟩ : ∃ r : Nat, ch = (r : Int) := ⟨ch.toNat, by omega⟩
                  obtain ⟨m, m1, m2, m3, m4, m5⟩ := orbit r (by omega)
                  have HM := Lib.hid m3
                  have HORB := Lib.hid (fun w' (hb : Below w.heap.size w w') => syOrbit_calls w' r m (by omega) m1 m2 m3 m5 (HF.out.below hb))
                  clear m3 m4 m5
                  go_wp2_with fail
                  refine HSI.out.mono ?_
                  rintro e w3 ⟨rfl, hd3⟩
                  have HB3 := Lib.hid (HB2.out.trans (hd3.below.mono HB2.out.size))
                  clear hd3 HSI
                  have HOC := Lib.hid (HORB.out w3 HB3.out)
                  go_wp2_with fail
                  refine HOC.out.mono ?_
                  rintro e w4 ⟨A4, c4, rfl, hc4, hcell, hb4⟩
                  have HB4 := Lib.hid (HB3.out.trans (hb4.mono HB3.out.size))
                  have HCE := Lib.hid hcell
                  clear hcell hb4 HOC HORB
                  have HW0 := Lib.hid (show inB P (r : Int) = wantB P r a b 0 by unfold wantB; simp)
                  go_wp2_with fail
                  go_loopg [51, 9] m (fun gk s51 s9 wr => ∃ (k : Nat) (v : Bool), Hid (gk + k = m ∧ v = wantB P r a b k ∧ wr = w4) ∧ k ≤ m ∧ s51 = .int .i64 (k : Int) ∧ s9 = .bool v)
                  case atStart => exact ⟨0, _, ⟨by omega, HW0.out, rfl⟩, Nat.zero_le _, rfl, rfl⟩
                  case round =>
                    obtain ⟨k, v, HI, hk, rfl, rfl⟩ := hrel
                    have hwr := HI.out.2.2
                    subst hwr
                    by_cases hkm : k < m
                    · have d1 : decide (k < m) = true := decide_eq_true hkm
                      obtain ⟨ad, hA, hat⟩ := HCE.out k hkm
                      subst hA
                      obtain ⟨f, hf⟩ : ∃ f, f = it k r := ⟨_, rfl⟩
                      rw [← hf] at hat
                      have HFF := Lib.hid hf
                      clear hf
                      have HWS := Lib.hid (want_succ P r a b k)
                      cases v with
                      | true =>
                        go_wp2_with fail
                        go_roundg (gk - 1)
                        case measure => have := HI.out.1; omega
                        case rel => exact ⟨k + 1, true, ⟨by have := HI.out.1; omega, by rw [HWS.out, ← HI.out.2.1]; rfl, rfl⟩, by omega, by go_num, rfl⟩
                      | false =>
                        by_cases f1 : a ≤ f
                        · have j1 : decide (a ≤ f) = true := decide_eq_true f1
                          by_cases f2 : f ≤ b
                          · have j2 : decide (f ≤ b) = true := decide_eq_true f2
                            go_wp2_with fail
                            go_roundg (gk - 1)
                            case measure => have := HI.out.1; omega
                            case rel => exact ⟨k + 1, true, ⟨by have := HI.out.1; omega, by rw [HWS.out, ← HI.out.2.1, ← HFF.out, j1, j2]; rfl, rfl⟩, by omega, by go_num, rfl⟩
                          · have j2 : decide (f ≤ b) = false := decide_eq_false f2
                            go_wp2_with fail
                            go_roundg (gk - 1)
                            case measure => have := HI.out.1; omega
                            case rel => exact ⟨k + 1, false, ⟨by have := HI.out.1; omega, by rw [HWS.out, ← HI.out.2.1, ← HFF.out, j1, j2]; rfl, rfl⟩, by omega, by go_num, rfl⟩
                        · have j1 : decide (a ≤ f) = false := decide_eq_false f1
                          go_wp2_with fail
                          go_roundg (gk - 1)
                          case measure => have := HI.out.1; omega
                          case rel => exact ⟨k + 1, false, ⟨by have := HI.out.1; omega, by rw [HWS.out, ← HI.out.2.1, ← HFF.out, j1]; rfl, rfl⟩, by omega, by go_num, rfl⟩
                    · have d1 : decide (k < m) = false := decide_eq_false hkm
                      have hkm2 : k = m := by omega
                      have HV := Lib.hid (show v = wantB P r a b m by rw [HI.out.2.1, hkm2])
                      have hsf := syFolded_calls P (by omega) HPO.out.2 a b (by omega) (by omega) A c wr (by rw [← HPO.out.1]; exact HKW.out wr HB4.out) (by rw [← HPO.out.1, ← HN.out]; exact hc) (HF.out.below HB4.out)
                      rw [← HPO.out.1, ← HN.out] at hsf
                      have HSF := Lib.hid hsf
                      clear hsf hkm2 HI
                      go_wp2_with fail
                      refine HSF.out.mono ?_
                      rintro e w6 ⟨A6, c6, R, rfl, hc6, hk6, hcan, hRl, hin, hb6⟩
                      have HB6 := Lib.hid (HB4.out.trans (hb6.mono HB4.out.size))
                      have hrc := spec_SyRange.calls (R.length + 1) A6 c6 (flat R) true w6 hk6 hc6 (by rw [range_f R (by omega) (fun p hp => by have := hcan.1 p hp; unfold okP at this; omega), canF_of R none hcan (fun h p e => by cases e)])
                      have HRC := Lib.hid hrc
                      have HK6 := Lib.hid hk6
                      have HIN := Lib.hid (show inB R (r : Int) = v by
                        rw [HV.out, Bool.eq_iff_iff, want_iff m1 HM.out]
                        exact hin r (by omega))
                      have HC6 := Lib.hid hc6
                      obtain ⟨q, hq⟩ : ∃ q, q = (flat R).length := ⟨_, rfl⟩
                      have HQ := Lib.hid hq
                      rw [← hq] at hrc ⊢
                      have HRC2 := Lib.hid hrc
                      clear hk6 hcan hin hb6 hrc hc6 hq HSF HRC
                      go_wp2_with fail
                      refine HRC2.out.mono ?_
                      rintro e w7 ⟨rfl, hd7⟩
                      have hsi := spec_SyIn.calls (R.length + 1) A6 c6 (flat R) (r : Int) v w7 (Kd.C_below HK6.out hd7.below) HC6.out (by rw [syIn_f R _ (by omega), HIN.out])
                      rw [← HQ.out] at hsi
                      have HSI := Lib.hid hsi
                      have HB7 := Lib.hid (HB6.out.trans (hd7.below.mono HB6.out.size))
                      clear hsi hd7 HRC2
                      go_wp2_with fail
                      refine HSI.out.mono ?_
                      rintro e w8 ⟨rfl, hd8⟩
                      have HB8 := Lib.hid (HB7.out.trans (hd8.below.mono HB7.out.size))
                      clear hd8 HSI HIN HV
                      cases v <;>
                        (go_wp2_with fail
                         go_ret
                         exact ⟨rfl, HB8.out⟩)
end Go.Proofs.YtkcnodkojllobaaDoor.Fld
