import Derived.Test.YteoljppcafakpaaDoorJaFnPgSpan
namespace Go.Proofs.YteoljppcafakpaaDoor.PgFnPgSpan
open Go.RowKit Go.Proofs.YteoljppcafakpaaDoor.EvN Go.Proofs.YteoljppcafakpaaDoor.Row Go.Proofs.YteoljppcafakpaaDoor.Sf Go.Proofs.YteoljppcafakpaaDoor.PFnPgSpan Go.Proofs.YteoljppcafakpaaDoorW.PrintWords Go.Proofs.YteoljppcafakpaaDoorW.PrintLast Go.Proofs.YteoljppcafakpaaDoorW.PrintMore
set_option linter.unusedSimpArgs false
set_option linter.unusedVariables false
def MrP (b : Bool) (w : World) (e : Ending) (w' : World) : Prop := ∃ v : Int, e = .returned (.int .i64 v) ∧ (v != -1) = b ∧ ∃ n, w' = w.drewN n
theorem MrP.no {b : Bool} (h : b = false) (w : World) (n : Nat) : MrP b w (.returned (.int .i64 (-1))) (w.drewN n) := ⟨-1, rfl, by rw [h]; rfl, n, rfl⟩
theorem MrP.yes {b : Bool} (h : b = true) (w : World) (n : Nat) (v : Int) (hv : 0 ≤ v) : MrP b w (.returned (.int .i64 v)) (w.drewN n) := ⟨v, rfl, by rw [h, bne_iff_ne]; omega, n, rfl⟩
theorem add_succ (a : Addr) (k : Nat) : a.add (k + 1) = ⟨a.block, a.off + (k + 1), none⟩ := by unfold Addr.add; split <;> simp_all
set_option maxRecDepth 100000 in
set_option maxHeartbeats 4000000 in
theorem mrpos_calls (ip : Addr) (i : I) (h : Tak7 i) (w : World) (A3 : Option Addr) (c3 : Nat) (hx2 : w.cell? ⟨ip.block, ip.off + 2, none⟩ = some (.int .u32 i.f2)) (hx3 : w.cell? ⟨ip.block, ip.off + 3, none⟩ = some (.slice A3 i.f3.length c3)) (hK : Kd.C (Kd.int .i32) w A3 i.f3.length i.f3) (hc : i.f3.length ≤ c3) (hl : i.f3.length ≤ 9223372036854775807) (hF : Folds w) (c : Int) :
    Calls Tryd.prog 89 #[.pointer (some ip), .int .i32 c] w (MrP (takesB i c) w) := by
  have HK := Lib.hid hK
  have HF := Lib.hid hF
  have HS := Lib.hid h
  have hcell : ∀ j, j < i.f3.length → ∃ a3, A3 = some a3 ∧ w.cell? (a3.add j) = some (.int .i32 (i.f3.getD j 0)) := fun j hj => by
    obtain ⟨ad, e, hx⟩ := kd_cell hK (Below.refl _ w) j hj
    exact ⟨ad, e, by rw [hx, List.getD_eq_getElem?_getD, List.getElem?_eq_getElem hj]; rfl⟩
  have HC := Lib.hid hcell
  obtain ⟨b, hb⟩ : ∃ b, b = takesB i c := ⟨_, rfl⟩
  rw [← hb]
  have HB := Lib.hid hb
  obtain ⟨n, hn⟩ : ∃ n, n = i.f3.length := ⟨_, rfl⟩
  rw [← hn] at hx3 hl hc
  have HN := Lib.hid hn
  have hz : w = w.drewN 0 := rfl
  clear hK hF h hcell hb hn hz
  by_cases n0 : n = 0
  · have hbf : b = false := by rw [HB.out, takes7_cls HS.out (by rw [← HN.out]; omega)]; exact inCls_short _ _ (by rw [← HN.out]; omega)
    have HBF := Lib.hid hbf
    subst n0
    clear hbf
    go_enter Tryd.func89, Tryd.ntmps89
    go_wp2_with fail
    go_ret
    exact MrP.no HBF.out w 0
  · have e0 : ((n : Int) == 0) = false := by rw [beq_eq_false_iff_ne]; omega
    have e0' : (n == 0) = false := by rw [beq_eq_false_iff_ne]; omega
    obtain ⟨a3, rfl, hr0⟩ := HC.out 0 (by rw [← HN.out]; omega)
    rw [add_0] at hr0
    by_cases n1 : n = 1
    · obtain ⟨hf2, a, ha, ha2⟩ := HS.out.one (by rw [← HN.out]; exact n1)
      have hbf := takes7_one HS.out (by rw [← HN.out]; exact n1) a ha c
      rw [← HB.out] at hbf
      have HBF := Lib.hid hbf
      rw [ha] at hr0
      rw [hf2] at hx2
      subst n1
      clear hbf ha hf2
      by_cases hca : c = (a : Int)
      · have hbt : b = true := by rw [HBF.out]; unfold foldsB; rw [if_pos hca.symm]
        have HBT := Lib.hid hbt
        have d1 : (c == (a : Int)) = true := by rw [beq_iff_eq]; exact hca
        clear hbt hca
        go_enter Tryd.func89, Tryd.ntmps89
        go_wp2_with fail
        go_ret
        exact MrP.yes HBT.out w 0 0 (by omega)
      · have hbt : b = fdF 4 a (sfN a) c := by rw [HBF.out]; unfold foldsB; rw [if_neg (Ne.symm hca)]
        have HBT := Lib.hid hbt
        have d1 : (c == (a : Int)) = false := by rw [beq_eq_false_iff_ne]; exact hca
        clear hbt hca
        go_enter Tryd.func89, Tryd.ntmps89
        go_wp2_with fail
        refine (fold_calls w a ha2 HF.out).mono ?_
        rintro e w1 ⟨rfl, n1, rfl⟩
        go_wp2_with fail
        clear hx2 hx3 hr0
        go_loopg [7] 4 (fun gk s7 wr => ∃ (d m : Nat), Hid (d ≤ 1114111 ∧ (∃ q, q + 1 ≤ gk ∧ it q d = a) ∧ b = fdF gk a d c) ∧ s7 = .int .i32 (d : Int) ∧ wr = w.drewN m)
        case atStart =>
          obtain ⟨m, m1, m2, m3, m4, m5⟩ := orbit a ha2
          refine ⟨sfN a, n1, ⟨sfN_le a ha2, ⟨m - 1, by omega, ?_⟩, HBT.out⟩, rfl, rfl⟩
          rw [← it_succ, show m - 1 + 1 = m by omega]; exact m3
        case round =>
          obtain ⟨d, m, HI, rfl, rfl⟩ := hrel
          by_cases hda : d = a
          · have hd1 : ((d : Int) != (a : Int)) = false := by rw [hda]; simp
            have hd2 : (d != a) = false := by rw [hda]; simp
            go_wp2_with fail
            go_ret
            have h := HI.out.2.2
            obtain ⟨q, hq, _⟩ := HI.out.2.1
            obtain ⟨g, rfl⟩ : ∃ g, gk = g + 1 := ⟨gk - 1, by omega⟩
            rw [fdF_succ g, if_pos hda] at h
            exact MrP.no h w m
          · have hd1 : ((d : Int) != (a : Int)) = true := by simpa using fun e : (d : Int) = a => hda (by omega)
            have hd2 : (d != a) = true := by simpa using hda
            by_cases hdc : (d : Int) = c
            · have hd3 : (c == (d : Int)) = true := by rw [beq_iff_eq]; exact hdc.symm
              have HDC := Lib.hid hdc
              clear hdc
              go_wp2_with fail
              go_ret
              have h := HI.out.2.2
              obtain ⟨q, hq, _⟩ := HI.out.2.1
              obtain ⟨g, rfl⟩ : ∃ g, gk = g + 1 := ⟨gk - 1, by omega⟩
              rw [fdF_succ g, if_neg hda, if_pos HDC.out] at h
              exact MrP.yes h w m 0 (by omega)
            · have hd3 : (c == (d : Int)) = false := by rw [beq_eq_false_iff_ne]; exact Ne.symm hdc
              go_wp2_with fail
              refine (fold_calls (w.drewN m) d HI.out.1 (HF.out.below (pw_below_drewN (Below.refl _ w) m))).mono ?_
              rintro e w2 ⟨rfl, n2, rfl⟩
              go_wp2_with fail
              go_roundg (gk - 1)
              case measure =>
                obtain ⟨q, hq, _⟩ := HI.out.2.1
                omega
              case rel =>
                obtain ⟨hc, ⟨q, hq, hit⟩, h⟩ := HI.out
                obtain ⟨g, rfl⟩ : ∃ g, gk = g + 1 := ⟨gk - 1, by omega⟩
                have hq1 : q ≠ 0 := fun e => by subst e; exact hda hit
                obtain ⟨q, rfl⟩ : ∃ q', q = q' + 1 := ⟨q - 1, by omega⟩
                rw [it_succ] at hit
                rw [fdF_succ g, if_neg hda, if_neg hdc] at h
                exact ⟨sfN d, m + n2, ⟨sfN_le d hc, ⟨q, by omega, hit⟩, h⟩, rfl, rfl⟩
    · have e1 : ((n : Int) == 1) = false := by rw [beq_eq_false_iff_ne]; omega
      have e1' : (n == 1) = false := by rw [beq_eq_false_iff_ne]; omega
      obtain ⟨hf2, hasc⟩ := HS.out.cls (by rw [← HN.out]; exact n1)
      have hbf := takes7_cls HS.out (by rw [← HN.out]; exact n1) c
      rw [← HB.out] at hbf
      have HBF := Lib.hid hbf
      have HA := Lib.hid hasc
      have hev : n % 2 = 0 := by have := hasc.even; rw [← HN.out] at this; exact this
      generalize hl3 : i.f3 = l at *
      have HN2 : Hid (n = l.length) := HN
      have HC2 : Hid (∀ j, j < n → w.cell? (a3.add j) = some (.int .i32 (l.getD j 0))) := Lib.hid fun j hj => by
        obtain ⟨_, e, hx⟩ := HC.out j (by rw [← HN2.out]; exact hj)
        cases e
        exact hx
      clear hbf hasc HC hl3 hx2 hf2 HK HS HB HN
      by_cases n2 : n = 2
      · have hr1 := HC2.out 1 (by omega)
        subst n2
        have hlo : l.getD 0 0 = lo_ l 0 := rfl
        have hhi : l.getD 1 0 = hi_ l 0 := rfl
        rw [hlo] at hr0
        rw [hhi, add_succ, Nat.zero_add] at hr1
        have HN3 : Hid (l.length = 2) := Lib.hid HN2.out.symm
        clear hlo hhi HC2 HN2
        generalize hlov : lo_ l 0 = x at *
        generalize hhiv : hi_ l 0 = y at *
        have HX := Lib.hid (And.intro hlov hhiv)
        clear hlov hhiv
        by_cases c1 : x ≤ c
        · by_cases c2 : c ≤ y
          · have hbt : b = true := by rw [HBF.out]; exact Asc.found (k := 0) (by rw [HN3.out]; omega) (by rw [HX.out.1]; exact c1) (by rw [HX.out.2]; exact c2)
            have HBT := Lib.hid hbt
            clear hbt
            go_enter Tryd.func89, Tryd.ntmps89
            go_wp2_with fail
            go_ret
            exact MrP.yes HBT.out w 0 0 (by omega)
          · have hbt : b = false := by
              rw [HBF.out]
              exact Asc.none (k := 1) (fun i h1 h2 => by rw [show i = 0 by omega, HX.out.2]; omega) (fun i h1 h2 => by rw [HN3.out] at h2; omega)
            have HBT := Lib.hid hbt
            have d2 : decide (c ≤ y) = false := decide_eq_false c2
            clear hbt
            go_enter Tryd.func89, Tryd.ntmps89
            go_wp2_with fail
            go_ret
            exact MrP.no HBT.out w 0
        · have hbt : b = false := by
            rw [HBF.out]
            exact Asc.none (k := 0) (fun i h1 h2 => by omega) (fun i h1 h2 => by rw [HN3.out] at h2; rw [show i = 0 by omega, HX.out.1]; omega)
          have HBT := Lib.hid hbt
          have d2 : decide (x ≤ c) = false := decide_eq_false c1
          have d3 : decide (c ≥ x) = false := decide_eq_false c1
          clear hbt
          go_enter Tryd.func89, Tryd.ntmps89
          go_wp2_with fail
          go_ret
          exact MrP.no HBT.out w 0
      · have e2 : ((n : Int) == 2) = false := by rw [beq_eq_false_iff_ne]; omega
        have e2' : (n == 2) = false := by rw [beq_eq_false_iff_ne]; omega
        by_cases n468 : n = 4 ∨ n = 6 ∨ n = 8
        · have hsw : ((n : Int) == 4) = true ∨ (((n : Int) == 4) = false ∧ ((n : Int) == 6) = true) ∨ (((n : Int) == 4) = false ∧ ((n : Int) == 6) = false ∧ ((n : Int) == 8) = true) := by
            rcases n468 with h | h | h
            · left; rw [h]; rfl
            · right; left; rw [h]; exact ⟨rfl, rfl⟩
            · right; right; rw [h]; exact ⟨rfl, rfl, rfl⟩
          have hn8 : n ≤ 8 := by omega
          clear n468 n0 n1 n2 hr0
          rcases hsw with s4 | ⟨s4, s6⟩ | ⟨s4, s6, s8⟩
          all_goals
            go_enter Tryd.func89, Tryd.ntmps89
            go_wp2_with fail
            go_loopg [8] n (fun gk s8 wr => ∃ k : Nat, Hid (gk + 2 * k = n ∧ ∀ i, i < k → 2 * i + 1 < l.length → hi_ l i < c) ∧ 2 * k ≤ n ∧ s8 = .int .i64 (2 * k : Nat) ∧ wr = w)
            case atStart => exact ⟨0, ⟨by omega, fun i hi => by omega⟩, by omega, rfl, rfl⟩
            case round =>
              obtain ⟨k, HI, hk, rfl, rfl⟩ := hrel
              by_cases hlt : 2 * k < n
              · have hq0 := HC2.out (2 * k) hlt
                have hq1 := HC2.out (2 * k + 1) (by omega)
                have hlo : l.getD (2 * k) 0 = lo_ l k := rfl
                have hhi : l.getD (2 * k + 1) 0 = hi_ l k := rfl
                rw [hlo] at hq0
                rw [hhi, add_succ] at hq1
                clear hlo hhi
                generalize hlov : lo_ l k = x at *
                generalize hhiv : hi_ l k = y at *
                have HX := Lib.hid (And.intro hlov hhiv)
                have HL := Lib.hid (show 2 * k + 1 < l.length by rw [← HN2.out]; omega)
                obtain ⟨j, hj⟩ : ∃ j, j = 2 * k := ⟨_, rfl⟩
                rw [← hj] at hq0 hq1 hlt hk ⊢
                have HJ := Lib.hid hj
                have hj1 : ((j : Int) + 1).toNat = j + 1 := by omega
                have hj2 : ((j : Int) + 1) < (n : Int) := by omega
                have hj3 : j + 1 < n := by omega
                clear hlov hhiv hj
                by_cases c1 : c < x
                · have hbt : b = false := by
                    rw [HBF.out]
                    exact Asc.none (k := k) HI.out.2 (HA.out.above HL.out (by rw [HX.out.1]; exact c1))
                  have HBT := Lib.hid hbt
                  clear hbt
                  go_wp2_with fail
                  go_ret
                  exact MrP.no HBT.out wr 0
                · by_cases c2 : c ≤ y
                  · have hbt : b = true := by rw [HBF.out]; exact Asc.found HL.out (by rw [HX.out.1]; omega) (by rw [HX.out.2]; exact c2)
                    have HBT := Lib.hid hbt
                    clear hbt
                    go_wp2_with fail
                    go_ret
                    exact MrP.yes HBT.out wr 0 _ (by first | omega | (apply Int.ediv_nonneg <;> omega))
                  · have d2 : decide (c ≤ y) = false := decide_eq_false c2
                    go_wp2_with fail
                    go_roundg (gk - 2)
                    case measure => have := HI.out.1; have := HJ.out; omega
                    case rel =>
                      have hj := HJ.out
                      refine ⟨k + 1, ⟨by have := HI.out.1; omega, HA.out.below HL.out (by rw [HX.out.2]; omega)⟩, by omega, ?_, rfl⟩
                      first | exact congrArg (Value.int .i64) (by omega) | (rw [hj]; go_num)
              · have hbt : b = false := by
                  rw [HBF.out]
                  exact Asc.none (k := k) HI.out.2 (fun i h1 h2 => by rw [← HN2.out] at h2; omega)
                have HBT := Lib.hid hbt
                clear hbt
                obtain ⟨j, hj⟩ : ∃ j, j = 2 * k := ⟨_, rfl⟩
                rw [← hj] at hlt hk ⊢
                clear hj
                go_wp2_with fail
                go_ret
                exact MrP.no HBT.out wr 0
        · have s4 : ((n : Int) == 4) = false := by rw [beq_eq_false_iff_ne]; omega
          have s6 : ((n : Int) == 6) = false := by rw [beq_eq_false_iff_ne]; omega
          have s8 : ((n : Int) == 8) = false := by rw [beq_eq_false_iff_ne]; omega
          clear hr0
          obtain ⟨m, hm⟩ : ∃ m, n = 2 * m := ⟨n / 2, by omega⟩
          have HM := Lib.hid hm
          clear hm
          go_enter Tryd.func89, Tryd.ntmps89
          go_wp2_with fail
          clear hx3
          go_loopg [9, 10] m (fun gk s9 s10 wr => ∃ (lo hi : Nat), Hid ((∀ i, i < lo → 2 * i + 1 < l.length → hi_ l i < c) ∧ (∀ i, hi ≤ i → 2 * i + 1 < l.length → c < lo_ l i)) ∧ lo ≤ hi ∧ hi ≤ m ∧ gk = hi - lo ∧ s9 = .int .i64 lo ∧ s10 = .int .i64 hi ∧ wr = w)
          case atStart => exact ⟨0, m, ⟨fun i h => by omega, fun i h1 h2 => by have := HM.out; have := HN2.out; omega⟩, by omega, by omega, rfl, rfl, congrArg (Value.int .i64) (by have := HM.out; omega), rfl⟩
          case round =>
            obtain ⟨lo, hi, HI, hle, hhm, rfl, rfl, rfl, rfl⟩ := hrel
            by_cases hlt : lo < hi
            · have hmid : (lo + hi) / 2 < m := by omega
              have hM := HM.out
              have hq0 := HC2.out (2 * ((lo + hi) / 2)) (by omega)
              have hq1 := HC2.out (2 * ((lo + hi) / 2) + 1) (by omega)
              rw [show l.getD (2 * ((lo + hi) / 2)) 0 = lo_ l ((lo + hi) / 2) from rfl] at hq0
              rw [show l.getD (2 * ((lo + hi) / 2) + 1) 0 = hi_ l ((lo + hi) / 2) from rfl, add_succ] at hq1
              have HL := Lib.hid (show 2 * ((lo + hi) / 2) + 1 < l.length by rw [← HN2.out]; omega)
              have hn1 : 2 * ((lo + hi) / 2) < n := by omega
              have hn2 : 2 * ((lo + hi) / 2) + 1 < n := by omega
              clear hM
              generalize hlov : lo_ l ((lo + hi) / 2) = x at *
              generalize hhiv : hi_ l ((lo + hi) / 2) = y at *
              have HX := Lib.hid (And.intro hlov hhiv)
              clear hlov hhiv
              by_cases c1 : x ≤ c
              · by_cases c2 : c ≤ y
                · have hbt : b = true := by rw [HBF.out]; exact Asc.found HL.out (by rw [HX.out.1]; exact c1) (by rw [HX.out.2]; exact c2)
                  have HBT := Lib.hid hbt
                  clear hbt
                  go_wp2_with fail
                  go_ret
                  exact MrP.yes HBT.out wr 0 _ (by omega)
                · have d2 : decide (c ≤ y) = false := decide_eq_false c2
                  go_wp2_with fail
                  go_roundg (hi - ((lo + hi) / 2 + 1))
                  case measure => omega
                  case rel => exact ⟨(lo + hi) / 2 + 1, hi, ⟨HA.out.below HL.out (by rw [HX.out.2]; omega), HI.out.2⟩, by omega, hhm, rfl, congrArg (Value.int .i64) (by omega), rfl, rfl⟩
              · go_wp2_with fail
                go_roundg ((lo + hi) / 2 - lo)
                case measure => omega
                case rel => exact ⟨lo, (lo + hi) / 2, ⟨HI.out.1, HA.out.above HL.out (by rw [HX.out.1]; omega)⟩, by omega, by omega, rfl, rfl, congrArg (Value.int .i64) (by omega), rfl⟩
            · have hbt : b = false := by
                rw [HBF.out]
                exact Asc.none (k := lo) HI.out.1 (fun i h1 h2 => HI.out.2 i (by omega) h2)
              have HBT := Lib.hid hbt
              clear hbt
              go_wp2_with fail
              go_ret
              exact MrP.no HBT.out wr 0
set_option maxRecDepth 100000 in
set_option maxHeartbeats 1000000 in
theorem mrune_calls (ip : Addr) (i : I) (h : Tak7 i) (w : World) (A3 : Option Addr) (c3 : Nat) (hx2 : w.cell? ⟨ip.block, ip.off + 2, none⟩ = some (.int .u32 i.f2)) (hx3 : w.cell? ⟨ip.block, ip.off + 3, none⟩ = some (.slice A3 i.f3.length c3)) (hK : Kd.C (Kd.int .i32) w A3 i.f3.length i.f3) (hc : i.f3.length ≤ c3) (hl : i.f3.length ≤ 9223372036854775807) (hF : Folds w) (c : Int) :
    Calls Tryd.prog 75 #[.pointer (some ip), .int .i32 c] w fun e w' => e = .returned (.bool (takesB i c)) ∧ ∃ n, w' = w.drewN n := by
  have hcall := mrpos_calls ip i h w A3 c3 hx2 hx3 hK hc hl hF c
  generalize takesB i c = b at *
  clear hx2 hx3 hK hF h hc hl
  go_enter Tryd.func75, Tryd.ntmps75
  go_wp2_with fail
  refine hcall.mono ?_
  rintro e w' ⟨v, rfl, hv, n, rfl⟩
  clear hcall
  have HV := Lib.hid hv
  clear hv
  go_wp2_with fail
  go_ret
  exact ⟨by rw [← HV.out]; rfl, n, rfl⟩
end Go.Proofs.YteoljppcafakpaaDoor.PgFnPgSpan
