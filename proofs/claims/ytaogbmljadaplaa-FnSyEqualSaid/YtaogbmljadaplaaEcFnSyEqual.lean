/- The walk of Equal. -/
import Derived.Test.YtaogbmljadaplaaEbFnSyEqual
namespace Go.Proofs.Ytaogbmljadaplaa.TrFnSyEqual
open Go.RowKit Go.Proofs.Ytaogbmljadaplaa.PFnSyEqual Go.Proofs.YtaogbmljadaplaaW.PrintWords Go.Proofs.YtaogbmljadaplaaW.PrintLast Go.Proofs.YtaogbmljadaplaaW.PrintMore

set_option maxRecDepth 100000 in
set_option maxHeartbeats 4000000 in
theorem eq_calls (x : T) : EqSaid x := by
  refine tree_ind (p := EqSaid) ?_ x
  intro x ih y hX hY w S S' a b hRx hRy
  obtain ⟨As, cs, Ar, cr, bs, hc, l7, m7, m2, hl, hk, hr, lr⟩ := hRx.open_
  obtain ⟨As', cs', Ar', cr', bs', hc', l7', m7', m2', hl', hk', hr', lr'⟩ := hRy.open_
  obtain ⟨hx0, hx1, hx2, hx3, hx4, hx5, hx6, hx7, hx8, hx9, hx10⟩ := blk11 hc
  obtain ⟨hy0, hy1, hy2, hy3, hy4, hy5, hy6, hy7, hy8, hy9, hy10⟩ := blk11 hc'
  have HIH := Lib.hid ih
  have HR := Lib.hid (show RowR w S As x.f7 bs from ⟨hl, hk⟩)
  have HR' := Lib.hid (show RowR w S' As' y.f7 bs' from ⟨hl', hk'⟩)
  have HX := Lib.hid hX
  have HY := Lib.hid hY
  have HC := Lib.hid (And.intro hr lr)
  have HC' := Lib.hid (And.intro hr' lr')
  have sx := hX.self
  have sy := hY.self
  have HA := Lib.hid hc
  have HA' := Lib.hid hc'
  clear ih hl hk hl' hk' hX hY hr lr hr' lr' hc hc' hRx hRy
  have ex : x.f0 % 256 = x.f0 := by unfold Shp at sx; omega
  have ey : y.f0 % 256 = y.f0 := by unfold Shp at sy; omega
  rw [ex] at hx0
  rw [ey] at hy0
  have SX := Lib.hid sx
  have HL2 := Lib.hid (show x.f2.length ≤ 4611686018427387000 by unfold Shp at sx; omega)
  have SY := Lib.hid sy
  clear ex ey sx sy
  have HS := Lib.hid (same_eq x y)
  by_cases h0 : x.f0 = y.f0
  · have H0 := Lib.hid h0
    rw [← h0] at hy0
    clear h0
    obtain ⟨fx, hfx⟩ : ∃ fx, fx = IntKind.u16.wrap x.f1 := ⟨_, rfl⟩
    obtain ⟨fy, hfy⟩ : ∃ fy, fy = IntKind.u16.wrap y.f1 := ⟨_, rfl⟩
    rw [← hfx] at hx1
    rw [← hfy] at hy1
    have HB : Hid (∀ m : Nat, m < 65536 → bitEq x.f1 y.f1 (m : Int) = (Go.bits .and .u16 fx (m : Int) == Go.bits .and .u16 fy (m : Int))) := Lib.hid fun m hm => by rw [hfx, hfy, bits_u16 _ _ hm, bits_u16 _ _ hm]
    clear hfx hfy
    obtain ⟨ox, hox⟩ : ∃ ox, ox = x.f0 := ⟨_, rfl⟩
    rw [← hox] at hx0 hy0
    have HO := Lib.hid hox
    clear hox
    by_cases hq : ox = 1 ∨ ox = 2 ∨ ox = 5 ∨ ox = 6 ∨ ox = 7 ∨ ox = 8 ∨ ox = 9 ∨ ox = 11 ∨ ox = 12
    · have hs : same x y = true := by
        have e1 := SX.out
        have e2 := SY.out
        have e3 := HO.out
        have e4 := H0.out
        unfold Shp at e1 e2
        have z1 : x.f7 = [] := List.eq_nil_of_length_eq_zero (by omega)
        have z2 : y.f7 = [] := List.eq_nil_of_length_eq_zero (by omega)
        rw [HS.out, if_pos ⟨e4, by rw [z1, z2], by unfold nodeEq; rw [if_neg (by omega), if_neg (by omega), if_neg (by omega), if_neg (by omega), if_neg (by omega)]⟩, z1, sameL]
      rw [hs]
      clear hs HO
      rcases hq with rfl | rfl | rfl | rfl | rfl | rfl | rfl | rfl | rfl
      all_goals
        go_enter Try.func45, Try.ntmps45
        go_wp2_with fail
        go_quiet (fail)
        go_wp2_with fail
        go_ret
        exact ⟨rfl, ⟨⟨_, rfl⟩⟩⟩
    · by_cases h10 : ox = 10
      · have hs : same x y = (Go.bits .and .u16 fx 256 == Go.bits .and .u16 fy 256) := by
          have e1 := SX.out
          have e2 := SY.out
          have e3 := HO.out
          have e4 := H0.out
          unfold Shp at e1 e2
          have z1 : x.f7 = [] := List.eq_nil_of_length_eq_zero (by omega)
          have z2 : y.f7 = [] := List.eq_nil_of_length_eq_zero (by omega)
          have hn : nodeEq x y = (Go.bits .and .u16 fx 256 == Go.bits .and .u16 fy 256) := by unfold nodeEq; rw [if_pos (by omega)]; exact HB.out 256 (by omega)
          rw [HS.out, hn, z1, z2, sameL]
          cases (Go.bits .and .u16 fx 256 == Go.bits .and .u16 fy 256) <;> simp [e4]
        rw [hs]
        clear hs HO hq
        subst h10
        generalize hu : Go.bits .and .u16 fx 256 = u at *
        generalize hv : Go.bits .and .u16 fy 256 = v at *
        by_cases huv : u = v
        · subst huv
          go_enter Try.func45, Try.ntmps45
          go_wp2_with fail
          go_quiet (fail)
          go_wp2_with fail
          go_quiet (fail)
          go_wp2_with fail
          go_ret
          exact ⟨by simp, ((Drawn0.refl _).step _).step _⟩
        · have e1 : (u == v) = false := by simpa using huv
          have e2 : (u != v) = true := by simpa using huv
          rw [e1]
          go_enter Try.func45, Try.ntmps45
          go_wp2_with fail
          go_quiet (fail)
          go_wp2_with fail
          go_quiet (fail)
          go_wp2_with fail
          go_ret
          exact ⟨rfl, ((Drawn0.refl _).step _).step _⟩
      · by_cases h34 : ox = 3 ∨ ox = 4
        · have hs : same x y = ((Go.bits .and .u16 fx 1 == Go.bits .and .u16 fy 1) && decide (x.f2 = y.f2)) := by
            rw [same_lit H0.out SX.out SY.out (by have := HO.out; omega)]
            rw [show bitEq x.f1 y.f1 1 = (Go.bits .and .u16 fx 1 == Go.bits .and .u16 fy 1) from HB.out 1 (by omega)]
          rw [hs]
          clear hs HO hq h10
          generalize hu : Go.bits .and .u16 fx 1 = u at *
          generalize hv : Go.bits .and .u16 fy 1 = v at *
          by_cases huv : u = v
          · subst huv
            rcases h34 with rfl | rfl
            all_goals
              go_enter Try.func45, Try.ntmps45
              go_wp2_with fail
              go_quiet (fail)
              go_wp2_with fail
              have HD1 := Lib.hid (Drawn0.mk (⟨nq, rfl⟩ : ∃ n, w.drewN nq = w.drewN n))
              generalize w.drewN nq = w1 at *
              have HBX := Lib.hid (blk11 (blk_below HA.out HD1.out.below))
              have HBY := Lib.hid (blk11 (blk_below HA'.out HD1.out.below))
              obtain ⟨-, -, gx2, -, gx4, -, -, gx7, gx8, gx9, gx10⟩ := HBX.out
              obtain ⟨-, -, gy2, -, gy4, -, -, gy7, gy8, gy9, gy10⟩ := HBY.out
              replace hx1 := (HD1.out.below.cell (World.block_lt_of_cell? w _ hx1)).trans hx1
              replace hy1 := (HD1.out.below.cell (World.block_lt_of_cell? w _ hy1)).trans hy1
              clear hx2 hx3 hx4 hx5 hx6 hx7 hx8 hx9 hx10 hy2 hy3 hy4 hy5 hy6 hy7 hy8 hy9 hy10
              go_quiet ((go_at_call 58; exact sleq_quiet HL2.out HC.out.1 HC.out.2 HC'.out.1 HC'.out.2 HD1.out _))
              go_wp2_with fail
              go_ret
              exact ⟨by simp, HD1.out.step _⟩
          · have e1 : (u == v) = false := by simpa using huv
            have e3 : decide (u = v) = false := decide_eq_false huv
            rw [e1]
            rcases h34 with rfl | rfl
            all_goals
              go_enter Try.func45, Try.ntmps45
              go_wp2_with fail
              go_quiet (fail)
              go_wp2_with fail
              have HD1 := Lib.hid (Drawn0.mk (⟨nq, rfl⟩ : ∃ n, w.drewN nq = w.drewN n))
              generalize w.drewN nq = w1 at *
              have HBX := Lib.hid (blk11 (blk_below HA.out HD1.out.below))
              have HBY := Lib.hid (blk11 (blk_below HA'.out HD1.out.below))
              obtain ⟨-, -, gx2, -, gx4, -, -, gx7, gx8, gx9, gx10⟩ := HBX.out
              obtain ⟨-, -, gy2, -, gy4, -, -, gy7, gy8, gy9, gy10⟩ := HBY.out
              replace hx1 := (HD1.out.below.cell (World.block_lt_of_cell? w _ hx1)).trans hx1
              replace hy1 := (HD1.out.below.cell (World.block_lt_of_cell? w _ hy1)).trans hy1
              clear hx2 hx3 hx4 hx5 hx6 hx7 hx8 hx9 hx10 hy2 hy3 hy4 hy5 hy6 hy7 hy8 hy9 hy10
              go_quiet (fail)
              go_wp2_with fail
              go_ret
              exact ⟨rfl, HD1.out.step _⟩
        · by_cases hseq : ox = 18 ∨ ox = 19
          · rw [same_seq H0.out (by have := HO.out; omega)]
            clear HO hq h10 h34
            obtain ⟨bv, hbv⟩ : ∃ bv, bv = (if x.f7.length = y.f7.length then sameL x.f7 y.f7 else false) := ⟨_, rfl⟩
            rw [← hbv]
            have HBV := Lib.hid hbv
            clear hbv
            rcases hseq with rfl | rfl
            all_goals
              go_enter Try.func45, Try.ntmps45
              go_wp2_with fail
              go_quiet (fail)
              go_wp2_with fail
              have HD1 := Lib.hid (Drawn0.mk (⟨nq, rfl⟩ : ∃ n, w.drewN nq = w.drewN n))
              generalize w.drewN nq = w1 at *
              have HBX := Lib.hid (blk11 (blk_below HA.out HD1.out.below))
              have HBY := Lib.hid (blk11 (blk_below HA'.out HD1.out.below))
              obtain ⟨-, -, gx2, -, gx4, -, -, gx7, gx8, gx9, gx10⟩ := HBX.out
              obtain ⟨-, -, gy2, -, gy4, -, -, gy7, gy8, gy9, gy10⟩ := HBY.out
              replace hx1 := (HD1.out.below.cell (World.block_lt_of_cell? w _ hx1)).trans hx1
              replace hy1 := (HD1.out.below.cell (World.block_lt_of_cell? w _ hy1)).trans hy1
              clear hx2 hx3 hx4 hx5 hx6 hx7 hx8 hx9 hx10 hy2 hy3 hy4 hy5 hy6 hy7 hy8 hy9 hy10
              have HQ := Lib.hid (fun n => eqf_quiet x.f7 y.f7 HIH.out HX.out.sub HY.out.sub w w1 HD1.out n S S' As As' cs cs' bs bs' HR.out HR'.out l7 l7' m7 m7')
              rw [← HBV.out] at HQ
              go_quiet ((go_at_call 59; exact HQ.out _))
              go_wp2_with fail
              go_ret
              exact ⟨rfl, HD1.out.step _⟩
          · have hox : 13 ≤ ox ∧ ox ≤ 17 := by have := HO.out; have := SX.out; unfold Shp at this; omega
            obtain ⟨s, hs7⟩ := SX.out.one (by have := HO.out; omega) (by have := HO.out; omega)
            obtain ⟨t, ht7⟩ := SY.out.one (by have := HO.out; have := H0.out; omega) (by have := HO.out; have := H0.out; omega)
            have HX7 := Lib.hid (And.intro (show x.f7.length = 1 by rw [hs7]; rfl) hs7)
            have HY7 := Lib.hid (And.intro (show y.f7.length = 1 by rw [ht7]; rfl) ht7)
            have HSS := Lib.hid (HIH.out s (by rw [hs7]; simp))
            have HXS := Lib.hid (HX.out.sub s (by rw [hs7]; simp))
            have HYS := Lib.hid (HY.out.sub t (by rw [ht7]; simp))
            have hcs : 1 ≤ cs := by have := HX7.out.1; omega
            have hcs' : 1 ≤ cs' := by have := HY7.out.1; omega
            clear hs7 ht7 l7 l7' m7 m7' m2 m2'
            obtain ⟨p3, h3⟩ : ∃ p, p = x.f3 := ⟨_, rfl⟩
            obtain ⟨q3, h3'⟩ : ∃ p, p = y.f3 := ⟨_, rfl⟩
            obtain ⟨p4, h4⟩ : ∃ p, p = x.f4 := ⟨_, rfl⟩
            obtain ⟨q4, h4'⟩ : ∃ p, p = y.f4 := ⟨_, rfl⟩
            obtain ⟨p5, h5⟩ : ∃ p, p = x.f5 := ⟨_, rfl⟩
            obtain ⟨q5, h5'⟩ : ∃ p, p = y.f5 := ⟨_, rfl⟩
            obtain ⟨p6, h6⟩ : ∃ p, p = x.f6 := ⟨_, rfl⟩
            obtain ⟨q6, h6'⟩ : ∃ p, p = y.f6 := ⟨_, rfl⟩
            have H3 := Lib.hid h3
            have H3' := Lib.hid h3'
            have H4 := Lib.hid h4
            have H4' := Lib.hid h4'
            have H5 := Lib.hid h5
            have H5' := Lib.hid h5'
            have H6 := Lib.hid h6
            have H6' := Lib.hid h6'
            clear h3 h3' h4 h4' h5 h5' h6 h6'
            by_cases h13 : ox = 13
            · have hs : same x y = (decide (p5 = q5) && (p6.toList == q6.toList) && same s t) := by
                rw [same_grp H0.out HX7.out.2 HY7.out.2 (by have := HO.out; omega), H5.out, H5'.out, H6.out, H6'.out]
              rw [hs]
              clear hs HO hq h10 h34 hseq hox
              subst h13
              by_cases h5 : p5 = q5
              · rw [decide_eq_true h5]
                by_cases h6 : p6.toList = q6.toList
                · have e6 : (p6.toList == q6.toList) = true := by simpa using h6
                  have e6' : (p6.toList != q6.toList) = false := by simpa using h6
                  rw [e6]
                  cases hsb : same s t
                  all_goals
                    have HS1 := Lib.hid HSS.out
                    go_enter Try.func45, Try.ntmps45
                    go_wp2_with fail
                    go_quiet (fail)
                    go_wp2_with fail
                    have HD1 := Lib.hid (Drawn0.mk (⟨nq, rfl⟩ : ∃ n, w.drewN nq = w.drewN n))
                    generalize w.drewN nq = w1 at *
                    have HBX := Lib.hid (blk11 (blk_below HA.out HD1.out.below))
                    have HBY := Lib.hid (blk11 (blk_below HA'.out HD1.out.below))
                    obtain ⟨-, -, gx2, -, gx4, -, -, gx7, gx8, gx9, gx10⟩ := HBX.out
                    obtain ⟨-, -, gy2, -, gy4, -, -, gy7, gy8, gy9, gy10⟩ := HBY.out
                    replace hx1 := (HD1.out.below.cell (World.block_lt_of_cell? w _ hx1)).trans hx1
                    replace hy1 := (HD1.out.below.cell (World.block_lt_of_cell? w _ hy1)).trans hy1
                    clear hx2 hx3 hx4 hx5 hx6 hx7 hx8 hx9 hx10 hy2 hy3 hy4 hy5 hy6 hy7 hy8 hy9 hy10
                    rw [← H3.out] at gx7
                    rw [← H3'.out] at gy7
                    rw [← H4.out] at gx8
                    rw [← H4'.out] at gy8
                    rw [← H5.out] at gx9
                    rw [← H5'.out] at gy9
                    rw [← H6.out] at gx10
                    rw [← H6'.out] at gy10
                    rw [HX7.out.1] at gx2
                    rw [HY7.out.1] at gy2
                    obtain ⟨ad, p1, e, gz, gz', rg⟩ := HR.out.first HX7.out.2 HD1.out
                    obtain ⟨ad', p2, e', gw, gw', rg'⟩ := HR'.out.first HY7.out.2 HD1.out
                    cases e
                    cases e'
                    have HRG := Lib.hid rg
                    have HRG' := Lib.hid rg'
                    clear rg rg'
                    have HQ := Lib.hid (fun n => EqSaid.quiet HS1.out HXS.out HYS.out HRG.out HRG'.out HD1.out n)
                    rw [hsb] at HQ
                    clear hsb
                    go_quiet ((go_at_call 45; exact HQ.out _))
                    go_wp2_with fail
                    go_ret
                    exact ⟨by simp, HD1.out.step _⟩
                · have e6 : (p6.toList == q6.toList) = false := by simpa using h6
                  have e6' : (p6.toList != q6.toList) = true := by simpa using h6
                  rw [e6]
                  clear h6
                  go_enter Try.func45, Try.ntmps45
                  go_wp2_with fail
                  go_quiet (fail)
                  go_wp2_with fail
                  have HD1 := Lib.hid (Drawn0.mk (⟨nq, rfl⟩ : ∃ n, w.drewN nq = w.drewN n))
                  generalize w.drewN nq = w1 at *
                  have HBX := Lib.hid (blk11 (blk_below HA.out HD1.out.below))
                  have HBY := Lib.hid (blk11 (blk_below HA'.out HD1.out.below))
                  obtain ⟨-, -, gx2, -, gx4, -, -, gx7, gx8, gx9, gx10⟩ := HBX.out
                  obtain ⟨-, -, gy2, -, gy4, -, -, gy7, gy8, gy9, gy10⟩ := HBY.out
                  replace hx1 := (HD1.out.below.cell (World.block_lt_of_cell? w _ hx1)).trans hx1
                  replace hy1 := (HD1.out.below.cell (World.block_lt_of_cell? w _ hy1)).trans hy1
                  clear hx2 hx3 hx4 hx5 hx6 hx7 hx8 hx9 hx10 hy2 hy3 hy4 hy5 hy6 hy7 hy8 hy9 hy10
                  rw [← H3.out] at gx7
                  rw [← H3'.out] at gy7
                  rw [← H4.out] at gx8
                  rw [← H4'.out] at gy8
                  rw [← H5.out] at gx9
                  rw [← H5'.out] at gy9
                  rw [← H6.out] at gx10
                  rw [← H6'.out] at gy10
                  rw [HX7.out.1] at gx2
                  rw [HY7.out.1] at gy2
                  obtain ⟨ad, p1, e, gz, gz', rg⟩ := HR.out.first HX7.out.2 HD1.out
                  obtain ⟨ad', p2, e', gw, gw', rg'⟩ := HR'.out.first HY7.out.2 HD1.out
                  cases e
                  cases e'
                  have HRG := Lib.hid rg
                  have HRG' := Lib.hid rg'
                  clear rg rg'
                  go_quiet (fail)
                  go_wp2_with fail
                  go_ret
                  exact ⟨rfl, HD1.out.step _⟩
              · have e5 : decide (p5 = q5) = false := decide_eq_false h5
                have e5' : (p5 != q5) = true := by simpa using h5
                rw [e5]
                go_enter Try.func45, Try.ntmps45
                go_wp2_with fail
                go_quiet (fail)
                go_wp2_with fail
                have HD1 := Lib.hid (Drawn0.mk (⟨nq, rfl⟩ : ∃ n, w.drewN nq = w.drewN n))
                generalize w.drewN nq = w1 at *
                have HBX := Lib.hid (blk11 (blk_below HA.out HD1.out.below))
                have HBY := Lib.hid (blk11 (blk_below HA'.out HD1.out.below))
                obtain ⟨-, -, gx2, -, gx4, -, -, gx7, gx8, gx9, gx10⟩ := HBX.out
                obtain ⟨-, -, gy2, -, gy4, -, -, gy7, gy8, gy9, gy10⟩ := HBY.out
                replace hx1 := (HD1.out.below.cell (World.block_lt_of_cell? w _ hx1)).trans hx1
                replace hy1 := (HD1.out.below.cell (World.block_lt_of_cell? w _ hy1)).trans hy1
                clear hx2 hx3 hx4 hx5 hx6 hx7 hx8 hx9 hx10 hy2 hy3 hy4 hy5 hy6 hy7 hy8 hy9 hy10
                rw [← H3.out] at gx7
                rw [← H3'.out] at gy7
                rw [← H4.out] at gx8
                rw [← H4'.out] at gy8
                rw [← H5.out] at gx9
                rw [← H5'.out] at gy9
                rw [← H6.out] at gx10
                rw [← H6'.out] at gy10
                rw [HX7.out.1] at gx2
                rw [HY7.out.1] at gy2
                obtain ⟨ad, p1, e, gz, gz', rg⟩ := HR.out.first HX7.out.2 HD1.out
                obtain ⟨ad', p2, e', gw, gw', rg'⟩ := HR'.out.first HY7.out.2 HD1.out
                cases e
                cases e'
                have HRG := Lib.hid rg
                have HRG' := Lib.hid rg'
                clear rg rg'
                go_quiet (fail)
                go_wp2_with fail
                go_ret
                exact ⟨rfl, HD1.out.step _⟩
            · have hb : bitEq x.f1 y.f1 32 = (Go.bits .and .u16 fx 32 == Go.bits .and .u16 fy 32) := HB.out 32 (by omega)
              by_cases h17 : ox = 17
              · have hs : same x y = ((Go.bits .and .u16 fx 32 == Go.bits .and .u16 fy 32) && decide (p3 = q3) && decide (p4 = q4) && same s t) := by
                  rw [same_rep H0.out HX7.out.2 HY7.out.2 (by have := HO.out; omega), H3.out, H3'.out, H4.out, H4'.out, hb]
                rw [hs]
                clear hs hb HO hq h10 h34 hseq hox h13
                subst h17
                generalize hu : Go.bits .and .u16 fx 32 = u at *
                generalize hv : Go.bits .and .u16 fy 32 = v at *
                by_cases huv : u = v
                · subst huv
                  by_cases h3 : p3 = q3
                  · rw [decide_eq_true h3]
                    by_cases h4 : p4 = q4
                    · rw [decide_eq_true h4]
                      cases hsb : same s t
                      all_goals
                        have HS1 := Lib.hid HSS.out
                        go_enter Try.func45, Try.ntmps45
                        go_wp2_with fail
                        go_quiet (fail)
                        go_wp2_with fail
                        have HD1 := Lib.hid (Drawn0.mk (⟨nq, rfl⟩ : ∃ n, w.drewN nq = w.drewN n))
                        generalize w.drewN nq = w1 at *
                        have HBX := Lib.hid (blk11 (blk_below HA.out HD1.out.below))
                        have HBY := Lib.hid (blk11 (blk_below HA'.out HD1.out.below))
                        obtain ⟨-, -, gx2, -, gx4, -, -, gx7, gx8, gx9, gx10⟩ := HBX.out
                        obtain ⟨-, -, gy2, -, gy4, -, -, gy7, gy8, gy9, gy10⟩ := HBY.out
                        replace hx1 := (HD1.out.below.cell (World.block_lt_of_cell? w _ hx1)).trans hx1
                        replace hy1 := (HD1.out.below.cell (World.block_lt_of_cell? w _ hy1)).trans hy1
                        clear hx2 hx3 hx4 hx5 hx6 hx7 hx8 hx9 hx10 hy2 hy3 hy4 hy5 hy6 hy7 hy8 hy9 hy10
                        rw [← H3.out] at gx7
                        rw [← H3'.out] at gy7
                        rw [← H4.out] at gx8
                        rw [← H4'.out] at gy8
                        rw [← H5.out] at gx9
                        rw [← H5'.out] at gy9
                        rw [← H6.out] at gx10
                        rw [← H6'.out] at gy10
                        rw [HX7.out.1] at gx2
                        rw [HY7.out.1] at gy2
                        obtain ⟨ad, p1, e, gz, gz', rg⟩ := HR.out.first HX7.out.2 HD1.out
                        obtain ⟨ad', p2, e', gw, gw', rg'⟩ := HR'.out.first HY7.out.2 HD1.out
                        cases e
                        cases e'
                        have HRG := Lib.hid rg
                        have HRG' := Lib.hid rg'
                        clear rg rg'
                        have HQ := Lib.hid (fun n => EqSaid.quiet HS1.out HXS.out HYS.out HRG.out HRG'.out HD1.out n)
                        rw [hsb] at HQ
                        clear hsb
                        go_quiet ((go_at_call 45; exact HQ.out _))
                        go_wp2_with fail
                        go_ret
                        exact ⟨by simp, HD1.out.step _⟩
                    · have e5 : decide (p4 = q4) = false := decide_eq_false h4
                      have e5' : (p4 != q4) = true := by simpa using h4
                      rw [e5]
                      go_enter Try.func45, Try.ntmps45
                      go_wp2_with fail
                      go_quiet (fail)
                      go_wp2_with fail
                      have HD1 := Lib.hid (Drawn0.mk (⟨nq, rfl⟩ : ∃ n, w.drewN nq = w.drewN n))
                      generalize w.drewN nq = w1 at *
                      have HBX := Lib.hid (blk11 (blk_below HA.out HD1.out.below))
                      have HBY := Lib.hid (blk11 (blk_below HA'.out HD1.out.below))
                      obtain ⟨-, -, gx2, -, gx4, -, -, gx7, gx8, gx9, gx10⟩ := HBX.out
                      obtain ⟨-, -, gy2, -, gy4, -, -, gy7, gy8, gy9, gy10⟩ := HBY.out
                      replace hx1 := (HD1.out.below.cell (World.block_lt_of_cell? w _ hx1)).trans hx1
                      replace hy1 := (HD1.out.below.cell (World.block_lt_of_cell? w _ hy1)).trans hy1
                      clear hx2 hx3 hx4 hx5 hx6 hx7 hx8 hx9 hx10 hy2 hy3 hy4 hy5 hy6 hy7 hy8 hy9 hy10
                      rw [← H3.out] at gx7
                      rw [← H3'.out] at gy7
                      rw [← H4.out] at gx8
                      rw [← H4'.out] at gy8
                      rw [← H5.out] at gx9
                      rw [← H5'.out] at gy9
                      rw [← H6.out] at gx10
                      rw [← H6'.out] at gy10
                      rw [HX7.out.1] at gx2
                      rw [HY7.out.1] at gy2
                      obtain ⟨ad, p1, e, gz, gz', rg⟩ := HR.out.first HX7.out.2 HD1.out
                      obtain ⟨ad', p2, e', gw, gw', rg'⟩ := HR'.out.first HY7.out.2 HD1.out
                      cases e
                      cases e'
                      have HRG := Lib.hid rg
                      have HRG' := Lib.hid rg'
                      clear rg rg'
                      go_quiet (fail)
                      go_wp2_with fail
                      go_ret
                      exact ⟨by simp, HD1.out.step _⟩
                  · have e5 : decide (p3 = q3) = false := decide_eq_false h3
                    have e5' : (p3 != q3) = true := by simpa using h3
                    rw [e5]
                    go_enter Try.func45, Try.ntmps45
                    go_wp2_with fail
                    go_quiet (fail)
                    go_wp2_with fail
                    have HD1 := Lib.hid (Drawn0.mk (⟨nq, rfl⟩ : ∃ n, w.drewN nq = w.drewN n))
                    generalize w.drewN nq = w1 at *
                    have HBX := Lib.hid (blk11 (blk_below HA.out HD1.out.below))
                    have HBY := Lib.hid (blk11 (blk_below HA'.out HD1.out.below))
                    obtain ⟨-, -, gx2, -, gx4, -, -, gx7, gx8, gx9, gx10⟩ := HBX.out
                    obtain ⟨-, -, gy2, -, gy4, -, -, gy7, gy8, gy9, gy10⟩ := HBY.out
                    replace hx1 := (HD1.out.below.cell (World.block_lt_of_cell? w _ hx1)).trans hx1
                    replace hy1 := (HD1.out.below.cell (World.block_lt_of_cell? w _ hy1)).trans hy1
                    clear hx2 hx3 hx4 hx5 hx6 hx7 hx8 hx9 hx10 hy2 hy3 hy4 hy5 hy6 hy7 hy8 hy9 hy10
                    rw [← H3.out] at gx7
                    rw [← H3'.out] at gy7
                    rw [← H4.out] at gx8
                    rw [← H4'.out] at gy8
                    rw [← H5.out] at gx9
                    rw [← H5'.out] at gy9
                    rw [← H6.out] at gx10
                    rw [← H6'.out] at gy10
                    rw [HX7.out.1] at gx2
                    rw [HY7.out.1] at gy2
                    obtain ⟨ad, p1, e, gz, gz', rg⟩ := HR.out.first HX7.out.2 HD1.out
                    obtain ⟨ad', p2, e', gw, gw', rg'⟩ := HR'.out.first HY7.out.2 HD1.out
                    cases e
                    cases e'
                    have HRG := Lib.hid rg
                    have HRG' := Lib.hid rg'
                    clear rg rg'
                    go_quiet (fail)
                    go_wp2_with fail
                    go_ret
                    exact ⟨by simp, HD1.out.step _⟩
                · have e1 : (u == v) = false := by simpa using huv
                  have e3 : (u != v) = true := by simpa using huv
                  rw [e1]
                  go_enter Try.func45, Try.ntmps45
                  go_wp2_with fail
                  go_quiet (fail)
                  go_wp2_with fail
                  have HD1 := Lib.hid (Drawn0.mk (⟨nq, rfl⟩ : ∃ n, w.drewN nq = w.drewN n))
                  generalize w.drewN nq = w1 at *
                  have HBX := Lib.hid (blk11 (blk_below HA.out HD1.out.below))
                  have HBY := Lib.hid (blk11 (blk_below HA'.out HD1.out.below))
                  obtain ⟨-, -, gx2, -, gx4, -, -, gx7, gx8, gx9, gx10⟩ := HBX.out
                  obtain ⟨-, -, gy2, -, gy4, -, -, gy7, gy8, gy9, gy10⟩ := HBY.out
                  replace hx1 := (HD1.out.below.cell (World.block_lt_of_cell? w _ hx1)).trans hx1
                  replace hy1 := (HD1.out.below.cell (World.block_lt_of_cell? w _ hy1)).trans hy1
                  clear hx2 hx3 hx4 hx5 hx6 hx7 hx8 hx9 hx10 hy2 hy3 hy4 hy5 hy6 hy7 hy8 hy9 hy10
                  rw [← H3.out] at gx7
                  rw [← H3'.out] at gy7
                  rw [← H4.out] at gx8
                  rw [← H4'.out] at gy8
                  rw [← H5.out] at gx9
                  rw [← H5'.out] at gy9
                  rw [← H6.out] at gx10
                  rw [← H6'.out] at gy10
                  rw [HX7.out.1] at gx2
                  rw [HY7.out.1] at gy2
                  obtain ⟨ad, p1, e, gz, gz', rg⟩ := HR.out.first HX7.out.2 HD1.out
                  obtain ⟨ad', p2, e', gw, gw', rg'⟩ := HR'.out.first HY7.out.2 HD1.out
                  cases e
                  cases e'
                  have HRG := Lib.hid rg
                  have HRG' := Lib.hid rg'
                  clear rg rg'
                  go_quiet (fail)
                  go_wp2_with fail
                  go_ret
                  exact ⟨rfl, HD1.out.step _⟩
              · have hs : same x y = ((Go.bits .and .u16 fx 32 == Go.bits .and .u16 fy 32) && same s t) := by
                  rw [same_loop H0.out HX7.out.2 HY7.out.2 (by have := HO.out; omega), hb]
                rw [hs]
                have hox3 : ox = 14 ∨ ox = 15 ∨ ox = 16 := by omega
                clear hs hb HO hq h10 h34 hseq hox h13 h17
                generalize hu : Go.bits .and .u16 fx 32 = u at *
                generalize hv : Go.bits .and .u16 fy 32 = v at *
                by_cases huv : u = v
                · subst huv
                  rcases hox3 with rfl | rfl | rfl
                  all_goals
                    cases hsb : same s t
                    all_goals
                      have HS1 := Lib.hid HSS.out
                      go_enter Try.func45, Try.ntmps45
                      go_wp2_with fail
                      go_quiet (fail)
                      go_wp2_with fail
                      have HD1 := Lib.hid (Drawn0.mk (⟨nq, rfl⟩ : ∃ n, w.drewN nq = w.drewN n))
                      generalize w.drewN nq = w1 at *
                      have HBX := Lib.hid (blk11 (blk_below HA.out HD1.out.below))
                      have HBY := Lib.hid (blk11 (blk_below HA'.out HD1.out.below))
                      obtain ⟨-, -, gx2, -, gx4, -, -, gx7, gx8, gx9, gx10⟩ := HBX.out
                      obtain ⟨-, -, gy2, -, gy4, -, -, gy7, gy8, gy9, gy10⟩ := HBY.out
                      replace hx1 := (HD1.out.below.cell (World.block_lt_of_cell? w _ hx1)).trans hx1
                      replace hy1 := (HD1.out.below.cell (World.block_lt_of_cell? w _ hy1)).trans hy1
                      clear hx2 hx3 hx4 hx5 hx6 hx7 hx8 hx9 hx10 hy2 hy3 hy4 hy5 hy6 hy7 hy8 hy9 hy10
                      rw [← H3.out] at gx7
                      rw [← H3'.out] at gy7
                      rw [← H4.out] at gx8
                      rw [← H4'.out] at gy8
                      rw [← H5.out] at gx9
                      rw [← H5'.out] at gy9
                      rw [← H6.out] at gx10
                      rw [← H6'.out] at gy10
                      rw [HX7.out.1] at gx2
                      rw [HY7.out.1] at gy2
                      obtain ⟨ad, p1, e, gz, gz', rg⟩ := HR.out.first HX7.out.2 HD1.out
                      obtain ⟨ad', p2, e', gw, gw', rg'⟩ := HR'.out.first HY7.out.2 HD1.out
                      cases e
                      cases e'
                      have HRG := Lib.hid rg
                      have HRG' := Lib.hid rg'
                      clear rg rg'
                      have HQ := Lib.hid (fun n => EqSaid.quiet HS1.out HXS.out HYS.out HRG.out HRG'.out HD1.out n)
                      rw [hsb] at HQ
                      clear hsb
                      go_quiet ((go_at_call 45; exact HQ.out _))
                      go_wp2_with fail
                      go_ret
                      exact ⟨by simp, HD1.out.step _⟩
                · have e1 : (u == v) = false := by simpa using huv
                  have e3 : (u != v) = true := by simpa using huv
                  rw [e1]
                  rcases hox3 with rfl | rfl | rfl
                  all_goals
                    go_enter Try.func45, Try.ntmps45
                    go_wp2_with fail
                    go_quiet (fail)
                    go_wp2_with fail
                    have HD1 := Lib.hid (Drawn0.mk (⟨nq, rfl⟩ : ∃ n, w.drewN nq = w.drewN n))
                    generalize w.drewN nq = w1 at *
                    have HBX := Lib.hid (blk11 (blk_below HA.out HD1.out.below))
                    have HBY := Lib.hid (blk11 (blk_below HA'.out HD1.out.below))
                    obtain ⟨-, -, gx2, -, gx4, -, -, gx7, gx8, gx9, gx10⟩ := HBX.out
                    obtain ⟨-, -, gy2, -, gy4, -, -, gy7, gy8, gy9, gy10⟩ := HBY.out
                    replace hx1 := (HD1.out.below.cell (World.block_lt_of_cell? w _ hx1)).trans hx1
                    replace hy1 := (HD1.out.below.cell (World.block_lt_of_cell? w _ hy1)).trans hy1
                    clear hx2 hx3 hx4 hx5 hx6 hx7 hx8 hx9 hx10 hy2 hy3 hy4 hy5 hy6 hy7 hy8 hy9 hy10
                    rw [← H3.out] at gx7
                    rw [← H3'.out] at gy7
                    rw [← H4.out] at gx8
                    rw [← H4'.out] at gy8
                    rw [← H5.out] at gx9
                    rw [← H5'.out] at gy9
                    rw [← H6.out] at gx10
                    rw [← H6'.out] at gy10
                    rw [HX7.out.1] at gx2
                    rw [HY7.out.1] at gy2
                    obtain ⟨ad, p1, e, gz, gz', rg⟩ := HR.out.first HX7.out.2 HD1.out
                    obtain ⟨ad', p2, e', gw, gw', rg'⟩ := HR'.out.first HY7.out.2 HD1.out
                    cases e
                    cases e'
                    have HRG := Lib.hid rg
                    have HRG' := Lib.hid rg'
                    clear rg rg'
                    go_quiet (fail)
                    go_wp2_with fail
                    go_ret
                    exact ⟨rfl, HD1.out.step _⟩
  · have hs : same x y = false := by rw [HS.out, if_neg (fun e => h0 e.1)]
    rw [hs]
    clear hs
    go_enter Try.func45, Try.ntmps45
    go_wp2_with fail
    go_quiet (fail)
    go_wp2_with fail
    go_ret
    exact ⟨rfl, ⟨⟨_, rfl⟩⟩⟩

end Go.Proofs.Ytaogbmljadaplaa.TrFnSyEqual
