/- Walks for FnSyRepeat: the reference's reader of a counted repetition. -/
import Derived.Test.YtaogbmljadaplaaRf
namespace Go.Proofs.Ytaogbmljadaplaa.Rp
open Go.RowKit My

theorem below_drewN {B : Nat} {w w' : World} (h : Below B w w') (n : Nat) : Below B w (w'.drewN n) := ⟨h.os, h.tape, h.output, h.size, h.block⟩

set_option maxRecDepth 100000 in
set_option maxHeartbeats 8000000 in
theorem count_calls (s : ByteArray) (hs : s.size ≤ 1000) (w : World) :
    Calls Try.prog 36 #[.string s] w (CntPost (nums s) s.size w.heap.size w) := by
  cases hl : nums s with
  | nil =>
    obtain rfl := nil_facts s hl
    go_enter Try.func36, Try.ntmps36
    go_wp2_with fail
    go_ret3
    exact cnt_none rfl ((Below.refl _ _).alloc (Nat.le_refl _) _)
  | cons c l1 =>
    obtain ⟨h0, hc, hl1, t1, t2⟩ := cons_facts s c l1 hl
    by_cases hc1 : c = 123
    · have t3 : ((s[0].toNat : Int) != 123) = false := by rw [hc, hc1]; rfl
      have HD1 := Lib.hid (show (nums s).drop 1 = l1 from by rw [hl]; rfl)
      have HPR := Lib.hid (show gr (c :: l1) = gr1 l1 from by rw [gr_cons, if_pos hc1])
      have HN := Lib.hid (fun k hk => number_calls s hs (w.heap.size + 1) w.heap.size k hk)
      generalize hlist : c :: l1 = full at *
      clear hl hl1 hc hc1 hlist
      go_enter Try.func36, Try.ntmps36
      go_wp2_with fail
      refine (HN.out 1 (by omega) _ ⟨by go_simp, by go_simp, by go_simp, by omega⟩).mono ?_
      rintro e w1 ⟨rfl, hv1, hg1⟩
      have BW1 : Below w.heap.size w w1 := (((Below.refl w.heap.size w).alloc (Nat.le_refl _) _).alloc (by simp) _).grown hg1 (by simp; omega) (fun k hk => by cases hk; omega)
      have hat := hv1.at_
      have hfr := hv1.free
      have hstr := hv1.str
      rw [HD1.out] at hat ⊢
      have hk1s : 1 + (digs l1).length ≤ s.size := by
        have h1 := digs_le l1
        have h2 := congrArg List.length HD1.out
        rw [List.length_drop, nums_length] at h2
        omega
      have HD2 := Lib.hid (show (nums s).drop (1 + (digs l1).length) = l1.drop (digs l1).length from by rw [← HD1.out, List.drop_drop])
      have HB := Lib.hid BW1
      have HPR2 := Lib.hid HPR.out
      unfold gr1 at HPR2
      have hz1 : w.heap.size + 1 < w1.heap.size := by have := hg1.size; simp at this; omega
      have HPR3 : Hid (gr full = if okInt l1 = true then grA (digs l1) (l1.drop (digs l1).length) else none) := HPR2
      clear HPR HPR2 hv1 hg1 BW1
      generalize hd1 : digs l1 = d1 at *
      have HD1' := Lib.hid hd1
      generalize hk1 : 1 + d1.length = k1 at *
      obtain ⟨v1, HV1⟩ : ∃ v, Hid (v = valM 0 d1) := ⟨_, rfl⟩
      rw [← HV1.out]
      clear hd1 hk1
      cases hok : okInt l1
      · have HP := Lib.hid (show gr full = none from by rw [HPR3.out, hok]; rfl)
        clear hok HPR3
        go_wp2_with fail
        go_ret3
        exact cnt_none HP.out HB.out
      · have HP3 := Lib.hid (show gr full = grA d1 (l1.drop d1.length) from by rw [HPR3.out, if_pos hok])
        clear HPR3 hok
        cases h2 : l1.drop d1.length with
        | nil =>
          rw [h2] at HP3 HD2
          have HP := HP3
          obtain rfl := drop_nil s k1 hk1s HD2.out
          clear HP3 h2
          go_wp2_with fail
          go_ret3
          exact cnt_none HP.out HB.out
        | cons d l3 =>
          rw [h2] at HP3 HD2
          obtain ⟨hk1, hc, hl3⟩ := drop_cons s k1 d l3 HD2.out
          have HP3' := HP3.out
          rw [grA_cons] at HP3'
          have HL3 := Lib.hid hl3
          clear h2 HP3 hl3 HD2
          by_cases h44 : d = 44
          · have t4 : ((s[k1].toNat : Int) == 44) = true := by rw [hc, h44]; rfl
            rw [if_pos h44] at HP3'
            have HP4 := Lib.hid HP3'
            clear HP3' hc h44
            cases l3 with
            | nil =>
              have hk2 := drop_nil s (k1 + 1) (by omega) HL3.out
              have HK2 := Lib.hid hk2
              have t5 : decide ((k1 : Int) + 1 < (s.size : Int)) = false := by simp; omega
              have t6 : decide ((s.size : Int) ≤ (k1 : Int) + 1) = true := by simp; omega
              clear hk2
              have HP := HP4
              go_wp2_with fail
              go_ret3
              exact cnt_none HP.out (HB.out.setCell (by simp) _)
            | cons c3 r3 =>
              obtain ⟨hk2, hc3, hr3⟩ := drop_cons s (k1 + 1) c3 r3 HL3.out
              have HR3 := Lib.hid hr3
              have HP4' := HP4.out
              rw [gr2_cons] at HP4'
              clear HP4 hr3
              by_cases h125 : c3 = 125
              · have t6 : ((s[k1 + 1].toNat : Int) != 125) = false := by rw [hc3, h125]; rfl
                rw [if_pos h125] at HP4'
                have HP := Lib.hid HP4'
                clear HP4' hc3 h125
                go_wp2_with fail
                go_quiet (fail)
                go_wp2_with fail
                go_ret3
                refine cnt_some HP.out HV1.out rfl ?_ (by omega) (below_drewN (HB.out.setCell (by simp) _) _)
                rw [← HR3.out, List.length_drop, nums_length]; omega
              · have t6 : ((s[k1 + 1].toNat : Int) != 125) = true := by rw [hc3]; simpa using h125
                rw [if_neg h125] at HP4'
                have HP5 := Lib.hid HP4'
                clear HP4' hc3 h125
                go_wp2_with fail
                refine (HN.out (k1 + 1) (by omega) _ ⟨by go_simp, by go_simp, by go_simp, by omega⟩).mono ?_
                rintro e w2 ⟨rfl, hv2, hg2⟩
                have BW2 : Below w.heap.size w w2 := (HB.out.setCell (p := ⟨w.heap.size + 1, 0, none⟩) (by simp) (.int .i64 ((k1 : Int) + 1))).grown hg2 (by simp; omega) (fun k hk => by cases hk; omega)
                have HB2 := Lib.hid BW2
                have hat2 := hv2.at_
                have hfr2 := hv2.free
                have hstr2 := hv2.str
                rw [HL3.out] at hat2 ⊢
                have hks : k1 + 1 + (digs (c3 :: r3)).length ≤ s.size := by
                  have h1 := digs_le (c3 :: r3)
                  have h2 := congrArg List.length HL3.out
                  rw [List.length_drop, nums_length] at h2
                  omega
                have HD4 := Lib.hid (show (nums s).drop (k1 + 1 + (digs (c3 :: r3)).length) = (c3 :: r3).drop (digs (c3 :: r3)).length from by rw [← HL3.out, List.drop_drop])
                have HP6 : Hid (gr full = if okInt (c3 :: r3) = true then grB d1 (digs (c3 :: r3)) ((c3 :: r3).drop (digs (c3 :: r3)).length) else none) := HP5.out
                clear HP5 hv2 hg2 BW2 hat hfr hstr t4 t6
                generalize digs (c3 :: r3) = d2 at *
                generalize hk3 : k1 + 1 + d2.length = k3 at *
                obtain ⟨v2, HV2⟩ : ∃ v, Hid (v = valM 0 d2) := ⟨_, rfl⟩
                rw [← HV2.out]
                have hk3' : 1 ≤ k3 := by omega
                clear hk3
                cases hok : okInt (c3 :: r3)
                · have HP := Lib.hid (show gr full = none from by rw [HP6.out, hok]; rfl)
                  clear hok HP6
                  go_wp2_with fail
                  go_ret3
                  exact cnt_none HP.out HB2.out
                · have HP7 := Lib.hid (show gr full = grB d1 d2 ((c3 :: r3).drop d2.length) from by rw [HP6.out, if_pos hok])
                  clear HP6 hok
                  generalize (c3 :: r3).drop d2.length = l4 at *
                  cases l4 with
                  | nil =>
                    have HP := HP7
                    obtain rfl := drop_nil s k3 hks HD4.out
                    go_wp2_with fail
                    go_ret3
                    exact cnt_none HP.out HB2.out
                  | cons d4 r4 =>
                    obtain ⟨hk4, hc4, hr4⟩ := drop_cons s k3 d4 r4 HD4.out
                    have HR4 := Lib.hid hr4
                    have HP8 := HP7.out
                    rw [grB_cons] at HP8
                    clear HP7 hr4 HD4
                    by_cases h125 : d4 = 125
                    · have t6 : ((s[k3].toNat : Int) != 125) = false := by rw [hc4, h125]; rfl
                      rw [if_pos h125] at HP8
                      have HP := Lib.hid HP8
                      clear HP8 hc4 h125
                      go_wp2_with fail
                      go_quiet (fail)
                      go_wp2_with fail
                      go_ret3
                      refine cnt_some HP.out HV1.out HV2.out ?_ (by omega) (below_drewN HB2.out _)
                      rw [← HR4.out, List.length_drop, nums_length]; omega
                    · have t6 : ((s[k3].toNat : Int) != 125) = true := by rw [hc4]; simpa using h125
                      rw [if_neg h125] at HP8
                      have HP := Lib.hid HP8
                      clear HP8 hc4 h125
                      go_wp2_with fail
                      go_ret3
                      exact cnt_none HP.out HB2.out
          · have t4 : ((s[k1].toNat : Int) == 44) = false := by rw [hc]; simpa using h44
            rw [if_neg h44] at HP3'
            by_cases h125 : d = 125
            · have t6 : ((s[k1].toNat : Int) != 125) = false := by rw [hc, h125]; rfl
              rw [if_pos h125] at HP3'
              have HP := Lib.hid HP3'
              clear HP3' hc h125 h44
              go_wp2_with fail
              go_quiet (fail)
              go_wp2_with fail
              go_ret3
              refine cnt_some HP.out HV1.out HV1.out ?_ (by omega) (below_drewN HB.out _)
              rw [← HL3.out, List.length_drop, nums_length]; omega
            · have t6 : ((s[k1].toNat : Int) != 125) = true := by rw [hc]; simpa using h125
              rw [if_neg h125] at HP3'
              have HP := Lib.hid HP3'
              clear HP3' hc h125 h44
              go_wp2_with fail
              go_ret3
              exact cnt_none HP.out HB.out
    · have t3 : ((s[0].toNat : Int) != 123) = true := by rw [hc]; simpa using hc1
      have HP := Lib.hid (show gr (c :: l1) = none from by rw [gr_cons, if_neg hc1])
      generalize hlist : c :: l1 = full at *
      clear hl hl1 hc hc1 hlist
      go_enter Try.func36, Try.ntmps36
      go_wp2_with fail
      go_ret3
      exact cnt_none HP.out ((Below.refl _ _).alloc (Nat.le_refl _) _)

end Go.Proofs.Ytaogbmljadaplaa.Rp
