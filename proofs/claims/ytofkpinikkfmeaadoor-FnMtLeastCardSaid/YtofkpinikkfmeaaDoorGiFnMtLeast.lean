/- What is gathered by steps from a set (reGathered): the walk, over any step. -/
import Derived.Test.YtofkpinikkfmeaaDoorGgFnMtLeast
namespace Go.Proofs.YtofkpinikkfmeaaDoor.TxFnMtLeast
open Go.Proofs.YtofkpinikkfmeaaDoor.Sf hiding T
open Go.RowKit Go.Proofs.YtofkpinikkfmeaaDoor.TrFnMtLeast Go.Proofs.YtofkpinikkfmeaaDoor.PFnMtLeast Go.Proofs.YtofkpinikkfmeaaDoorW.PrintWords Go.Proofs.YtofkpinikkfmeaaDoorW.PrintLast Go.Proofs.YtofkpinikkfmeaaDoorW.PrintMore
set_option linter.unusedSimpArgs false
set_option linter.unusedVariables false

theorem any_calls (w : World) (A : Option Addr) (c : Nat) (l : List Bool) (hC : Kd.C Kd.bool w A l.length l) (hc : l.length ≤ c) (hl : l.length ≤ 100001) :
    Calls Tryd.prog 31 #[.slice A l.length c] w fun e w' => e = .returned (.bool (anyB l l.length 0)) ∧ Below w.heap.size w w' := by
  obtain ⟨k, hk⟩ := (ev_any l hl).get
  refine (spec_reAny.calls k A c l _ w hC hc hk).mono ?_
  rintro e w' ⟨rfl, hd⟩
  exact ⟨rfl, hd.below⟩
theorem both_calls (w : World) (N : Nat) (A : Option Addr) (c : Nat) (l : List Bool) (hC : Kd.C Kd.bool w A l.length l) (hc : l.length ≤ c) (A' : Option Addr) (c' : Nat) (l' : List Bool) (hC' : Kd.C Kd.bool w A' l'.length l') (hc' : l'.length ≤ c') (hN : N ≤ 100001) (h1 : l.length = N) (h2 : l'.length = N) :
    Calls Tryd.prog 32 #[.slice A l.length c, .slice A' l'.length c'] w fun e w' => (∃ v, e = .returned v ∧ Rw w' v (gen (orF l l') N N)) ∧ Below w.heap.size w w' := by
  obtain ⟨k, hk⟩ := (ev_both l l' (by omega) (by omega)).get
  refine (spec_reBoth.calls k A c l A' c' l' _ w hC hc hC' hc' hk).mono ?_
  rintro e w' ⟨v, rfl, hr, hb⟩
  rw [h1] at hr
  exact ⟨⟨v, rfl, Rw.of_R hr⟩, hb⟩
theorem fresh_calls (w : World) (N : Nat) (A : Option Addr) (c : Nat) (l : List Bool) (hC : Kd.C Kd.bool w A l.length l) (hc : l.length ≤ c) (A' : Option Addr) (c' : Nat) (l' : List Bool) (hC' : Kd.C Kd.bool w A' l'.length l') (hc' : l'.length ≤ c') (hN : N ≤ 100001) (h1 : l.length = N) (h2 : l'.length = N) :
    Calls Tryd.prog 43 #[.slice A l.length c, .slice A' l'.length c'] w fun e w' => (∃ v, e = .returned v ∧ Rw w' v (gen (frF l l') N N)) ∧ Below w.heap.size w w' := by
  obtain ⟨k, hk⟩ := (ev_fresh l l' (by omega) (by omega)).get
  refine (spec_reFresh.calls k A c l A' c' l' _ w hC hc hC' hc' hk).mono ?_
  rintro e w' ⟨v, rfl, hr, hb⟩
  rw [h1] at hr
  exact ⟨⟨v, rfl, Rw.of_R hr⟩, hb⟩
theorem gen_len' (f : Nat → Bool) (n : Nat) : (gen f n n).length = n := gen_len (Nat.le_refl _)

set_option maxRecDepth 100000 in
set_option maxHeartbeats 4000000 in
theorem gathered_calls (W0 : World) (m : Int) (hm : 0 ≤ m) (N : Nat) (p1 p2 : Value) (hN : N ≤ 100001) (HS : StepS W0 m N p1 p2) (A : Option Addr) (c : Nat) (l : List Bool) (hC : Kd.C Kd.bool W0 A l.length l) (hc : l.length ≤ c) (hl : l.length = N) :
    Calls Tryd.prog 34 #[.slice A l.length c, .func (.func 33) #[] #[p1, p2]] W0 fun e w' => (∃ v1 v2 a b, e = .returned (.tuple #[v1, v2]) ∧ Rw w' v1 a ∧ Rw w' v2 b ∧ a.length = N ∧ b.length = N ∧ Lo 0 l a ∧ Lo m l b) ∧ Below W0.heap.size W0 w' := by
  have HS := Lib.hid HS
  have HC := Lib.hid (And.intro hC (And.intro hc hl))
  have hmk := make_b l.length (by omega)
  clear hC hc hl
  go_enter Tryd.func34, Tryd.ntmps34
  go_upto_region 1 with (fail)
  go_cut [4, 5] (fun v4 v5 wc => ∃ (A5 : Option Addr) (c5 : Nat) (b : List Bool), v4 = .slice A l.length c ∧ v5 = .slice A5 b.length c5 ∧ Hid (b.length ≤ c5 ∧ Kd.C Kd.bool wc A5 b.length b ∧ b.length = N ∧ Lo m l b ∧ Below W0.heap.size W0 wc))
  case first =>
    go_region
    all_goals
      go_wp2_with fail
      go_meet
      have HNW := Rw.new
      exact ⟨_, _, List.replicate l.length false, rfl, by rw [List.length_replicate], Lib.hid (by
        obtain ⟨A', c', e, h1, h2⟩ := Rw.new _ l.length (by have := HC.out.2.2; omega)
        rw [List.length_replicate] at e
        cases e
        refine ⟨h1, h2, ?_, Lo.nil _ _ _, ?_⟩
        · rw [List.length_replicate]; exact HC.out.2.2
        · repeat (first | with_reducible exact Below.refl _ _ | with_reducible apply below_alloc | with_reducible apply below_drew))⟩
  case rest =>
    obtain ⟨A5, c5, b, rfl, rfl, HQ⟩ := hcut
    clear hmk
    go_wp2_with fail
    go_loopg [4, 5, 6] (ms l l N) (fun gk s4 s5 s6 wr => ∃ (A4 : Option Addr) (c4 : Nat) (a : List Bool) (A5 : Option Addr) (c5 : Nat) (b : List Bool) (A6 : Option Addr) (c6 : Nat) (f : List Bool), s4 = .slice A4 a.length c4 ∧ s5 = .slice A5 b.length c5 ∧ s6 = .slice A6 f.length c6 ∧
      Hid ((a.length ≤ c4 ∧ Kd.C Kd.bool wr A4 a.length a ∧ a.length = N ∧ Lo 0 l a) ∧ (b.length ≤ c5 ∧ Kd.C Kd.bool wr A5 b.length b ∧ b.length = N ∧ Lo m l b) ∧ (f.length ≤ c6 ∧ Kd.C Kd.bool wr A6 f.length f ∧ f.length = N ∧ Lo 0 l f) ∧ Below W0.heap.size W0 wr ∧ ms a f N ≤ gk))
    case atStart => exact ⟨A, c, l, A5, c5, b, A, c, l, rfl, rfl, rfl, Lib.hid ⟨⟨HC.out.2.1, Kd.C_below HC.out.1 HQ.out.2.2.2.2, HC.out.2.2, Lo.refl l⟩, ⟨HQ.out.1, HQ.out.2.1, HQ.out.2.2.1, HQ.out.2.2.2.1⟩, ⟨HC.out.2.1, Kd.C_below HC.out.1 HQ.out.2.2.2.2, HC.out.2.2, Lo.refl l⟩, HQ.out.2.2.2.2, Nat.le_refl _⟩⟩
    case round =>
      clear HQ
      obtain ⟨A4, c4, a, A5, c5, b, A6, c6, f, rfl, rfl, rfl, HI⟩ := hrel
      have HA := Lib.hid (any_calls wr A6 c6 f HI.out.2.2.1.2.1 HI.out.2.2.1.1 (by have := HI.out.2.2.1.2.2.1; omega))
      obtain ⟨x, hx⟩ : ∃ x, x = anyB f f.length 0 := ⟨_, rfl⟩
      rw [← hx] at HA
      have HX := Lib.hid hx
      clear hx
      go_wp2_with fail
      refine HA.out.mono ?_
      rintro e w1 ⟨rfl, hb1⟩
      have HB1 := Lib.hid (below_step HI.out.2.2.2.1 hb1)
      have HS1 := Lib.hid (HS.out w1 HB1.out A6 c6 f (Kd.C_below HI.out.2.2.1.2.1 hb1) HI.out.2.2.1.1 HI.out.2.2.1.2.2.1)
      have HR1 := Lib.hid hb1
      clear hb1 HA
      cases x with
      | false =>
        go_wp2_with fail
        go_ret2
        exact ⟨⟨_, _, a, b, rfl, ⟨A4, c4, rfl, HI.out.1.1, Kd.C_below HI.out.1.2.1 HR1.out⟩, ⟨A5, c5, rfl, HI.out.2.1.1, Kd.C_below HI.out.2.1.2.1 HR1.out⟩, HI.out.1.2.2.1, HI.out.2.1.2.2.1, HI.out.1.2.2.2, HI.out.2.1.2.2.2⟩, HB1.out⟩
      | true =>
        go_wp2_with fail
        refine HS1.out.mono ?_
        rintro e w2 ⟨⟨v, r, rfl, ⟨A7, c7, rfl, hc7, hC7⟩, hr1, hr2⟩, hb2⟩
        have HR2 := Lib.hid (HR1.out.trans (hb2.mono HR1.out.size))
        have HM := Lib.hid (And.intro hc7 (And.intro hC7 (And.intro hr1 (show Lo m l r by have := HI.out.2.2.1.2.2.2.trans hr2; rw [Int.zero_add] at this; exact this))))
        have HB2 := Lib.hid (below_step HB1.out hb2)
        clear hc7 hC7 hr1 hr2 hb2 HS1
        have HD := Lib.hid (both_calls w2 N A5 c5 b (Kd.C_below HI.out.2.1.2.1 HR2.out) HI.out.2.1.1 A7 c7 r HM.out.2.1 HM.out.1 hN HI.out.2.1.2.2.1 HM.out.2.2.1)
        go_wp2_with fail
        refine HD.out.mono ?_
        rintro e w3 ⟨⟨v3, rfl, A8, c8, rfl, hc8, hC8⟩, hb3⟩
        have HR3 := Lib.hid (HR2.out.trans (hb3.mono HR2.out.size))
        have H3 := Lib.hid (And.intro hc8 hC8)
        have HB3 := Lib.hid (below_step HB2.out hb3)
        have HM3 := Lib.hid (Kd.C_below HM.out.2.1 hb3)
        clear hc8 hC8 hb3 HD
        have HD := Lib.hid (fresh_calls w3 N A4 c4 a (Kd.C_below HI.out.1.2.1 HR3.out) HI.out.1.1 A7 c7 r HM3.out HM.out.1 hN HI.out.1.2.2.1 HM.out.2.2.1)
        go_wp2_with fail
        refine HD.out.mono ?_
        rintro e w4 ⟨⟨v4, rfl, A9, c9, rfl, hc9, hC9⟩, hb4⟩
        have HR4 := Lib.hid (HR3.out.trans (hb4.mono HR3.out.size))
        have H4 := Lib.hid (And.intro hc9 hC9)
        have HB4 := Lib.hid (below_step HB3.out hb4)
        have HM4 := Lib.hid (Kd.C_below HM3.out hb4)
        have H34 := Lib.hid (Kd.C_below H3.out.2 hb4)
        clear hc9 hC9 hb4 HD
        have HD := Lib.hid (both_calls w4 N A4 c4 a (Kd.C_below HI.out.1.2.1 HR4.out) HI.out.1.1 A7 c7 r HM4.out HM.out.1 hN HI.out.1.2.2.1 HM.out.2.2.1)
        go_wp2_with fail
        refine HD.out.mono ?_
        rintro e w5 ⟨⟨v5, rfl, A10, c10, rfl, hc10, hC10⟩, hb5⟩
        have H5 := Lib.hid (And.intro hc10 hC10)
        have HB5 := Lib.hid (below_step HB4.out hb5)
        have H35 := Lib.hid (Kd.C_below H34.out hb5)
        have H45 := Lib.hid (Kd.C_below H4.out.2 hb5)
        clear hc10 hC10 hb5 HD
        have HL := Lib.hid (ms_lt (b := r) HI.out.1.2.2.1 HX.out.symm)
        go_wp2_with fail
        go_roundg (gk - 1)
        case measure => have := HL.out; have := HI.out.2.2.2.2; omega
        case rel => exact ⟨A10, c10, gen (orF a r) N N, A8, c8, gen (orF b r) N N, A9, c9, gen (frF a r) N N, rfl, rfl, rfl, Lib.hid ⟨⟨H5.out.1, H5.out.2, gen_len' _ _, Lo.or HI.out.1.2.2.2 (HM.out.2.2.2.mono hm) N⟩, ⟨H3.out.1, H35.out, gen_len' _ _, Lo.or HI.out.2.1.2.2.2 HM.out.2.2.2 N⟩, ⟨H4.out.1, H45.out, gen_len' _ _, Lo.fresh (HM.out.2.2.2.mono hm) N⟩, HB5.out, by have := HL.out; have := HI.out.2.2.2.2; omega⟩⟩
end Go.Proofs.YtofkpinikkfmeaaDoor.TxFnMtLeast
