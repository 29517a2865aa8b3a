/- FnSyStartCond: impl.SyStartCond, CondAt, and the law's own walk. -/
import Derived.Test.YtiiehglfpiocmaaDoorTcFnSyStartCond
import Derived.Test.YtiiehglfpiocmaaDoorTdFnSyStartCond
import Derived.Test.YtiiehglfpiocmaaDoorPeFnSyStartCond
import Derived.Test.YtiiehglfpiocmaaDoorFiFnSyStartCond
namespace Go.Proofs.YtiiehglfpiocmaaDoor.PgFnSyStartCond
open Go.RowKit Go.Proofs.YtiiehglfpiocmaaDoor.EvN Go.Proofs.YtiiehglfpiocmaaDoor.Row Go.Proofs.YtiiehglfpiocmaaDoor.Sf Go.Proofs.YtiiehglfpiocmaaDoor.PFnSyStartCond Go.Proofs.YtiiehglfpiocmaaDoorW.PrintWords Go.Proofs.YtiiehglfpiocmaaDoorW.PrintLast Go.Proofs.YtiiehglfpiocmaaDoorW.PrintMore
set_option linter.unusedSimpArgs false
set_option linter.unusedVariables false

theorem scF_nat {L : List I} {st nc most : Int} (h : PSound L st nc most) : ∀ (n pc f : Nat), pc < L.length → f < 64 → ∃ v : Nat, scF L n pc (f : Int) = (v : Int) ∧ v ≤ 255 := by
  intro n
  induction n with
  | zero => intro pc f _ hf; exact ⟨f, rfl, by omega⟩
  | succ n ih =>
    intro pc f hpc hf
    rw [scF]
    by_cases g3 : (ins L pc).f0 = 3
    · rw [if_pos g3]
      obtain ⟨x1, x2⟩ := h.arg3 pc hpc g3
      obtain ⟨o1, o2⟩ := h.outIn pc hpc (by omega)
      obtain ⟨a, ha⟩ : ∃ a : Nat, (ins L pc).f2 = (a : Int) := ⟨(ins L pc).f2.toNat, by omega⟩
      obtain ⟨e1, e2, e3⟩ := or6 f a hf (by omega)
      rw [ha, e2]
      exact ih _ _ (by omega) e3
    · rw [if_neg g3]
      by_cases g5 : (ins L pc).f0 = 5
      · rw [if_pos g5]; exact ⟨255, rfl, by omega⟩
      · rw [if_neg g5]
        by_cases g26 : (ins L pc).f0 = 2 ∨ (ins L pc).f0 = 6
        · rw [if_pos g26]
          obtain ⟨o1, o2⟩ := h.outIn pc hpc (by omega)
          exact ih _ _ (by omega) hf
        · rw [if_neg g26]; exact ⟨f, rfl, by omega⟩
theorem PSound.most_le {L : List I} {st nc most most2 : Int} (h : PSound L st nc most) (hm : most ≤ most2) : PSound L st nc most2 := ⟨h.pos, by have := h.most; omega, h.first, h.st0, h.st1, h.nc0, h.nc1, h.even, h.inst, h.circ⟩

set_option maxRecDepth 100000 in
set_option maxHeartbeats 4000000 in
theorem sycond_calls {L : List I} {st nc : Int} (h : PSound L st nc 2000) (hr : ∀ i ∈ L, i.f3.length * 4 ≤ 140737488351232) (t v : Nat) (ht : st = (t : Int)) (hv : scF L L.length t 0 = (v : Int)) (w : World) (A : Option Addr) (c : Nat) (hK : Kd.C k31 w A L.length L) (hc : L.length ≤ c) :
    Calls Tryd.prog 6 #[.agg #[.slice A L.length c, .int .i64 st, .int .i64 nc]] w fun e w' => e = .returned (.tuple #[.int .i64 (v : Int), .bool true]) ∧ Below w.heap.size w w' := by
  have hu24 := Tryd.underlying24
  have hm : L.length ≤ 2000 := by have := h.most; omega
  have hv255 : v ≤ 255 := by
    obtain ⟨v2, h1, h2⟩ := scF_nat h L.length t 0 (by have := h.st1; omega) (by omega)
    have : (v : Int) = (v2 : Int) := by rw [← hv, ← h1]; rfl
    omega
  have HS := Lib.hid h
  have HR := Lib.hid hr
  have HK := Lib.hid hK
  have HV := Lib.hid hv
  have HT := Lib.hid ht
  clear h hr hK hv ht
  go_enter Tryd.func6, Tryd.ntmps6
  go_wp2_with (first | ((with_reducible refine gate_dst (N := 1) rfl ?_); refine box_event ?hg (N := 1) ?hd (cs := #[.slice A L.length c, .int .i64 st, .int .i64 nc]) (t := 24) ?hr ?_; (case hd => rfl); (case hg => rfl); (case hr => first | (go_simp; done) | (go_simp; rfl)); intro gb hg w1 hbox hb; have BK := Lib.hid hbox; have HB1 := Lib.hid hb; clear hg hbox hb; obtain ⟨hz0, hz1, hz2⟩ := blk3 BK.out))
  refine (prog_calls HS.out HR.out w w1 A c HK.out hc HB1.out).mono ?_
  rintro e w2 ⟨p, rfl, hlp, hpa, hb2⟩
  have HPA := Lib.hid hpa
  have HB2 := Lib.hid (below_step HB1.out hb2)
  clear hz0 hz1 hz2 hpa hb2 BK HB1
  go_wp2_with fail
  refine (start_calls HS.out hm HS.out.op p w2 HPA.out).mono ?_
  rw [HT.out, Int.toNat_natCast, HV.out]
  rintro e w3 ⟨rfl, rfl⟩
  go_wp2_with fail
  go_ret2
  exact ⟨rfl, HB2.out⟩

set_option maxRecDepth 100000 in
set_option maxHeartbeats 4000000 in
theorem condat_calls (s : ByteArray) (i : Nat) (w : World) (hi : i ≤ s.size) (hs : s.size ≤ 100000) (hT : Tabs w) :
    Calls Tryd.prog 9 #[.string s, .int .i64 (i : Int)] w fun e w' => e = .returned (.int .i64 (condZ (lastR s i) (dec s i).1)) ∧ Below w.heap.size w w' := by
  have HT := Lib.hid hT
  clear hT
  go_enter Tryd.func9, Tryd.ntmps9
  go_wp2_with fail
  refine (next_calls s i w hi (by omega) HT.out).mono ?_
  rintro e w1 ⟨rfl, hb1⟩
  have HB1 := Lib.hid hb1
  clear hb1
  go_wp2_with fail
  refine (last_calls s i w1 hi (by omega) (Utf8Tabs_below HT.out HB1.out)).mono ?_
  rintro e w2 ⟨rfl, hb2⟩
  have HB2 := Lib.hid (below_step HB1.out hb2)
  clear hb2
  go_wp2_with fail
  refine (spec_CondBetween.calls 6 (lastR s i) (dec s i).1 (condZ (lastR s i) (dec s i).1) w2 (cond_z _ _)).mono ?_
  rintro e w3 ⟨rfl, hd⟩
  go_wp2_with fail
  go_ret
  exact ⟨rfl, below_step HB2.out hd.below⟩

/-- The little program that the statement looks at, too. -/
def L3 : List I := [⟨5, 0, 0, []⟩, ⟨3, 2, 4, []⟩, ⟨4, 0, 0, []⟩]
theorem L3_sound : PSound L3 1 2 2000 := psnd_says (by decide)
theorem L3_cond : scF L3 L3.length 1 0 = ((4 : Nat) : Int) := by decide
theorem L3_at (w : World) : Kd.C k31 (w.alloc (.cells #[.int .i64 5, .int .i64 0, .int .i64 0, .slice none 0 0, .int .i64 3, .int .i64 2, .int .i64 4, .slice none 0 0, .int .i64 4, .int .i64 0, .int .i64 0, .slice none 0 0] 31)) (some ⟨w.heap.size, 0, none⟩) L3.length L3 := by
  have hb := heap_alloc_new w (.cells #[.int .i64 5, .int .i64 0, .int .i64 0, .slice none 0 0, .int .i64 3, .int .i64 2, .int .i64 4, .slice none 0 0, .int .i64 4, .int .i64 0, .int .i64 0, .slice none 0 0] 31)
  have ka : ∀ n, (⟨w.heap.size, 0, none⟩ : Addr).add n = ⟨w.heap.size, n, none⟩ := fun n => by unfold Addr.add; split <;> simp_all
  refine ⟨rfl, by decide, fun _ => ⟨_, rfl, fun j p hj => ?_⟩⟩
  match j, hj with
  | 0, hj => cases hj; exact ⟨[.int .i64 5, .int .i64 0, .int .i64 0, .slice none 0 0], rfl, k31_mk _ ⟨5, 0, 0, []⟩ (by simp) ⟨rfl, by simp, fun h => by simp at h⟩, fun i u hu => by
      rw [ka, blk_cell hb]
      match i, hu with
      | 0, hu => exact hu
      | 1, hu => exact hu
      | 2, hu => exact hu
      | 3, hu => exact hu⟩
  | 1, hj => cases hj; exact ⟨[.int .i64 3, .int .i64 2, .int .i64 4, .slice none 0 0], rfl, k31_mk _ ⟨3, 2, 4, []⟩ (by simp) ⟨rfl, by simp, fun h => by simp at h⟩, fun i u hu => by
      rw [ka, blk_cell hb]
      match i, hu with
      | 0, hu => exact hu
      | 1, hu => exact hu
      | 2, hu => exact hu
      | 3, hu => exact hu⟩
  | 2, hj => cases hj; exact ⟨[.int .i64 4, .int .i64 0, .int .i64 0, .slice none 0 0], rfl, k31_mk _ ⟨4, 0, 0, []⟩ (by simp) ⟨rfl, by simp, fun h => by simp at h⟩, fun i u hu => by
      rw [ka, blk_cell hb]
      match i, hu with
      | 0, hu => exact hu
      | 1, hu => exact hu
      | 2, hu => exact hu
      | 3, hu => exact hu⟩

set_option maxRecDepth 100000 in
set_option maxHeartbeats 8000000 in
theorem law_calls {L : List I} {st nc : Int} (w : World) (A : Option Addr) (c : Nat) (hK : Kd.C k31 w A L.length L) (hc : L.length ≤ c) (s : ByteArray) (hT : Tabs w) (hF : Folds w) :
    Calls Tryd.prog 3 #[.agg #[.slice A L.length c, .int .i64 st, .int .i64 nc], .string s] w fun e w' => e = .returned (.bool true) ∧ Below w.heap.size w w' := by
  have hu24 := Tryd.underlying24
  obtain ⟨kf, hkf⟩ := (ev_fits L st nc).get
  have HK := Lib.hid hK
  have HT := Lib.hid hT
  have HF := Lib.hid hF
  clear hK hT hF
  go_enter Tryd.func3, Tryd.ntmps3
  go_wp2_with (first | ((with_reducible refine gate_dst (N := 2) rfl ?_); refine box_event ?hg (N := 2) ?hd (cs := #[.slice A L.length c, .int .i64 st, .int .i64 nc]) (t := 24) ?hr ?_; (case hd => rfl); (case hg => rfl); (case hr => first | (go_simp; done) | (go_simp; rfl)); intro gb hg w1 hbox hb; have BK := Lib.hid hbox; have HB1 := Lib.hid hb; clear hg hbox hb; obtain ⟨hz0, hz1, hz2⟩ := blk3 BK.out))
  refine (laws_zzFits3.calls kf A c L st nc (fits L) w1 (Kd.C_below HK.out HB1.out) hc hkf).mono ?_
  rintro e w2 ⟨rfl, hb2⟩
  have HB2 := Lib.hid (below_step HB1.out hb2)
  have BK2 := Lib.hid (blk_below BK.out hb2)
  clear hz0 hz1 hz2 hb2 BK HB1 hkf
  cases hf : fits L with
  | false =>
    go_wp2_with fail
    go_ret
    exact ⟨rfl, HB2.out⟩
  | true =>
    have hfl : L.length ≤ 2147483647 ∧ ∀ i ∈ L, i.f3.length ≤ 2147483647 := by
      unfold fits at hf
      simp only [Bool.and_eq_true, decide_eq_true_eq, List.all_eq_true] at hf
      exact hf
    have HFL := Lib.hid hfl.2
    have hfl1 := hfl.1
    clear hfl hf
    by_cases hz : s.size > 2147483647
    · have hzd : decide (s.size > 2147483647) = true := decide_eq_true hz
      go_wp2_with fail
      go_ret
      exact ⟨rfl, HB2.out⟩
    · obtain ⟨hz0, hz1, hz2⟩ := blk3 BK2.out
      go_wp2_with fail
      obtain ⟨kp, hkp⟩ := (ev_psnd L st nc 500 (by omega) (fun i hi => by have := HFL.out i hi; omega)).get
      refine (spec_ProgSound.calls kp A c L st nc 500 (psnd L st nc 500) w2 (Kd.C_below HK.out HB2.out) hc hkp).mono ?_
      rintro e w3 ⟨rfl, hb3⟩
      have HB3 := Lib.hid (below_step HB2.out hb3)
      have BK3 := Lib.hid (blk_below BK2.out hb3)
      clear hz0 hz1 hz2 hb3 BK2 HB2 hkp
      cases hps0 : psnd L st nc 500 with
      | false =>
        go_wp2_with fail
        go_ret
        exact ⟨rfl, HB3.out⟩
      | true =>
        have hps := psnd_says hps0
        have hm : L.length ≤ 500 := by have := hps.most; omega
        by_cases hz3 : s.size > 300
        · have hzd : decide (s.size > 300) = true := decide_eq_true hz3
          go_wp2_with fail
          go_ret
          exact ⟨rfl, HB3.out⟩
        · obtain ⟨t, ht⟩ : ∃ t : Nat, st = (t : Int) := ⟨st.toNat, by have := hps.st0; omega⟩
          have ht1 : t < L.length := by have := hps.st1; omega
          obtain ⟨v, hv, hv2⟩ := scF_nat hps L.length t 0 ht1 (by omega)
          obtain ⟨kl, hkl⟩ := (ev_leading hps t ht).get
          replace hv : scF L L.length t 0 = (v : Int) := hv
          have HPS := Lib.hid hps
          have HTT := Lib.hid ht
          have HV := Lib.hid hv
          have HKL := Lib.hid hkl
          clear hps hps0 ht hv hkl
          obtain ⟨hz0, hz1, hz2⟩ := blk3 BK3.out
          go_wp2_with fail
          refine (sycond_calls (HPS.out.most_le (by omega)) (fun i hi => by have := HFL.out i hi; omega) t v HTT.out HV.out w3 A c (Kd.C_below HK.out HB3.out) hc).mono ?_
          rintro e w4 ⟨rfl, hb4⟩
          have HB4 := Lib.hid (below_step HB3.out hb4)
          have BK4 := Lib.hid (blk_below BK3.out hb4)
          clear hz0 hz1 hz2 hb4 BK3 HB3
          go_wp2_with fail
          refine (sycond_calls L3_sound (fun i hi => by simp [L3] at hi; rcases hi with rfl | rfl | rfl <;> simp) 1 4 rfl L3_cond _ _ 3 (L3_at w4) (by simp [L3])).mono ?_
          rintro e w5 ⟨rfl, hb5⟩
          have HB5 := Lib.hid (below_step (below_alloc HB4.out _) hb5)
          have BK5 := Lib.hid (blk_below (blk_alloc BK4.out _) hb5)
          clear hb5 BK4 HB4
          obtain ⟨hz0, hz1, hz2⟩ := blk3 BK5.out
          go_wp2_with fail
          refine (spec_SyLeading.calls kl A c L st nc (v : Int) w5 (Kd.C_below HK.out HB5.out) hc (by rw [HKL.out, HV.out])).mono ?_
          rintro e w6 ⟨rfl, hb6⟩
          have HB6 := Lib.hid (below_step HB5.out hb6)
          have BK6 := Lib.hid (blk_below BK5.out hb6)
          clear hz0 hz1 hz2 hb6 BK5 HB5
          have hsz : s.size ≤ 300 := by omega
          go_wp2_with fail
          go_loopg [9] (s.size + 1) (fun gk s9 wr => ∃ j : Nat, Hid (gk + j = s.size + 1 ∧ Below w6.heap.size w6 wr) ∧ j ≤ s.size + 1 ∧ s9 = .int .i64 j)
          case atStart => exact ⟨0, ⟨by omega, Below.refl _ w6⟩, by omega, rfl⟩
          case round =>
            obtain ⟨j, HI, hj, rfl⟩ := hrel
            have HBr := Lib.hid (below_step HB6.out HI.out.2)
            by_cases hlt : j ≤ s.size
            · have hd1 : decide (j ≤ s.size) = true := decide_eq_true hlt
              obtain ⟨hz0, hz1, hz2⟩ := blk3 (blk_below BK6.out HI.out.2)
              go_wp2_with fail
              have hends := ends_calls HPS.out (by omega) (fun i hi => by have := HFL.out i hi; omega) HPS.out.op w wr A c HK.out HBr.out s (by omega) j hlt HT.out HF.out
              rw [show st.toNat = t by rw [HTT.out]; rfl] at hends
              refine hends.mono ?_
              clear hends
              obtain ⟨E, hE⟩ : ∃ E, E = endsF L s (s.size + 2 - j) [t] (lastR s j) j := ⟨_, rfl⟩
              rw [← hE]
              rintro e w7 ⟨lv, rfl, hrow, hb7⟩
              obtain ⟨AE, cE, rfl, _, _⟩ := rowAt_kd (l := dI E) (enc := Value.int .i64) (h1 := fun _ => rfl) (by unfold dI; rw [List.map_map]; exact hrow)
              have hdl : (dI E).length = E.length := by unfold dI; rw [List.length_map]
              rw [hdl]
              have HB7 := Lib.hid (below_step HI.out.2 hb7)
              have HB7w := Lib.hid (below_step HBr.out hb7)
              have HEE := Lib.hid hE
              clear hz0 hz1 hz2 hrow hb7 hE
              by_cases hne : E = []
              · have hl0 : E.length = 0 := by rw [hne]; rfl
                rw [hl0]
                go_wp2_with fail
                go_roundg (gk - 1)
                case measure => have := HI.out.1; omega
                case rel => exact ⟨j + 1, ⟨by have := HI.out.1; omega, HB7.out⟩, by omega, by go_num⟩
              · have hl1 : 0 < E.length := List.length_pos_iff.2 hne
                have hd2 : decide (0 < E.length) = true := decide_eq_true hl1
                obtain ⟨v2, cc, e1, e2, e3, e4, e5⟩ := ends_lead HPS.out t ht1 s (s.size + 2 - j) (lastR s j) j (by rw [← HEE.out]; exact hne)
                have hvv : v2 = v := by have := HV.out; rw [e1] at this; omega
                subst hvv
                have hd3 : ((v2 : Int) == 255) = false := by rw [beq_eq_false_iff_ne]; omega
                have hd4 : (v2 == 255) = false := by rw [beq_eq_false_iff_ne]; omega
                have ha : bits .and .i64 (cc : Int) (v2 : Int) = (v2 : Int) := by rw [and6 cc v2 e4 e2, e5]
                have HE3 := Lib.hid e3
                clear e1 e3 e5
                go_wp2_with fail
                refine (condat_calls s j w7 hlt (by omega) (Utf8Tabs_below HT.out HB7w.out)).mono ?_
                rw [HE3.out]
                rintro e w8 ⟨rfl, hb8⟩
                have HB8 := Lib.hid (below_step HB7.out hb8)
                clear hb8
                go_wp2_with fail
                go_roundg (gk - 1)
                case measure => have := HI.out.1; omega
                case rel => exact ⟨j + 1, ⟨by have := HI.out.1; omega, HB8.out⟩, by omega, by go_num⟩
            · have hd1 : decide (j ≤ s.size) = false := decide_eq_false hlt
              go_wp2_with fail
              go_ret
              exact ⟨rfl, HBr.out⟩
end Go.Proofs.YtiiehglfpiocmaaDoor.PgFnSyStartCond
