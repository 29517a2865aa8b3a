/- FnPgAdd: impl.PgAdd, and the law's own walk. -/
import Derived.Test.YtjmiliijoodbcaaDoorVmFnPgAdd
namespace Go.Proofs.YtjmiliijoodbcaaDoor.PgFnPgAdd
open Go.RowKit Go.Proofs.YtjmiliijoodbcaaDoor.EvN Go.Proofs.YtjmiliijoodbcaaDoor.Row Go.Proofs.YtjmiliijoodbcaaDoor.PFnPgAdd Go.Proofs.YtjmiliijoodbcaaDoorW.PrintWords Go.Proofs.YtjmiliijoodbcaaDoorW.PrintLast Go.Proofs.YtjmiliijoodbcaaDoorW.PrintMore
set_option linter.unusedSimpArgs false
set_option linter.unusedVariables false

def dI (D : List Nat) : List Int := D.map fun x : Nat => (x : Int)
def dB (L : List I) (D : List Nat) : List Bool := D.map fun x => waitsB (ins L x)

set_option maxRecDepth 100000 in
set_option maxHeartbeats 4000000 in
theorem pgadd_calls {L : List I} {st nc : Int} (h : PSound L st nc 2000) (hr : ∀ i ∈ L, i.f3.length * 4 ≤ 140737488351232) (W0 w : World) (hW : Below W0.heap.size W0 w) (A : Option Addr) (c : Nat) (hK : Kd.C k60 W0 A L.length L) (hc : L.length ≤ c)
    (pcs : List Nat) (Ap : Option Addr) (cp : Nat) (hp : ∀ pc ∈ pcs, pc < L.length) (hl : pcs.length ≤ 100) (hPC : Kd.C (Kd.int .i64) W0 Ap (pcs.map fun (x : Nat) => (x : Int)).length (pcs.map fun (x : Nat) => (x : Int))) (hS : Sizes W0)
    (b a F cond : Int) (hF : regexp_newLazyFlag.f b a = some F) (hmatch : ∀ a, 0 < a → a < 64 → ∃ k, regexp_lazyFlag_match.f k F a = some (holds cond a)) :
    Calls Tryd.prog 7 #[.agg #[.slice A L.length c, .int .i64 st, .int .i64 nc], .slice Ap pcs.length cp, .int .i32 b, .int .i32 a] w fun e w' => ∃ A1 c1 A2 c2, e = .returned (.tuple #[.slice A1 (dI (reachA L cond [] pcs)).length c1, .slice A2 (dB L (reachA L cond [] pcs)).length c2, .bool true]) ∧
      (dI (reachA L cond [] pcs)).length ≤ c1 ∧ Kd.C (Kd.int .i64) w' A1 (dI (reachA L cond [] pcs)).length (dI (reachA L cond [] pcs)) ∧ (dB L (reachA L cond [] pcs)).length ≤ c2 ∧ Kd.C Kd.bool w' A2 (dB L (reachA L cond [] pcs)).length (dB L (reachA L cond [] pcs)) ∧ Below w.heap.size w w' := by
  have hu24 := Tryd.underlying24
  have hm : L.length ≤ 2000 := by have := h.most; omega
  have hfd : Fine L.length (reachA L cond [] pcs) := reachA_fine h.leads pcs [] ⟨by simp, fun x hx => by cases hx⟩ hp
  have hdl := hfd.len
  obtain ⟨ki, hki⟩ := (ev_ints (dI (reachA L cond [] pcs)) (by unfold dI; rw [List.length_map]; omega) (fun x hx => by
    obtain ⟨y, hy, rfl⟩ := List.mem_map.1 hx
    have := hfd.lt y hy
    omega)).get
  have HS := Lib.hid h
  have HR := Lib.hid hr
  have HK := Lib.hid (Kd.C_below hK hW)
  have HPP := Lib.hid hp
  have HPC := Lib.hid (Kd.C_below hPC hW)
  have HSZ := Lib.hid (hS.below hW)
  have HF := Lib.hid hF
  have HMT := Lib.hid hmatch
  have HKI := Lib.hid hki
  clear h hr hK hp hPC hS hF hmatch hki hfd hdl hW
  go_enter Tryd.func7, Tryd.ntmps7
  go_wp2_with (first | ((with_reducible refine gate_dst (N := 4) rfl ?_); refine box_event ?hg (N := 4) ?hd (cs := #[.slice A L.length c, .int .i64 st, .int .i64 nc]) (t := 24) ?hr ?_; (case hd => rfl); (case hg => rfl); (case hr => first | (go_simp; done) | (go_simp; rfl)); intro gb hg w1 hbox hb; have BK := Lib.hid hbox; have HB1 := Lib.hid hb; clear hg hbox hb; obtain ⟨hz0, hz1, hz2⟩ := blk3 BK.out))
  refine (queued_calls HS.out HR.out w1 A c (Kd.C_below HK.out HB1.out) hc pcs Ap cp HPP.out hl (Kd.C_below HPC.out HB1.out)).mono ?_
  rintro e w2 ⟨p, lv, rfl, hpa, hrow, hb2⟩
  have HB2 := Lib.hid (below_step HB1.out hb2)
  obtain ⟨Al, cl, rfl, hcl, hkl⟩ := rowAt_kd (h1 := fun _ => rfl) hrow
  have HPA := Lib.hid hpa
  have HKL := Lib.hid hkl
  clear hz0 hz1 hz2 hpa hrow hkl hb2 BK HB1
  go_wp2_with fail
  refine (zzadd_calls HS.out p w2 HPA.out (HSZ.out.below HB2.out) pcs Al cl HPP.out HKL.out b a F cond HF.out HMT.out).mono ?_
  rintro e w3 ⟨lv, tv, rfl, r1, r2, hb3⟩
  obtain ⟨A3, c3, rfl, hc3, hk3⟩ := rowAt_kd (l := dI (reachA L cond [] pcs)) (enc := Value.int .u32) (h1 := fun _ => rfl) (by unfold dI; rw [List.map_map]; exact r1)
  obtain ⟨A4, c4, rfl, hc4, hk4⟩ := rowAt_kd (l := dB L (reachA L cond [] pcs)) (enc := Value.bool) (h1 := fun _ => rfl) (by unfold dB; rw [List.map_map]; exact r2)
  have HB3 := Lib.hid (below_step HB2.out hb3)
  have HK3 := Lib.hid hk3
  have HK4 := Lib.hid hk4
  clear r1 r2 hb3 hk3 hk4 HKL HPA HB2
  go_wp2_with fail
  refine (impl_ints.calls ki A3 c3 (dI (reachA L cond [] pcs)) (dI (reachA L cond [] pcs)) w3 HK3.out hc3 HKI.out).mono ?_
  rintro e w4 ⟨v0, rfl, hR, hb4⟩
  obtain ⟨A1, c1, rfl, hc1, hk1⟩ := Kd.R_reads hR
  have HK1 := Lib.hid hk1
  have HB4 := Lib.hid hb4
  clear hR hk1 hb4
  go_wp2_with fail
  go_ret3
  exact ⟨A1, c1, A4, c4, rfl, hc1, HK1.out, hc4, Kd.C_below HK4.out HB4.out, below_step HB3.out HB4.out⟩

set_option maxRecDepth 100000 in
set_option maxHeartbeats 4000000 in
theorem law_calls {L : List I} {st nc : Int} (w : World) (A : Option Addr) (c : Nat) (hK : Kd.C k60 w A L.length L) (hc : L.length ≤ c) (pcs : List Int) (Ap : Option Addr) (cp : Nat) (hPC : Kd.C (Kd.int .i64) w Ap pcs.length pcs) (hcp : pcs.length ≤ cp) (hS : Sizes w) (b a : Int) :
    Calls Tryd.prog 3 #[.agg #[.slice A L.length c, .int .i64 st, .int .i64 nc], .slice Ap pcs.length cp, .int .i32 b, .int .i32 a] w fun e w' => e = .returned (.bool true) ∧ Below w.heap.size w w' := by
  have hu24 := Tryd.underlying24
  obtain ⟨kf, hkf⟩ := (ev_fits L st nc).get
  have HK := Lib.hid hK
  have HPC := Lib.hid hPC
  have HSZ := Lib.hid hS
  have hpl : pcs.length ≤ 9223372036854775807 := hPC.2.1
  clear hK hPC hS
  go_enter Tryd.func3, Tryd.ntmps3
  go_wp2_with (first | ((with_reducible refine gate_dst (N := 4) rfl ?_); refine box_event ?hg (N := 4) ?hd (cs := #[.slice A L.length c, .int .i64 st, .int .i64 nc]) (t := 24) ?hr ?_; (case hd => rfl); (case hg => rfl); (case hr => first | (go_simp; done) | (go_simp; rfl)); intro gb hg w1 hbox hb; have BK := Lib.hid hbox; have HB1 := Lib.hid hb; clear hg hbox hb; obtain ⟨hz0, hz1, hz2⟩ := blk3 BK.out))
  refine (laws_zzFits3.calls kf A c L st nc (fits L) w1 (Kd.C_below HK.out HB1.out) hc hkf).mono ?_
  rintro e w2 ⟨rfl, hb2⟩
  have HB2 := Lib.hid (below_step HB1.out hb2)
  have BK2 := Lib.hid (blk_below BK.out hb2)
  clear hz0 hz1 hz2 hb2 BK HB1 hkf
  cases hf : fits L with
  | false =>
    go_wp2_with fail
    go_ret
    exact ⟨rfl, HB2.out⟩
  | true =>
    have hfl : L.length ≤ 2147483647 ∧ ∀ i ∈ L, i.f3.length ≤ 2147483647 := by
      unfold fits at hf
      simp only [Bool.and_eq_true, decide_eq_true_eq, List.all_eq_true] at hf
      exact hf
    have HFL := Lib.hid hfl.2
    have hfl1 := hfl.1
    clear hfl hf
    by_cases hz : pcs.length > 2147483647
    · have hzd : decide (pcs.length > 2147483647) = true := decide_eq_true hz
      go_wp2_with fail
      go_ret
      exact ⟨rfl, HB2.out⟩
    · obtain ⟨hz0, hz1, hz2⟩ := blk3 BK2.out
      go_wp2_with fail
      obtain ⟨kp, hkp⟩ := (ev_put L st nc pcs b a (by omega) (fun i hi => by have := HFL.out i hi; omega)).get
      refine (laws_pgPut.calls kp A c L st nc Ap cp pcs b a a (putB L st nc pcs b a) w2 (Kd.C_below HK.out HB2.out) hc (Kd.C_below HPC.out HB2.out) hcp hkp).mono ?_
      rintro e w3 ⟨rfl, hb3⟩
      have HB3 := Lib.hid (below_step HB2.out hb3)
      have BK3 := Lib.hid (blk_below BK2.out hb3)
      clear hz0 hz1 hz2 hb3 BK2 HB2 hkp
      cases hpt : putB L st nc pcs b a with
      | false =>
        go_wp2_with fail
        go_ret
        exact ⟨rfl, HB3.out⟩
      | true =>
        have hsay := put_says hpt
        obtain ⟨qs, hqs, hq⟩ := hsay.pi
        subst hqs
        have hps := psnd_says hsay.snd
        have HPS := Lib.hid hps
        have HSAY := Lib.hid hsay
        have HQ := Lib.hid hq
        have hqe : (qs.map fun (x : Nat) => (x : Int)).length = qs.length := by simp
        have hql : qs.length ≤ 100 := by have := hsay.pl; omega
        have HQE := Lib.hid hqe
        have hm : L.length ≤ 2000 := by have := hps.most; omega
        have HH := Lib.hid (And.intro hz (And.intro hpl hcp))
        clear hps hsay hq hpt hqe hz hpl hcp
        obtain ⟨hz0, hz1, hz2⟩ := blk3 BK3.out
        go_wp2_with fail
        refine (pgadd_calls HPS.out (fun i hi => by have := HFL.out i hi; omega) w w3 HB3.out A c HK.out hc qs Ap cp HQ.out hql HPC.out HSZ.out b a _ _ rfl (lazy_match HSAY.out.b0 HSAY.out.b1 HSAY.out.a0 HSAY.out.a1 rfl (cond_c 0 b a))).mono ?_
        obtain ⟨cond, hcond⟩ : ∃ cond, cond = cP (decide (b = -1)) (b == 10) (decide (a = -1)) (a == 10) (wdB b != wdB a) := ⟨_, rfl⟩
        have hcc : spec_CondBetween.f 6 b a = some cond := by rw [hcond]; exact cond_c 0 b a
        rw [← hcond]
        have HCC := Lib.hid hcc
        clear hcc hcond
        obtain ⟨D, hD⟩ : ∃ D, D = reachA L cond [] qs := ⟨_, rfl⟩
        rw [← hD]
        rintro e w4 ⟨A1, c1, A2, c2, rfl, hc1, hk1, hc2, hk2, hb4⟩
        have HK1 := Lib.hid hk1
        have HK2 := Lib.hid hk2
        have HB4 := Lib.hid (below_step HB3.out hb4)
        have BK4 := Lib.hid (blk_below BK3.out hb4)
        have HD := Lib.hid hD
        clear hz0 hz1 hz2 hk1 hk2 hb4 BK3 HB3 hD
        obtain ⟨hz0, hz1, hz2⟩ := blk3 BK4.out
        go_wp2_with fail
        refine (reach_calls HPS.out.leads hm HPS.out.pos HPS.out.op b a cond 6 HCC.out w w4 A c HK.out HB4.out qs Ap cp HQ.out (by have := Kd.C_below HPC.out HB4.out; rwa [HQE.out] at this)).mono ?_
        rw [← HD.out]
        rintro e w5 ⟨lv, wv, rfl, r1, r2, hb5⟩
        obtain ⟨A3, c3, rfl, hc3, hk3⟩ := rowAt_kd (l := dI D) (enc := Value.int .i64) (h1 := fun _ => rfl) (by unfold dI; rw [List.map_map]; exact r1)
        obtain ⟨A4, c4, rfl, hc4, hk4⟩ := rowAt_kd (l := dB L D) (enc := Value.bool) (h1 := fun _ => rfl) (by unfold dB; rw [List.map_map]; exact r2)
        have HB5 := Lib.hid (below_step HB4.out hb5)
        have HK3 := Lib.hid hk3
        have HK4 := Lib.hid hk4
        have HK1' := Lib.hid (Kd.C_below HK1.out hb5)
        have HK2' := Lib.hid (Kd.C_below HK2.out hb5)
        clear hz0 hz1 hz2 r1 r2 hb5 hk3 hk4 BK4 HB4 HK1 HK2
        have hdl : D.length ≤ 2000 := by
          have := (reachA_fine (cond := cond) HPS.out.leads qs [] ⟨by simp, fun x hx => by cases hx⟩ HQ.out).len
          rw [← HD.out] at this; omega
        obtain ⟨k1, hk1⟩ := (ev_sameInts (dI D) (by unfold dI; rw [List.length_map]; omega)).get
        obtain ⟨k2, hk2⟩ := (ev_sameBools (dB L D) (by unfold dB; rw [List.length_map]; omega)).get
        have HE2 := Lib.hid hk2
        clear hk2
        go_wp2_with fail
        refine (spec_SameInts.calls k1 A1 c1 (dI D) A3 c3 (dI D) true w5 HK1'.out hc1 HK3.out hc3 hk1).mono ?_
        rintro e w6 ⟨rfl, hd6⟩
        have HD6 := Lib.hid hd6
        clear hd6 hk1
        go_wp2_with fail
        refine (spec_SameBools.calls k2 A2 c2 (dB L D) A4 c4 (dB L D) true w6 (Kd.C_below HK2'.out HD6.out.below) hc2 (Kd.C_below HK4.out HD6.out.below) hc4 HE2.out).mono ?_
        rintro e w7 ⟨rfl, hd7⟩
        have HD7 := Lib.hid hd7
        clear hd7
        go_wp2_with fail
        go_ret
        exact ⟨rfl, below_step (below_step HB5.out HD6.out.below) HD7.out.below⟩
end Go.Proofs.YtjmiliijoodbcaaDoor.PgFnPgAdd
