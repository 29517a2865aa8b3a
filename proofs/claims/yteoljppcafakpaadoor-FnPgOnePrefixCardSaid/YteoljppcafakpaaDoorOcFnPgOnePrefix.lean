/- FnPgOnePrefix: impl.PgOnePrefix, and the law's own walk. -/
import Derived.Test.YteoljppcafakpaaDoorTcFnPgOnePrefix
import Derived.Test.YteoljppcafakpaaDoorCaFnPgOnePrefix
import Derived.Test.YteoljppcafakpaaDoorOaFnPgOnePrefix
import Derived.Test.YteoljppcafakpaaDoorOgFnPgOnePrefix
import Derived.Test.YteoljppcafakpaaDoorOhFnPgOnePrefix
import Derived.Test.YteoljppcafakpaaDoorSmFnPgOnePrefix
import Derived.Test.YteoljppcafakpaaDoorPeFnPgOnePrefix
import Derived.Laws.BitsLemmas
namespace Go.Proofs.YteoljppcafakpaaDoor.PgFnPgOnePrefix
open Go.RowKit Go.Proofs.YteoljppcafakpaaDoor.EvN Go.Proofs.YteoljppcafakpaaDoor.Row Go.Proofs.YteoljppcafakpaaDoor.Sf Go.Proofs.YteoljppcafakpaaDoor.Bd Go.Proofs.YteoljppcafakpaaDoor.PFnPgOnePrefix Go.Proofs.YteoljppcafakpaaDoorW.PrintWords Go.Proofs.YteoljppcafakpaaDoorW.PrintLast Go.Proofs.YteoljppcafakpaaDoorW.PrintMore
set_option linter.unusedSimpArgs false
set_option linter.unusedVariables false

theorem opF_lt {L : List I} {st nc most : Int} (h : PSound L st nc most) (hh : NoHalf L) (t : Nat) (ht : t < L.length) (h3 : (ins L t).f0 = 3) : (opF L t).2.2 < L.length := (opF_ends h hh ByteArray.empty t ht h3).1

set_option maxRecDepth 100000 in
theorem zzone_calls (X : List Int × Bool × Nat) (p : Nat) (w : World) (h : Calls Tryd.prog 46 #[.pointer (some ⟨p, 0, none⟩)] w fun e w' => e = .returned (.tuple #[.string ⟨(encs X.1).toArray⟩, .bool X.2.1, .int .u32 (X.2.2 : Nat)]) ∧ Below w.heap.size w w') :
    Calls Tryd.prog 24 #[.pointer (some ⟨p, 0, none⟩)] w fun e w' => e = .returned (.tuple #[.string ⟨(encs X.1).toArray⟩, .bool X.2.1, .int .u32 (X.2.2 : Nat)]) ∧ Below w.heap.size w w' := by
  go_enter Tryd.func24, Tryd.ntmps24
  go_wp2_with fail
  refine h.mono ?_
  rintro e w3 ⟨rfl, hb3⟩
  go_wp2_with fail
  go_ret3
  exact ⟨rfl, hb3⟩

set_option maxRecDepth 100000 in
set_option maxHeartbeats 4000000 in
theorem one_calls {L : List I} {st nc : Int} (h : PSound L st nc 2000) (hh : NoHalf L) (hr : ∀ i ∈ L, i.f3.length * 4 ≤ 140737488351232) (t : Nat) (ht : st = (t : Int)) (h3 : (ins L t).f0 = 3) (h4 : (Go.bits .and .u8 (ins L t).f2 4 == 0) = false) (w : World) (A : Option Addr) (c : Nat) (hK : Kd.C k29 w A L.length L) (hc : L.length ≤ c) :
    Calls Tryd.prog 10 #[.agg #[.slice A L.length c, .int .i64 st, .int .i64 nc]] w fun e w' => e = .returned (.tuple #[.string ⟨(encs (opF L t).1).toArray⟩, .bool (opF L t).2.1, .int .i64 ((opF L t).2.2 : Nat), .bool true]) ∧ Below w.heap.size w w' := by
  have hu24 := Tryd.underlying24
  have hm : L.length ≤ 2000 := by have := h.most; omega
  have hlt := opF_lt h hh t (by have := h.st1; omega) h3
  have HS := Lib.hid h
  have HR := Lib.hid hr
  have HK := Lib.hid hK
  have HT := Lib.hid ht
  have H3 := Lib.hid h3
  have H4 := Lib.hid h4
  clear h hr hK ht h3 h4 hh
  go_enter Tryd.func10, Tryd.ntmps10
  go_wp2_with fail
  refine (prog_calls HS.out HR.out w _ A c HK.out hc (below_alloc (Below.refl _ w) _)).mono ?_
  rintro e w2 ⟨p, rfl, hlp, hpa, hb2⟩
  have HPA := Lib.hid hpa
  have HB2 := Lib.hid (below_step (below_alloc (Below.refl _ w) _) hb2)
  clear hpa hb2
  go_wp2_with fail
  refine (zzone_calls (opF L t) p w2 (opp_calls HS.out hm p w2 HPA.out t HT.out H3.out H4.out)).mono ?_
  rintro e w3 ⟨rfl, hb3⟩
  have HB3 := Lib.hid (below_step HB2.out hb3)
  clear hb3
  go_wp2_with fail
  exact bodyPost_ret (v := .tuple #[.string ⟨(encs (opF L t).1).toArray⟩, .bool (opF L t).2.1, .int .i64 ((opF L t).2.2 : Nat), .bool true]) (by simp [results, Tryd.results10, go_sem]) rfl ⟨rfl, HB3.out⟩

theorem take_of_extract (s : ByteArray) (P : List UInt8) (pre : ByteArray) (hp : pre.data.toList = P) (h : s.extract 0 pre.size = pre) : s.data.toList.take P.length = P := by
  have h1 : (s.extract 0 pre.size).data.toList = P := by rw [h, hp]
  have h2 : pre.size = P.length := by rw [← hp, Array.length_toList]; rfl
  rw [h2] at h1
  simpa using h1
theorem extract_of_take (s : ByteArray) (P : List UInt8) (pre : ByteArray) (hp : pre.data.toList = P) (h : s.data.toList.take P.length = P) : s.extract 0 pre.size = pre := by
  have h2 : pre.size = P.length := by rw [← hp, Array.length_toList]; rfl
  have h3 : (s.extract 0 pre.size).data.toList = pre.data.toList := by rw [h2, hp]; simpa using h
  have h4 : (s.extract 0 pre.size).data = pre.data := Array.toList_inj.1 h3
  exact ByteArray.ext h4

theorem endsF_len (L : List I) (s : ByteArray) : ∀ (n : Nat) (pcs : List Nat) (last : Int) (i : Nat), (endsF L s n pcs last i).length ≤ n := by
  intro n
  induction n with
  | zero => intro pcs last i; simp [endsF]
  | succ n ih =>
    intro pcs last i
    rw [endsF]
    split
    · simp
    · rw [List.length_append]
      have := ih (if (dec s i).2 = 0 then [] else nextP L (dec s i).1 (reachA L (condZ last (dec s i).1) [] pcs)) (dec s i).1 (i + (dec s i).2)
      split <;> simp <;> omega
theorem ba_of_toList {a b : ByteArray} (e : a.toList = b.toList) : a = b := by
  rw [ByteArray.toList_eq, ByteArray.toList_eq] at e
  exact ByteArray.ext (Array.toList_inj.1 e)
theorem addk (g k : Nat) : (⟨g, 0, none⟩ : Addr).add k = ⟨g, k, none⟩ := by unfold Addr.add; split <;> simp_all
set_option maxRecDepth 100000 in
set_option maxHeartbeats 4000000 in
theorem law_calls {L : List I} {st nc : Int} (w : World) (A : Option Addr) (c : Nat) (hK : Kd.C k29 w A L.length L) (hc : L.length ≤ c) (s : ByteArray) (hT : Tabs w) (hF : Folds w) :
    Calls Tryd.prog 3 #[.agg #[.slice A L.length c, .int .i64 st, .int .i64 nc], .string s] w fun e w' => e = .returned (.bool true) ∧ Below w.heap.size w w' := by
  have hu24 := Tryd.underlying24
  obtain ⟨kf, hkf⟩ := (ev_fits L st nc).get
  have HK := Lib.hid hK
  have HT := Lib.hid hT
  have HF := Lib.hid hF
  clear hK hT hF
  go_enter Tryd.func3, Tryd.ntmps3
  go_wp2_with fail
  obtain ⟨gb, hgb⟩ : ∃ gb, gb = w.heap.size := ⟨_, rfl⟩
  have BK := Lib.hid (heap_alloc_new w (.cells #[.slice A L.length c, .int .i64 st, .int .i64 nc] 24))
  have HB1 := Lib.hid (below_alloc (Below.refl w.heap.size w) (.cells #[.slice A L.length c, .int .i64 st, .int .i64 nc] 24))
  have GB := Lib.hid (show w.heap.size ≤ gb by omega)
  rw [← hgb] at BK ⊢
  clear hgb
  generalize w.alloc (.cells #[.slice A L.length c, .int .i64 st, .int .i64 nc] 24) = w1 at *
  refine (laws_zzFits3.calls kf A c L st nc (fits L) w1 (Kd.C_below HK.out HB1.out) hc hkf).mono ?_
  rintro e w2 ⟨rfl, hb2⟩
  have HB2 := Lib.hid (below_step HB1.out hb2)
  have BK2 := Lib.hid (blk_below BK.out hb2)
  clear hb2 BK HB1 hkf
  cases hf : fits L with
  | false =>
    go_wp2_with fail
    go_ret
    exact ⟨rfl, HB2.out⟩
  | true =>
    have hfl : L.length ≤ 2147483647 ∧ ∀ i ∈ L, i.f3.length ≤ 2147483647 := by
      unfold fits at hf
      simp only [Bool.and_eq_true, decide_eq_true_eq, List.all_eq_true] at hf
      exact hf
    have HFL := Lib.hid hfl.2
    have hfl1 := hfl.1
    clear hfl hf
    by_cases hz : s.size > 2147483647
    · have hzd : decide (s.size > 2147483647) = true := decide_eq_true hz
      go_wp2_with fail
      go_ret
      exact ⟨rfl, HB2.out⟩
    · have hzd : decide ((2147483647 : Int) < (s.size : Int)) = false := decide_eq_false (by omega)
      by_cases hz1 : s.size > 1000
      · have hzd1 : decide (s.size > 1000) = true := decide_eq_true hz1
        go_wp2_with fail
        go_ret
        exact ⟨rfl, HB2.out⟩
      · have hzd1 : decide ((1000 : Int) < (s.size : Int)) = false := decide_eq_false (by omega)
        obtain ⟨hz0, hz1, hz2⟩ := blk3 BK2.out
        go_wp2_with fail
        refine (fine_calls hfl1 HFL.out s (by omega) w2 A c (Kd.C_below HK.out HB2.out) hc).mono ?_
        rintro e w3 ⟨rfl, hb3⟩
        have HB3 := Lib.hid (below_step HB2.out hb3)
        have BK3 := Lib.hid (blk_below BK2.out hb3)
        clear hz0 hz1 hz2 hb3 BK2 HB2
        cases hfi : fineB L st nc s with
        | false =>
          go_wp2_with fail
          go_ret
          exact ⟨rfl, HB3.out⟩
        | true =>
          have hps : PSound L st nc 2000 := by
            unfold fineB at hfi
            simp only [Bool.and_eq_true] at hfi
            exact psnd_says hfi.2
          have hm : L.length ≤ 2000 := by have := hps.most; omega
          obtain ⟨t, rfl⟩ : ∃ t : Nat, st = (t : Int) := ⟨st.toNat, by have := hps.st0; omega⟩
          have ht1 : t < L.length := by have := hps.st1; omega
          obtain ⟨kh, hkh⟩ := (ev_halves L (t : Int) nc hfl1).get
          have HPS := Lib.hid hps
          have HKH := Lib.hid hkh
          clear hps hfi hkh
          obtain ⟨hz0, hz1, hz2⟩ := blk3 BK3.out
          go_wp2_with fail
          refine (spec_ProgHalves.calls kh A c L (t : Int) nc (L.any halfB) w3 (Kd.C_below HK.out HB3.out) hc HKH.out).mono ?_
          rintro e w4 ⟨rfl, hb4⟩
          have HB4 := Lib.hid (below_step HB3.out hb4)
          have BK4 := Lib.hid (blk_below BK3.out hb4)
          clear hz0 hz1 hz2 hb4 BK3 HB3
          cases hha : L.any halfB with
          | true =>
            go_wp2_with fail
            go_ret
            exact ⟨rfl, HB4.out⟩
          | false =>
            have hnh := noHalf_of HPS.out hha
            have HNH := Lib.hid hnh
            clear hnh hha HKH
            obtain ⟨ad, A3, c3, hAe, hx0, hx1, hx2, hx3, -, -⟩ := inst_at HK.out HB4.out t ht1
            rw [← ins_lt L t ht1] at hx0 hx1 hx2 hx3
            obtain ⟨hz0, hz1, hz2⟩ := blk3 BK4.out
            rw [hAe] at hz0
            by_cases g3 : (ins L t).f0 = 3
            · obtain ⟨a1, a2⟩ := HPS.out.arg3 t ht1 g3
              obtain ⟨a, ha⟩ : ∃ a : Nat, (ins L t).f2 = (a : Int) := ⟨(ins L t).f2.toNat, by omega⟩
              rw [g3] at hx0
              rw [ha] at hx2
              have hb64 := (bits_nat .i64 6 (by decide) (fun n h0 h1 => by rw [IntKind.wrap_i64]; omega) a 4 (by omega) (by decide)).1
              have hb8 := (bits_nat .u8 6 (by decide) (fun n h0 h1 => by rw [IntKind.wrap_u8]; omega) a 4 (by omega) (by decide)).1
              by_cases h4 : a &&& 4 = 0
              · have hbz : Go.bits .and .i64 (a : Int) 4 = 0 := by
                  have e : Go.bits .and .i64 (a : Int) 4 = ((a &&& 4 : Nat) : Int) := hb64
                  rw [e, h4]; rfl
                clear hb64 hb8
                go_wp2_with fail
                go_ret
                exact ⟨rfl, HB4.out⟩
              · have hbz : ¬ Go.bits .and .i64 (a : Int) 4 = 0 := by
                  have e : Go.bits .and .i64 (a : Int) 4 = ((a &&& 4 : Nat) : Int) := hb64
                  rw [e]; omega
                have hbu : (Go.bits .and .u8 (ins L t).f2 4 == 0) = false := by
                  have e : Go.bits .and .u8 (a : Int) 4 = ((a &&& 4 : Nat) : Int) := hb8
                  rw [ha, e, beq_eq_false_iff_ne]; omega
                clear hb64 hb8
                go_wp2_with fail
                have hone := one_calls HPS.out HNH.out (fun i hi => by have := HFL.out i hi; omega) t rfl g3 hbu w4 A c (Kd.C_below HK.out HB4.out) hc
                rw [hAe] at hone
                refine hone.mono ?_
                clear hone hx0 hx1 hx2 hx3 hz0 hz1 hz2 hbu hbz
                obtain ⟨E1, E2, E3, E4⟩ := opF_ends HPS.out HNH.out s t ht1 g3
                generalize opF L t = X at *
                obtain ⟨P, b, q⟩ := X
                dsimp only at E1 E2 E3 E4 ⊢
                obtain ⟨pre, hpre⟩ : ∃ pre : ByteArray, pre = ⟨(encs P).toArray⟩ := ⟨_, rfl⟩
                rw [← hpre]
                have hpl : pre.data.toList = encs P := by rw [hpre]
                have hps2 : pre.size = (encs P).length := by rw [← hpl, Array.length_toList]; rfl
                obtain ⟨E, hE⟩ : ∃ E, E = endsF L s (s.size + 2) [t] (lastR s 0) 0 := ⟨_, rfl⟩
                rw [← hE] at E2 E3 E4
                rw [← hps2] at E4
                have hng : holds (condZ (lastR s 0) (dec s 0).1) (ins L t).f2 = (Go.bits .and .i64 (condZ (lastR s 0) (dec s 0).1) (a : Int) == (a : Int)) := by unfold holds; rw [ha]
                rw [hng] at E2 E4
                have HE := Lib.hid hE
                have HE2 := Lib.hid E2
                have HE3 := Lib.hid (show ¬ s.extract 0 pre.size = pre → E = [] from fun h => E3 (fun e => h (extract_of_take s _ pre hpl e)))
                have HE4 := Lib.hid (show (Go.bits .and .i64 (condZ (lastR s 0) (dec s 0).1) (a : Int) == (a : Int)) = true → s.extract 0 pre.size = pre → E = endsF L s (s.size + 2 - pre.size) [q] (lastR s pre.size) pre.size ∧ (b = true → ∀ e ∈ E, e = pre.size) from fun h1 h2 => E4 h1 (by rw [hps2]; exact take_of_extract s _ pre hpl h2))
                have HA := Lib.hid ha
                clear hE E2 E3 E4 hng hpl hps2 hpre ha P
                rintro e w5 ⟨rfl, hb5⟩
                have HB5 := Lib.hid (below_step HB4.out hb5)
                have BK5 := Lib.hid (blk_below BK4.out hb5)
                clear hb5 BK4 HB4
                obtain ⟨ad', A3', c3', hAe', hx0, hx1, hx2, hx3, -, -⟩ := inst_at HK.out HB5.out t ht1
                rw [hAe] at hAe'
                cases hAe'
                rw [← ins_lt L t ht1] at hx2
                rw [HA.out] at hx2
                obtain ⟨hz0, hz1, hz2⟩ := blk3 BK5.out
                rw [hAe] at hz0
                clear hx0 hx1 hx3
                have hq1 : decide ((q : Int) < (L.length : Int)) = true := decide_eq_true (by omega)
                have hq2 : decide ((L.length : Int) ≤ (q : Int)) = false := decide_eq_false (by omega)
                have hq3 : decide (L.length ≤ q) = false := decide_eq_false (by omega)
                go_upto_region 8 with (fail)
                have lgb := blk_lt BK5.out
                have lad := World.block_lt_of_cell? w5 _ hx2
                have lg0 := World.block_lt_of_cell? w5 _ hz0
                have HCE := Lib.hid hAe
                go_cut [9, 10] (fun v9 v10 wc => ∃ (AE : Option Addr) (cE : Nat), v9 = .slice AE E.length cE ∧ v10 = .int .i64 (a : Int) ∧ Hid (RowAt wc (fun i => w5.heap.size ≤ i) 3 (.slice AE E.length cE) (iv E) ∧ Below w5.heap.size w5 wc))
                case first =>
                  go_region_held3 (fun w' => w'.cell? ⟨gb, 0, none⟩ = some (.slice (some ad) L.length c) ∧ w'.cell? ⟨gb, 1, none⟩ = some (.int .i64 (t : Int)) ∧ w'.cell? ⟨gb, 2, none⟩ = some (.int .i64 nc) ∧ w'.cell? ⟨(ad.add (t * 4)).block, (ad.add (t * 4)).off + 2, none⟩ = some (.int .i64 (a : Int)))
                    (first
                      | go_keep
                      | (go_split_ands
                         refine ⟨?_, ?_, ?_, ?_⟩
                         · ((rw [hd.cell (by first | exact lgb | (simp; omega))]); assumption)
                         · ((rw [hd.cell (by first | exact lgb | (simp; omega))]); assumption)
                         · ((rw [hd.cell (by first | exact lgb | (simp; omega))]); assumption)
                         · ((rw [hd.cell (by first | exact lad | (simp; omega))]); assumption)))
                    ((go_at_call 11; refine (ends_calls HPS.out hm (fun i hi => by have := HFL.out i hi; omega) HPS.out.op w _ (some ad) c (by have := HK.out; rw [HCE.out] at this; exact this) (by first | exact HB5.out | exact below_drew HB5.out) s (by omega) 0 (Nat.zero_le _) HT.out HF.out).mono ?_; rintro e w6 ⟨lv, rfl, hrow, hd⟩; rw [Int.toNat_natCast, Nat.sub_zero, ← HE.out] at hrow))
                  all_goals
                    obtain ⟨AE, cE, rfl, _, _⟩ := rowAt_kd (l := dI E) (enc := Value.int .i64) (h1 := fun _ => rfl) (by unfold dI; rw [List.map_map]; exact hrow)
                    rw [show (dI E).length = E.length by unfold dI; rw [List.length_map]] at hrow ⊢
                    go_wp2_with fail
                    go_meet
                    first
                      | exact ⟨AE, cE, rfl, rfl, Lib.hid ⟨hrow.mono fun i hi hs => ⟨hs.1, rfl⟩, below_step (below_drew (Below.refl _ w5)) hd⟩⟩
                      | exact ⟨AE, cE, rfl, rfl, Lib.hid ⟨hrow.mono fun i hi hs => ⟨hs.1, rfl⟩, below_drew (below_step (below_drew (Below.refl _ w5)) hd)⟩⟩
                      | exact ⟨AE, cE, rfl, rfl, Lib.hid ⟨hrow.mono fun i hi hs => ⟨hs.1, rfl⟩, hd⟩⟩
                case rest =>
                  obtain ⟨AE, cE, rfl, rfl, HQ⟩ := hcut
                  clear hz0 hz1 hz2 hx2
                  have HW6 := Lib.hid (below_step HB5.out HQ.out.2)
                  have BK6 := Lib.hid (blk_below BK5.out HQ.out.2)
                  obtain ⟨hz0, hz1, hz2⟩ := blk3 BK6.out
                  rw [hAe] at hz0
                  have none_ : E = [] → (E.length == 0) = true := fun h => by rw [h]; rfl
                  by_cases hsz : s.size < pre.size
                  · have hs1 : decide (s.size < pre.size) = true := decide_eq_true hsz
                    have hE0 : E = [] := HE3.out fun e => by
                      have := congrArg ByteArray.size e
                      simp at this
                      omega
                    have hel : E.length = 0 := by rw [hE0]; rfl
                    rw [hel]
                    go_wp2_with fail
                    go_ret
                    exact ⟨rfl, HW6.out⟩
                  · have hs1 : decide (s.size < pre.size) = false := decide_eq_false hsz
                    have hs2 : pre.size ≤ s.size := by omega
                    by_cases hne : s.extract 0 pre.size = pre
                    · generalize hcz : condZ (lastR s 0) (dec s 0).1 = cz at *
                      go_wp2_with fail
                      refine (condat_calls s 0 _ (Nat.zero_le _) (by omega) (Utf8Tabs_below HT.out HW6.out)).mono ?_
                      rw [hcz]
                      rintro e w7 ⟨rfl, hb7⟩
                      have HW7 := Lib.hid (below_step HW6.out hb7)
                      have BK7 := Lib.hid (blk_below BK6.out hb7)
                      have HR7 := Lib.hid (HQ.out.1.mono (w' := w7) (S' := fun i => w5.heap.size ≤ i) fun i hi hs => ⟨hs, hb7.block i hi⟩)
                      clear hb7 hz0 hz1 hz2 BK6 HQ hcz
                      cases hh : (Go.bits .and .i64 cz (a : Int) == (a : Int)) with
                      | false =>
                        have hE0 : E = [] := HE2.out hh
                        have hel : E.length = 0 := by rw [hE0]; rfl
                        have hnb : ¬ Go.bits .and .i64 cz (a : Int) = (a : Int) := beq_eq_false_iff_ne.1 hh
                        rw [hel]
                        go_wp2_with fail
                        go_ret
                        exact ⟨rfl, HW7.out⟩
                      | true =>
                        have hnb : Go.bits .and .i64 cz (a : Int) = (a : Int) := eq_of_beq hh
                        obtain ⟨F1, F2⟩ := HE4.out hh hne
                        have HF1 := Lib.hid F1
                        have HF2 := Lib.hid F2
                        clear F1 F2 hh HE2 HE3 HE4
                        have HNE := Lib.hid hne
                        go_wp2_with fail
                        clear hne
                        have RD := Lib.hid (show ∀ k (h : k < E.length), ∃ ad0, AE = some ad0 ∧ w7.cell? (ad0.add k) = some (.int .i64 ((E[k] : Nat) : Int)) from fun k h => by
                          obtain ⟨g0, cap0, e, _, _, _, _, hcell⟩ := HR7.out.cell (by intro e; have := congrArg List.length e; simp at this; rw [this] at h; simp at h)
                          have hx := hcell k (by simpa using h)
                          rw [List.getElem_map] at hx
                          simp only [Value.slice.injEq] at e
                          refine ⟨⟨g0, 0, none⟩, e.1, ?_⟩
                          rw [addk]
                          exact hx)
                        have hEl : E.length ≤ 1002 := by
                          rw [HE.out]
                          exact Nat.le_trans (endsF_len L s _ _ _ _) (by omega)
                        go_loopg [12, 111] E.length (fun gk s12 s111 wr => ∃ k : Nat, Hid (gk + k = E.length ∧ wr = w7) ∧ k ≤ E.length ∧ s111 = .int .i64 k)
                        case atStart => exact ⟨0, ⟨by omega, rfl⟩, by omega, rfl⟩
                        case round =>
                          obtain ⟨k, HI, hk, rfl⟩ := hrel
                          obtain rfl := HI.out.2
                          by_cases hlt : k < E.length
                          · have hd1 : decide (k < E.length) = true := decide_eq_true hlt
                            obtain ⟨ad0, rfl, hcell⟩ := RD.out k hlt
                            cases b with
                            | false =>
                              go_wp2_with fail
                              go_roundg (gk - 1)
                              case measure => have := HI.out.1; omega
                              case rel => exact ⟨k + 1, ⟨by have := HI.out.1; omega, rfl⟩, by omega, by go_num⟩
                            | true =>
                              have he : E[k] = pre.size := HF2.out rfl _ (List.getElem_mem hlt)
                              rw [he] at hcell
                              go_wp2_with fail
                              go_roundg (gk - 1)
                              case measure => have := HI.out.1; omega
                              case rel => exact ⟨k + 1, ⟨by have := HI.out.1; omega, rfl⟩, by omega, by go_num⟩
                          · have hd1 : decide (k < E.length) = false := decide_eq_false hlt
                            obtain ⟨hz0, hz1, hz2⟩ := blk3 BK7.out
                            rw [hAe] at hz0
                            have hfz := blk_frozen BK7.out 1
                            have hps2 : PSound L (q : Int) nc 2000 := ⟨HPS.out.pos, HPS.out.most, HPS.out.first, by omega, by omega, HPS.out.nc0, HPS.out.nc1, HPS.out.even, HPS.out.inst, HPS.out.circ⟩
                            have HPS2 := Lib.hid hps2
                            clear hps2
                            go_wp2_with fail
                            have hb8 := Lib.hid (below_set (j := 1) (v := .int .i64 (q : Int)) HW7.out GB.out)
                            refine (ends_calls HPS2.out hm (fun i hi => by have := HFL.out i hi; omega) HPS2.out.op w _ (some ad) c (by have := HK.out; rw [hAe] at this; exact this) hb8.out s (by omega) pre.size hs2 HT.out HF.out).mono ?_
                            rintro e w8 ⟨lv, rfl, hrow, hb9⟩
                            rw [Int.toNat_natCast, ← HF1.out] at hrow
                            obtain ⟨A9, c9, rfl, hc9, hk9⟩ := rowAt_kd (l := dI E) (enc := Value.int .i64) (h1 := fun _ => rfl) (by unfold dI; rw [List.map_map]; exact hrow)
                            have hr8 : RowAt w8 (fun i => w5.heap.size ≤ i) 3 (.slice AE E.length cE) (iv E) := HR7.out.mono fun i hi hs => ⟨hs, by
                              have h1 : i ≠ gb := by omega
                              exact (hb9.block i (by simp [World.setCell]; exact hi)).trans (Below.heap_setCell _ _ _ _ h1)⟩
                            obtain ⟨A8, c8, e8, hc8, hk8⟩ := rowAt_kd (l := dI E) (enc := Value.int .i64) (h1 := fun _ => rfl) (by unfold dI; rw [List.map_map]; exact hr8)
                            have hdl : (dI E).length = E.length := by unfold dI; rw [List.length_map]
                            rw [← hdl] at e8 ⊢
                            cases e8
                            obtain ⟨k1, hk1⟩ := (ev_sameInts (dI E) (by rw [hdl]; omega)).get
                            have HK8 : Hid (Kd.C (Kd.int .i64) w8 AE (dI E).length (dI E)) := Lib.hid hk8
                            have HK9 : Hid (Kd.C (Kd.int .i64) w8 A9 (dI E).length (dI E)) := Lib.hid hk9
                            have HB9 := Lib.hid (below_step hb8.out hb9)
                            clear hz0 hz1 hz2 hrow hb9 hk8 hk9 hr8 hb8
                            have hcall := spec_SameInts.calls k1 AE cE (dI E) A9 c9 (dI E) true w8 HK8.out hc8 HK9.out hc9 hk1
                            rw [hdl] at hcall ⊢
                            have HCALL := Lib.hid hcall
                            clear hcall hdl hk1 hc8 hc9 HK8 HK9
                            go_wp2_with fail
                            with_reducible refine HCALL.out.mono ?_
                            rintro e w9 ⟨rfl, hd9⟩
                            go_wp2_with fail
                            go_ret
                            exact ⟨rfl, below_step HB9.out hd9.below⟩
                    · have hE0 : E = [] := HE3.out hne
                      have hel : E.length = 0 := by rw [hE0]; rfl
                      rw [hel]
                      have hn2 := Lib.hid hne
                      have hn4 : ¬ (s.extract 0 pre.size).toList = pre.toList := fun e => hn2.out (ba_of_toList e)
                      clear hne
                      go_wp2_with fail
                      go_ret
                      exact ⟨rfl, HW6.out⟩
            · have g3' : ((ins L t).f0 == 3) = false := by rw [beq_eq_false_iff_ne]; exact g3
              go_wp2_with fail
              go_ret
              exact ⟨rfl, HB4.out⟩
end Go.Proofs.YteoljppcafakpaaDoor.PgFnPgOnePrefix
