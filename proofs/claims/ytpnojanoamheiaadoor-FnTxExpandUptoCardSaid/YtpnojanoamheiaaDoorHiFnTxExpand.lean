/- FnTxExpand: the law's walk. -/
import Derived.Test.YtpnojanoamheiaaDoorHhFnTxExpand
import Derived.Deep.RegionWith
namespace Go.Proofs.YtpnojanoamheiaaDoor.XxFnTxExpand
open Go.Proofs.YtpnojanoamheiaaDoorW.PrintWords hiding nums nums_length
open Go.RowKit Go.Proofs.YtpnojanoamheiaaDoor.EvN Go.Proofs.YtpnojanoamheiaaDoor.My Go.Proofs.YtpnojanoamheiaaDoor.PFnTxExpand Go.Proofs.YtpnojanoamheiaaDoorW.PrintLast Go.Proofs.YtpnojanoamheiaaDoorW.PrintMore
set_option linter.unusedSimpArgs false
set_option linter.unusedVariables false

theorem and_one (a : Int) : Go.bits .and .i64 a 1 = 0 ∨ Go.bits .and .i64 a 1 = 1 := by
  show IntKind.i64.wrap ((BitVec.ofInt 64 a &&& BitVec.ofInt 64 1).toNat : Int) = 0 ∨ IntKind.i64.wrap ((BitVec.ofInt 64 a &&& BitVec.ofInt 64 1).toNat : Int) = 1
  have h : (BitVec.ofInt 64 a &&& BitVec.ofInt 64 1).toNat = 0 ∨ (BitVec.ofInt 64 a &&& BitVec.ofInt 64 1).toNat = 1 := by
    rw [BitVec.toNat_and, show (BitVec.ofInt 64 1).toNat = 1 from rfl, Nat.and_one_is_mod]
    omega
  rcases h with h | h
  · rw [h]; exact .inl (by decide)
  · rw [h]; exact .inr (by decide)

theorem add_zero_ {w : World} {a : Addr} {v : Value} (h : w.cell? (a.add 0) = some v) : a.add 0 = a := rfl

section
variable (src : ByteArray) (m : List Int) (names : List ByteArray)
set_option maxRecDepth 100000 in
set_option maxHeartbeats 4000000 in
theorem law_calls (T : ByteArray) (hT : T.size ≤ 1048576) (hsrc : src.size ≤ 1048576) (hm : m.length ≤ 1048576) (hnl : names.length ≤ 1048576) (D : List Int) (hD : D.length ≤ 1048576) (w : World) (hE : Env w)
    (Am : Option Addr) (cm : Nat) (hCm : Kd.C (Kd.int .i64) w Am m.length m) (hcm : m.length ≤ cm) (An : Option Addr) (cn : Nat) (hCn : Kd.C Kd.string w An names.length names) (hcn : names.length ≤ cn)
    (Ad : Option Addr) (cd : Nat) (hCd : Kd.C (Kd.int .u8) w Ad D.length D) (hcd : D.length ≤ cd) (hnil : Ad = none → cd = 0) (how : Int) :
    Calls Tryd.prog 3 #[.slice An names.length cn, .slice Ad D.length cd, .string T, .string src, .slice Am m.length cm, .int .i64 how] w fun e w' => e = .returned (.bool true) ∧ Below w.heap.size w w' := by
  obtain ⟨r1, k1, hr1⟩ := ev_fits names (by omega)
  obtain ⟨r2, k2, hr2, hpairs⟩ := ev_pairs m src (by omega)
  have HF := Lib.hid (laws_zzFits8.calls k1 An cn names r1 w hCn hcn hr1)
  have HP := Lib.hid (fun w' (hb : Below w.heap.size w w') => spec_TxPairs.calls k2 Am cm m src r2 w' (Kd.C_below hCm hb) hcm hr2)
  have HPP := Lib.hid hpairs
  have HE := Lib.hid hE
  have HCM := Lib.hid hCm
  have HCN := Lib.hid hCn
  have HCD := Lib.hid hCd
  have HNIL := Lib.hid hnil
  have d1 : decide ((D.length : Int) > 2147483647) = false := decide_eq_false (by omega)
  have d2 : decide ((T.size : Int) > 2147483647) = false := decide_eq_false (by omega)
  have d3 : decide ((src.size : Int) > 2147483647) = false := decide_eq_false (by omega)
  have d4 : decide ((m.length : Int) > 2147483647) = false := decide_eq_false (by omega)
  have d5 : decide (D.length > 2147483647) = false := decide_eq_false (by omega)
  have d6 : decide (T.size > 2147483647) = false := decide_eq_false (by omega)
  have d7 : decide (src.size > 2147483647) = false := decide_eq_false (by omega)
  have d8 : decide (m.length > 2147483647) = false := decide_eq_false (by omega)
  obtain ⟨h1, hh1⟩ : ∃ h1, h1 = Go.bits .and .i64 how 1 := ⟨_, rfl⟩
  have HH := Lib.hid (show h1 = 0 ∨ h1 = 1 by rw [hh1]; exact and_one how)
  have hh2 : Go.bits .and .i64 how 1 = h1 := hh1.symm
  clear hr1 hr2 hpairs hE hCm hCn hCd hnil hh1
  go_enter Tryd.func3, Tryd.ntmps3
  go_wp2_with fail
  refine HF.out.mono ?_
  rintro e w1 ⟨rfl, hb1⟩
  have HB1 := Lib.hid hb1.below
  clear hb1 HF
  cases r1 with
  | false =>
    go_wp2_with fail
    go_ret
    exact ⟨rfl, HB1.out⟩
  | true =>
    go_wp2_with fail
    refine (HP.out w1 HB1.out).mono ?_
    rintro e w2 ⟨rfl, hb2⟩
    have HB2 := Lib.hid (below_step HB1.out hb2.below)
    clear hb2 HP
    cases r2 with
    | false =>
      go_wp2_with fail
      go_ret
      exact ⟨rfl, HB2.out⟩
    | true =>
      have HPR := Lib.hid (HPP.out (by first | rfl | trivial))
      by_cases hn0 : 0 < names.length
      · have e0 : ((names.length : Int) == 0) = false := beq_f (by omega)
        have hn0' : (0 : Int) < (names.length : Int) := by omega
        obtain ⟨ad, hAn, hc0⟩ := ks_cell HCN.out HB2.out 0 hn0
        subst hAn
        rw [add_zero_ hc0] at hc0
        obtain ⟨nm0, hc00⟩ : ∃ nm0, w2.cell? ad = some (.string nm0) := ⟨_, hc0⟩
        clear hc0
        have HN0 := Lib.hid hn0
        by_cases hz : nm0.size = 0
        · obtain ⟨n1, n2⟩ := nil_list nm0 hz
          have HIM := Lib.hid (impl_calls src m names T hT hsrc HPR.out hm HN0.out hnl D hD w w2 HB2.out (HE.out.below HB2.out) Am cm HCM.out hcm (some ad) cn HCN.out hcn Ad cd HCD.out hcd HNIL.out h1 HH.out)
          obtain rfl := empty_of nm0 hz
          clear n1 n2 hz
          go_wp2_with fail
          refine HIM.out.mono ?_
          rintro e w3 ⟨⟨v3, rfl, ho⟩, hb3⟩
          have HO := Lib.hid ho
          have HB3 := Lib.hid (below_step HB2.out hb3)
          clear ho hb3 HIM
          go_upto_region 6 with (fail)
          obtain ⟨A, hA⟩ : ∃ A, A = strOfNums D := ⟨_, rfl⟩
          obtain ⟨B, hB⟩ : ∃ B, B = strOfNums (EE src m names T) := ⟨_, rfl⟩
          have HRX := Lib.hid (rexpand_calls src m names T hT hsrc HPR.out hm hnl w w3.drew (below_drew HB3.out) (HE.out.below (below_drew HB3.out)) Am cm HCM.out hcm (some ad) cn HCN.out hcn)
          rw [← hB] at HRX
          have HV := Lib.hid (show ∀ w', Below w3.heap.size w3 w' → (convert 23 9 v3).run Tryd.prog w' = .ok (.string (A ++ B)) w' from fun w' hb => by
            rw [hA, hB, ← str_app]
            exact conv_nums w' _ v3 _ _ (HO.out.below hb))
          have HV2 := Lib.hid (show ∀ w', Below w3.heap.size w3 w' → (convert 23 9 (.slice Ad D.length cd)).run Tryd.prog w' = .ok (.string A) w' from fun w' hb => by
            rw [hA]
            exact conv_in HCD.out (below_step HB3.out hb))
          have hadd : ¬ 9223372036854775807 < A.size + B.size := by
            have h1 := EE_len src m names (src.size + 1) (Nat.lt_succ_self _) T.size T (Nat.le_refl _)
            have h2 : T.size * (src.size + 1) ≤ 1048576 * 1048577 := Nat.mul_le_mul hT (by omega)
            rw [hA, hB, strOfNums_size, strOfNums_size]
            omega
          clear hA hB
          refine start_ (n := 15) (S := fun w' => Below w3.heap.size w3 w') (ds := []) #[false, false, false, false, false, false, false, false, false, false, false, false, false, false, false] (by kernel_rfl) rfl rfl (below_drew (Below.refl _ _)) (fun hHeld => ?_)
          generalize w3.drew = wd at *
          refine pure_ (i := 0) (N := some 64) (v := ?_) (a' := ?_) #[true, false, false, false, false, false, false, false, false, false, false, false, false, false, false] rfl rfl (by kernel_rfl) (fun _ _ _ h => h) (Or.inl ⟨by rfl, ?_⟩) ?_ ?_
          rotate_left
          · intro w'
            go_simp
            with_reducible rfl
          rotate_left
          · simp only [Act.put, List.setIfInBounds_toArray, List.set_cons_zero, List.set_cons_succ]
            rfl
          refine pure_ (i := 1) (N := some 65) (v := ?_) (a' := ?_) #[true, true, false, false, false, false, false, false, false, false, false, false, false, false, false] rfl rfl (by kernel_rfl) (fun _ _ _ h => h) (Or.inl ⟨by rfl, ?_⟩) ?_ ?_
          rotate_left
          · intro w'
            go_simp
            with_reducible rfl
          rotate_left
          · simp only [Act.put, List.setIfInBounds_toArray, List.set_cons_zero, List.set_cons_succ]
            rfl
          refine pure_ (i := 2) (N := some 66) (v := ?_) (a' := ?_) #[true, true, true, false, false, false, false, false, false, false, false, false, false, false, false] rfl rfl (by kernel_rfl) (fun _ _ _ h => h) (Or.inl ⟨by rfl, ?_⟩) ?_ ?_
          rotate_left
          · intro w'
            go_simp
            with_reducible rfl
          rotate_left
          · simp only [Act.put, List.setIfInBounds_toArray, List.set_cons_zero, List.set_cons_succ]
            rfl
          refine take_ (i := 3) (N := some 67) (v := ?_) (a' := ?_) #[true, true, true, true, false, false, false, false, false, false, false, false, false, false, false] rfl rfl (by kernel_rfl) (fun _ _ _ h => h) (Or.inl ⟨by rfl, ?_⟩) hHeld ?_ ?_
          rotate_left
          · intro w' hs'
            have hv := HV.out w' hs'
            go_simp
            with_reducible rfl
          rotate_left
          · simp only [Act.put, List.setIfInBounds_toArray, List.set_cons_zero, List.set_cons_succ]
            rfl
          refine pure_ (i := 4) (N := some 68) (v := ?_) (a' := ?_) #[true, true, true, true, true, false, false, false, false, false, false, false, false, false, false] rfl rfl (by kernel_rfl) (fun _ _ _ h => h) (Or.inl ⟨by rfl, ?_⟩) ?_ ?_
          rotate_left
          · intro w'
            go_simp
            with_reducible rfl
          rotate_left
          · simp only [Act.put, List.setIfInBounds_toArray, List.set_cons_zero, List.set_cons_succ]
            rfl
          refine take_ (i := 5) (N := some 69) (v := ?_) (a' := ?_) #[true, true, true, true, true, true, false, false, false, false, false, false, false, false, false] rfl rfl (by kernel_rfl) (fun _ _ _ h => h) (Or.inl ⟨by rfl, ?_⟩) hHeld ?_ ?_
          rotate_left
          · intro w' hs'
            have hv := HV2.out w' hs'
            go_simp
            with_reducible rfl
          rotate_left
          · simp only [Act.put, List.setIfInBounds_toArray, List.set_cons_zero, List.set_cons_succ]
            rfl
          refine pure_ (i := 6) (N := some 70) (v := ?_) (a' := ?_) #[true, true, true, true, true, true, true, false, false, false, false, false, false, false, false] rfl rfl (by kernel_rfl) (fun _ _ _ h => h) (Or.inl ⟨by rfl, ?_⟩) ?_ ?_
          rotate_left
          · intro w'
            go_simp
            with_reducible rfl
          rotate_left
          · simp only [Act.put, List.setIfInBounds_toArray, List.set_cons_zero, List.set_cons_succ]
            rfl
          refine pure_ (i := 7) (N := some 71) (v := ?_) (a' := ?_) #[true, true, true, true, true, true, true, true, false, false, false, false, false, false, false] rfl rfl (by kernel_rfl) (fun _ _ _ h => h) (Or.inl ⟨by rfl, ?_⟩) ?_ ?_
          rotate_left
          · intro w'
            go_simp
            with_reducible rfl
          rotate_left
          · simp only [Act.put, List.setIfInBounds_toArray, List.set_cons_zero, List.set_cons_succ]
            rfl
          refine pure_ (i := 8) (N := some 72) (v := ?_) (a' := ?_) #[true, true, true, true, true, true, true, true, true, false, false, false, false, false, false] rfl rfl (by kernel_rfl) (fun _ _ _ h => h) (Or.inl ⟨by rfl, ?_⟩) ?_ ?_
          rotate_left
          · intro w'
            go_simp
            with_reducible rfl
          rotate_left
          · simp only [Act.put, List.setIfInBounds_toArray, List.set_cons_zero, List.set_cons_succ]
            rfl
          refine pure_ (i := 9) (N := some 73) (v := ?_) (a' := ?_) #[true, true, true, true, true, true, true, true, true, true, false, false, false, false, false] rfl rfl (by kernel_rfl) (fun _ _ _ h => h) (Or.inl ⟨by rfl, ?_⟩) ?_ ?_
          rotate_left
          · intro w'
            go_simp
            with_reducible rfl
          rotate_left
          · simp only [Act.put, List.setIfInBounds_toArray, List.set_cons_zero, List.set_cons_succ]
            rfl
          refine one_ (i := 10) (N := some 74) #[true, true, true, true, true, true, true, true, true, true, true, false, false, false, false] rfl rfl (by kernel_rfl) (by simp) (fun K hK => ?_)
          refine goes_ Tryd.func7 (by kernel_rfl) rfl #[.string T, .string src, .slice Am m.length cm, .slice (some ad) names.length cn] (by rfl) rfl rfl (by first | rfl | (simp only [List.map_toArray, List.map_cons, List.map_nil]; rfl) | (simp; rfl)) ?_
          refine HRX.out.mono ?_
          rintro e w4 ⟨rfl, hb4⟩
          refine ⟨_, rfl, ?_⟩
          have HB4 := Lib.hid (below_step hHeld hb4)
          refine hK.out _ _ HB4.out (fun hHeld2 => ?_)
          clear hK K hHeld hb4
          refine norm_ (a' := ?_) ?_ ?_
          rotate_left
          · show Act.put _ (some 74) _ = _
            simp only [Act.put, List.setIfInBounds_toArray, List.set_cons_zero, List.set_cons_succ]
            rfl
          refine pure_ (i := 11) (N := some 75) (v := ?_) (a' := ?_) #[true, true, true, true, true, true, true, true, true, true, true, true, false, false, false] rfl rfl (by kernel_rfl) (fun _ _ _ h => h) (Or.inl ⟨by rfl, ?_⟩) ?_ ?_
          rotate_left
          · intro w'
            go_simp
            with_reducible rfl
          rotate_left
          · simp only [Act.put, List.setIfInBounds_toArray, List.set_cons_zero, List.set_cons_succ]
            rfl
          refine pure_ (i := 12) (N := some 76) (v := ?_) (a' := ?_) #[true, true, true, true, true, true, true, true, true, true, true, true, true, false, false] rfl rfl (by kernel_rfl) (fun _ _ _ h => h) (Or.inl ⟨by rfl, ?_⟩) ?_ ?_
          rotate_left
          · intro w'
            go_simp
            with_reducible rfl
          rotate_left
          · simp only [Act.put, List.setIfInBounds_toArray, List.set_cons_zero, List.set_cons_succ]
            rfl
          refine pure_ (i := 13) (N := some 77) (v := ?_) (a' := ?_) #[true, true, true, true, true, true, true, true, true, true, true, true, true, true, false] rfl rfl (by kernel_rfl) (fun _ _ _ h => h) (Or.inl ⟨by rfl, ?_⟩) ?_ ?_
          rotate_left
          · intro w'
            go_simp
            with_reducible rfl
          rotate_left
          · simp only [Act.put, List.setIfInBounds_toArray, List.set_cons_zero, List.set_cons_succ]
            rfl
          refine pure_ (i := 14) (N := some 12) (v := ?_) (a' := ?_) #[true, true, true, true, true, true, true, true, true, true, true, true, true, true, true] rfl rfl (by kernel_rfl) (fun _ _ _ h => h) (Or.inl ⟨by rfl, ?_⟩) ?_ ?_
          rotate_left
          · intro w'
            go_simp
            with_reducible rfl
          rotate_left
          · simp only [Act.put, List.setIfInBounds_toArray, List.set_cons_zero, List.set_cons_succ]
            rfl
          refine done_ (by kernel_rfl) ?_
          go_wp2_with fail
          go_ret
          exact ⟨ret_bool (by simp), below_step HB3.out HB4.out⟩
        · have n1 := ne_list nm0 (by omega)
          have n2 := ne_empty nm0 (by omega)
          go_wp2_with fail
          go_ret
          exact ⟨rfl, HB2.out⟩
      · have e0 : ((names.length : Int) == 0) = true := beq_t (by omega)
        go_wp2_with fail
        go_ret
        exact ⟨rfl, HB2.out⟩
end
end Go.Proofs.YtpnojanoamheiaaDoor.XxFnTxExpand
