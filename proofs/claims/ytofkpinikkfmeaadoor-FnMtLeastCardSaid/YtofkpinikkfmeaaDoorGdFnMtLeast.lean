/- A literal or a class at a place of a text (reOne, reSpells, reTakes): the walks. -/
import Derived.Test.YtofkpinikkfmeaaDoorGcFnMtLeast
import Derived.Test.YtofkpinikkfmeaaDoorIcFnMtLeast
namespace Go.Proofs.YtofkpinikkfmeaaDoor.TxFnMtLeast
open Go.Proofs.YtofkpinikkfmeaaDoor.Sf hiding T
open Go.RowKit Go.Proofs.YtofkpinikkfmeaaDoor.TrFnMtLeast Go.Proofs.YtofkpinikkfmeaaDoor.PFnMtLeast Go.Proofs.YtofkpinikkfmeaaDoorW.PrintWords Go.Proofs.YtofkpinikkfmeaaDoorW.PrintLast Go.Proofs.YtofkpinikkfmeaaDoorW.PrintMore
set_option linter.unusedSimpArgs false
set_option linter.unusedVariables false

set_option maxRecDepth 100000 in
set_option maxHeartbeats 4000000 in
theorem one_calls (t : T) (W0 w : World) (cs : List Value) (hK : k25.K W0 t cs) (hW : Below W0.heap.size W0 w) (hF : Folds w) (c of : Int) (hc : okC c) :
    Calls Tryd.prog 51 #[.agg cs.toArray, .int .i32 c, .int .i32 of] w fun e w' => e = .returned (.bool (oneB (fol t) c of)) ∧ Below w.heap.size w w' := by
  obtain ⟨A2, c2, A7, c7, rfl, l2, g2, l7, g7⟩ := k25_open hK
  have hu40 := Tryd.underlying25
  obtain ⟨cn, rfl⟩ : ∃ n : Nat, c = (n : Int) := ⟨c.toNat, by unfold okC at hc; omega⟩
  have hcn : cn ≤ 1114111 := by unfold okC at hc; omega
  have HF := Lib.hid hF
  unfold oneB
  rw [Int.toNat_natCast]
  clear l2 g2 l7 g7 hW hK hF hc
  go_enter Tryd.func51, Tryd.ntmps51
  go_upto_region 1 with (first | ((with_reducible refine gate_dst (N := 3) rfl ?_); refine box_event ?hg (N := 3) ?hd (cs := #[.int .i64 t.f0, .int .i64 t.f1, .slice A2 t.f2.length c2, .int .i64 t.f3, .int .i64 t.f4, .int .i64 t.f5, .string t.f6, .slice A7 t.f7.length c7]) (t := 25) ?hr ?_; (case hd => rfl); (case hg => rfl); (case hr => first | (go_simp; done) | (go_simp; rfl)); intro gb hg w1 hbox hb; have BK := Lib.hid hbox; have HB1 := Lib.hid hb; have GE : w.heap.size ≤ gb := (by omega); clear hg hbox hb; obtain ⟨hz0, hz1, hz2, hz3, hz4, hz5, hz6, hz7⟩ := blk8 BK.out))
  by_cases he : (cn : Int) = of
  · have e1 : ((cn : Int) == of) = true := beq_iff_eq.2 he
    clear he
    go_wp2_with fail
    go_ret
    exact ⟨by rw [e1]; rfl, HB1.out⟩
  · have e1 : ((cn : Int) == of) = false := beq_eq_false_iff_ne.2 he
    clear he
    cases hf : fol t with
    | false =>
      have e2 : (bits .and .i64 t.f1 1 != 0) = false := hf
      go_wp2_with fail
      go_ret
      exact ⟨by rw [e1, hf]; rfl, HB1.out⟩
    | true =>
      have e2 : (bits .and .i64 t.f1 1 != 0) = true := hf
      have HC := Lib.hid (refolds_calls w1 cn hcn of (HF.out.below HB1.out))
      go_wp2_with fail
      refine HC.out.mono ?_
      rintro e w2 ⟨rfl, n, rfl⟩
      go_wp2_with fail
      go_ret
      exact ⟨by rw [e1, hf, Bool.false_or, Bool.true_and]; rfl, pw_below_drewN HB1.out n⟩

set_option maxRecDepth 100000 in
set_option maxHeartbeats 4000000 in
theorem spells_calls (t : T) (W0 w : World) (cs : List Value) (hK : k25.K W0 t cs) (hW : Below W0.heap.size W0 w) (hF : Folds w) (hT : Tabs w) (s : ByteArray) (hs : s.size ≤ 100000) (i : Nat) (hi : i ≤ s.size) (hU : ∀ c ∈ t.f2, UC (fol t) c) (hl : t.f2.length ≤ 4611686018427387000) :
    Calls Tryd.prog 47 #[.agg cs.toArray, .string s, .int .i64 (i : Int)] w fun e w' => (∃ k : Int, e = .returned (.int .i64 k) ∧ (k = -1 ∨ ∃ n : Nat, k = n ∧ n ≤ s.size ∧ (i : Int) + litL t.f2 ≤ n)) ∧ Below w.heap.size w w' := by
  have HKT := Lib.hid hK
  obtain ⟨A2, c2, A7, c7, rfl, l2, g2, l7, g7⟩ := k25_open hK
  have hu40 := Tryd.underlying25
  have HF := Lib.hid hF
  have HT := Lib.hid hT
  have HW := Lib.hid hW
  have HU := Lib.hid hU
  have HG2 := Lib.hid g2
  clear l2 g2 l7 g7 hW hK hF hT hU
  go_enter Tryd.func47, Tryd.ntmps47
  go_wp2_with (first | ((with_reducible refine gate_dst (N := 3) rfl ?_); refine box_event ?hg (N := 3) ?hd (cs := #[.int .i64 t.f0, .int .i64 t.f1, .slice A2 t.f2.length c2, .int .i64 t.f3, .int .i64 t.f4, .int .i64 t.f5, .string t.f6, .slice A7 t.f7.length c7]) (t := 25) ?hr ?_; (case hd => rfl); (case hg => rfl); (case hr => first | (go_simp; done) | (go_simp; rfl)); intro gb hg w1 hbox hb; have BK := Lib.hid hbox; have HB1 := Lib.hid hb; have GE : w.heap.size ≤ gb := (by omega); clear hg hbox hb; obtain ⟨hz0, hz1, hz2, hz3, hz4, hz5, hz6, hz7⟩ := blk8 BK.out))
  have HX := Lib.hid (And.intro hz0 (And.intro hz1 (And.intro hz2 (And.intro hz3 (And.intro hz4 (And.intro hz5 (And.intro hz6 hz7)))))))
  clear hz0 hz1 hz2 hz3 hz4 hz5 hz6 hz7
  go_loopg [2, 14] t.f2.length (fun gk s2 s14 wr => ∃ (k j : Nat), Hid (gk + k = t.f2.length ∧ (i : Int) + litL (t.f2.take k) ≤ j ∧ Below w1.heap.size w1 wr) ∧ k ≤ t.f2.length ∧ j ≤ s.size ∧ s2 = .int .i64 j ∧ s14 = .int .i64 k)
  case atStart => exact ⟨0, i, Lib.hid ⟨by omega, by simp [litL], Below.refl _ _⟩, Nat.zero_le _, hi, rfl, rfl⟩
  case round =>
    obtain ⟨k, j, HI, hk, hj, rfl, rfl⟩ := hrel
    have HBW := Lib.hid (below_step HB1.out HI.out.2.2)
    by_cases hlt : k < t.f2.length
    · have hd1 : decide (k < t.f2.length) = true := decide_eq_true hlt
      obtain ⟨ad, hA, hcell⟩ := Go.Proofs.YtofkpinikkfmeaaDoor.Row.kd_cell HG2.out (HW.out.trans (HBW.out.mono HW.out.size)) k hlt
      subst hA
      have HN : Hid (litL (t.f2.take (k + 1)) = litL (t.f2.take k) + rl t.f2[k]) := Lib.hid (by rw [List.take_succ_eq_append_getElem hlt, litL_append, litL, litL]; omega)
      have HUC := Lib.hid (HU.out _ (List.getElem_mem hlt))
      generalize t.f2[k] = x at *
      have HNX := Lib.hid (next_calls s j wr hj (by omega) (Utf8Tabs_below HT.out HBW.out))
      go_wp2_with fail
      refine HNX.out.mono ?_
      rintro e w2 ⟨rfl, hb2⟩
      have HB2 := Lib.hid (below_step HI.out.2.2 hb2)
      have HOL := Lib.hid (one_len s j (fol t) x HUC.out)
      have hle := dec_le s j hj
      clear HNX hb2 hcell
      obtain ⟨of, hof⟩ : ∃ of, of = (dec s j).1 := ⟨_, rfl⟩
      obtain ⟨d, hd⟩ : ∃ d, d = (dec s j).2 := ⟨_, rfl⟩
      rw [← hof, ← hd] at HOL ⊢
      rw [← hd] at hle
      clear hof hd
      have BKW := Lib.hid (blk_below BK.out HB2.out)
      obtain ⟨hz0, hz1, hz2, hz3, hz4, hz5, hz6, hz7⟩ := blk8 BKW.out
      by_cases h0 : d = 0
      · have e0 : ((d : Int) == 0) = true := by rw [beq_iff_eq]; omega
        clear h0
        go_wp2_with fail
        exact bodyPost_ret (v := .int .i64 (-1)) (by simp [results, Tryd.results47, go_sem]) rfl ⟨⟨-1, rfl, .inl rfl⟩, below_step HB1.out HB2.out⟩
      · have e0 : ((d : Int) == 0) = false := by rw [beq_eq_false_iff_ne]; omega
        have HC := Lib.hid (one_calls t W0 w2 _ HKT.out (HW.out.trans ((below_step HB1.out HB2.out).mono HW.out.size)) (HF.out.below (below_step HB1.out HB2.out)) x of HUC.out.1)
        go_wp2_with fail
        refine HC.out.mono ?_
        rintro e w3 ⟨rfl, hb3⟩
        have HB3 := Lib.hid (below_step HB2.out hb3)
        clear hb3 HC
        cases ho : oneB (fol t) x of with
        | false =>
          go_wp2_with fail
          exact bodyPost_ret (v := .int .i64 (-1)) (by simp [results, Tryd.results47, go_sem]) rfl ⟨⟨-1, rfl, .inl rfl⟩, below_step HB1.out HB3.out⟩
        | true =>
          have hrl := HOL.out h0 ho
          clear hz0 hz1 hz2 hz3 hz4 hz5 hz6 hz7
          go_wp2_with fail
          go_roundg (gk - 1)
          case measure => have := HI.out.1; omega
          case rel => exact ⟨k + 1, j + d, Lib.hid ⟨by have := HI.out.1; omega, by have h1 := HN.out; have h2 := HI.out.2.1; omega, HB3.out⟩, by omega, hle, by go_num, by go_num⟩
    · have hd1 : decide (k < t.f2.length) = false := decide_eq_false hlt
      obtain rfl : k = t.f2.length := by omega
      go_wp2_with fail
      go_ret
      exact ⟨⟨j, rfl, .inr ⟨j, rfl, hj, by have := HI.out.2.1; rw [List.take_length] at this; exact this⟩⟩, HBW.out⟩

set_option maxRecDepth 100000 in
set_option maxHeartbeats 4000000 in
theorem takes_calls (t : T) (W0 w : World) (cs : List Value) (hK : k25.K W0 t cs) (hW : Below W0.heap.size W0 w) (hT : Tabs w) (s : ByteArray) (hs : s.size ≤ 100000) (i : Nat) (hi : i ≤ s.size) (hop : t.f0 = 4 ∨ t.f0 = 5 ∨ t.f0 = 6) (hl : t.f2.length ≤ 4611686018427387000) :
    Calls Tryd.prog 48 #[.agg cs.toArray, .string s, .int .i64 (i : Int)] w fun e w' => (∃ k : Int, e = .returned (.int .i64 k) ∧ (k = -1 ∨ ∃ n : Nat, k = n ∧ n ≤ s.size ∧ (i : Int) + 1 ≤ n)) ∧ Below w.heap.size w w' := by
  obtain ⟨A2, c2, A7, c7, rfl, l2, g2, l7, g7⟩ := k25_open hK
  have hu40 := Tryd.underlying25
  have HT := Lib.hid hT
  have HW := Lib.hid hW
  have HG2 := Lib.hid g2
  have hl2 := l2
  clear l2 g2 l7 g7 hW hK hT
  go_enter Tryd.func48, Tryd.ntmps48
  go_wp2_with (first | ((with_reducible refine gate_dst (N := 3) rfl ?_); refine box_event ?hg (N := 3) ?hd (cs := #[.int .i64 t.f0, .int .i64 t.f1, .slice A2 t.f2.length c2, .int .i64 t.f3, .int .i64 t.f4, .int .i64 t.f5, .string t.f6, .slice A7 t.f7.length c7]) (t := 25) ?hr ?_; (case hd => rfl); (case hg => rfl); (case hr => first | (go_simp; done) | (go_simp; rfl)); intro gb hg w1 hbox hb; have BK := Lib.hid hbox; have HB1 := Lib.hid hb; have GE : w.heap.size ≤ gb := (by omega); clear hg hbox hb; obtain ⟨hz0, hz1, hz2, hz3, hz4, hz5, hz6, hz7⟩ := blk8 BK.out))
  refine (next_calls s i w1 hi (by omega) (Utf8Tabs_below HT.out HB1.out)).mono ?_
  rintro e w2 ⟨rfl, hb2⟩
  have HB2 := Lib.hid (below_step HB1.out hb2)
  have hle := dec_le s i hi
  have BK2 := Lib.hid (blk_below BK.out hb2)
  clear hz0 hz1 hz2 hz3 hz4 hz5 hz6 hz7 hb2
  obtain ⟨hz0, hz1, hz2, hz3, hz4, hz5, hz6, hz7⟩ := blk8 BK2.out
  obtain ⟨of, hof⟩ : ∃ of, of = (dec s i).1 := ⟨_, rfl⟩
  obtain ⟨d, hd⟩ : ∃ d, d = (dec s i).2 := ⟨_, rfl⟩
  rw [← hof, ← hd]
  rw [← hd] at hle
  clear hof hd
  rcases hop with h | h | h
  · rw [h] at hz0
    obtain ⟨kq, hkq⟩ := (Go.Proofs.YtofkpinikkfmeaaDoor.IcFnMtLeast.ev_inCls t.f2 of (by omega)).get
    obtain ⟨r, hr⟩ : ∃ r, r = Go.Proofs.YtofkpinikkfmeaaDoor.IcFnMtLeast.inCls t.f2 of := ⟨_, rfl⟩
    rw [← hr] at hkq
    have HC := Lib.hid (spec_reInClass.calls kq A2 c2 t.f2 of r w2 (Kd.C_below HG2.out (HW.out.trans (HB2.out.mono HW.out.size))) hl2 hkq)
    clear hr hkq
    by_cases h0 : d = 0
    · have e0 : ((d : Int) == 0) = true := by rw [beq_iff_eq]; omega
      clear h0
      go_wp2_with fail
      refine HC.out.mono ?_
      rintro e w3 ⟨rfl, hd3⟩
      go_wp2_with fail
      go_ret
      exact ⟨⟨-1, rfl, .inl rfl⟩, HB2.out.trans (hd3.below.mono HB2.out.size)⟩
    · have e0 : ((d : Int) == 0) = false := by rw [beq_eq_false_iff_ne]; omega
      cases r with
      | false =>
        go_wp2_with fail
        refine HC.out.mono ?_
        rintro e w3 ⟨rfl, hd3⟩
        go_wp2_with fail
        go_ret
        exact ⟨⟨-1, rfl, .inl rfl⟩, HB2.out.trans (hd3.below.mono HB2.out.size)⟩
      | true =>
        go_wp2_with fail
        refine HC.out.mono ?_
        rintro e w3 ⟨rfl, hd3⟩
        go_wp2_with fail
        go_ret
        exact ⟨⟨((i + d : Nat) : Int), by push_cast; rfl, .inr ⟨i + d, rfl, hle, by push_cast; omega⟩⟩, HB2.out.trans (hd3.below.mono HB2.out.size)⟩
  · rw [h] at hz0
    by_cases h0 : d = 0
    · have e0 : ((d : Int) == 0) = true := by rw [beq_iff_eq]; omega
      clear h0
      go_wp2_with fail
      go_ret
      exact ⟨⟨-1, rfl, .inl rfl⟩, HB2.out⟩
    · have e0 : ((d : Int) == 0) = false := by rw [beq_eq_false_iff_ne]; omega
      cases hq : (of != 10) with
      | false =>
        go_wp2_with fail
        go_ret
        exact ⟨⟨-1, rfl, .inl rfl⟩, HB2.out⟩
      | true =>
        go_wp2_with fail
        go_ret
        exact ⟨⟨((i + d : Nat) : Int), by push_cast; rfl, .inr ⟨i + d, rfl, hle, by push_cast; omega⟩⟩, HB2.out⟩
  · rw [h] at hz0
    by_cases h0 : d = 0
    · have e0 : ((d : Int) == 0) = true := by rw [beq_iff_eq]; omega
      clear h0
      go_wp2_with fail
      go_ret
      exact ⟨⟨-1, rfl, .inl rfl⟩, HB2.out⟩
    · have e0 : ((d : Int) == 0) = false := by rw [beq_eq_false_iff_ne]; omega
      go_wp2_with fail
      go_ret
      exact ⟨⟨((i + d : Nat) : Int), by push_cast; rfl, .inr ⟨i + d, rfl, hle, by push_cast; omega⟩⟩, HB2.out⟩
end Go.Proofs.YtofkpinikkfmeaaDoor.TxFnMtLeast
