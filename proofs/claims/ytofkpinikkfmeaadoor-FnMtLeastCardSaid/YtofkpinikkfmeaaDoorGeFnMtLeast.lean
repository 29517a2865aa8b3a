/- One step of a tree without parts (reStep): the walk. -/
import Derived.Test.YtofkpinikkfmeaaDoorGdFnMtLeast
import Derived.Deep.RegionHeld3
namespace Go.Proofs.YtofkpinikkfmeaaDoor.TxFnMtLeast
open Go.Proofs.YtofkpinikkfmeaaDoor.Sf hiding T
open Go.RowKit Go.Proofs.YtofkpinikkfmeaaDoor.TrFnMtLeast Go.Proofs.YtofkpinikkfmeaaDoor.PFnMtLeast Go.Proofs.YtofkpinikkfmeaaDoorW.PrintWords Go.Proofs.YtofkpinikkfmeaaDoorW.PrintLast Go.Proofs.YtofkpinikkfmeaaDoorW.PrintMore
set_option linter.unusedSimpArgs false
set_option linter.unusedVariables false

theorem asks_some (a : Int) : ∃ r, spec_reAsks.f a = some r := by
  unfold spec_reAsks.f
  repeat' split
  all_goals exact ⟨_, rfl⟩

/-- What a step leaves. -/
def StepQ (m : Int) (n : Nat) (i : Nat) (k : Int) : Prop := k = -1 ∨ ∃ j : Nat, k = j ∧ j ≤ n ∧ (i : Int) + m ≤ j

set_option maxRecDepth 100000 in
set_option maxHeartbeats 4000000 in
theorem step_calls (t : T) (W0 w : World) (cs : List Value) (hK : k25.K W0 t cs) (hW : Below W0.heap.size W0 w) (hF : Folds w) (hT : Tabs w) (s : ByteArray) (hs : s.size ≤ 100000) (i : Nat) (hi : i ≤ s.size) (hU : t.f0 = 3 → ∀ c ∈ t.f2, UC (fol t) c) (hl : t.f2.length ≤ 4611686018427387000) (hn : ¬ (t.f0 = 13 ∨ t.f0 = 15 ∨ t.f0 = 17 ∨ t.f0 = 18 ∨ t.f0 = 19)) :
    Calls Tryd.prog 44 #[.agg cs.toArray, .string s, .int .i64 (i : Int)] w fun e w' => (∃ k : Int, e = .returned (.int .i64 k) ∧ StepQ (minL t) s.size i k) ∧ Below w.heap.size w w' := by
  have hKT := hK
  obtain ⟨A2, c2, A7, c7, rfl, l2, g2, l7, g7⟩ := k25_open hK
  have hu40 := Tryd.underlying25
  have HT := Lib.hid hT
  have HS := Lib.hid (fun w' (hb : Below w.heap.size w w') => spells_calls t W0 w' _ hKT (hW.trans (hb.mono hW.size)) (hF.below hb) (Utf8Tabs_below hT hb) s hs i hi)
  have HK := Lib.hid (fun w' (hb : Below w.heap.size w w') => takes_calls t W0 w' _ hKT (hW.trans (hb.mono hW.size)) (Utf8Tabs_below hT hb) s hs i hi)
  have HM := Lib.hid (minL_eq t)
  obtain ⟨ra, hra⟩ := asks_some t.f0
  have HR := Lib.hid hra
  have HU := Lib.hid hU
  clear l2 g2 l7 g7 hW hK hT hKT hF hra hU
  go_enter Tryd.func44, Tryd.ntmps44
  go_upto_region 2 with (first | ((with_reducible refine gate_dst (N := 3) rfl ?_); refine box_event ?hg (N := 3) ?hd (cs := #[.int .i64 t.f0, .int .i64 t.f1, .slice A2 t.f2.length c2, .int .i64 t.f3, .int .i64 t.f4, .int .i64 t.f5, .string t.f6, .slice A7 t.f7.length c7]) (t := 25) ?hr ?_; (case hd => rfl); (case hg => rfl); (case hr => first | (go_simp; done) | (go_simp; rfl)); intro gb hg w1 hbox hb; have BK := Lib.hid hbox; have HB1 := Lib.hid hb; have GE : w.heap.size ≤ gb := (by omega); clear hg hbox hb; obtain ⟨hz0, hz1, hz2, hz3, hz4, hz5, hz6, hz7⟩ := blk8 BK.out))
  have HMX := Lib.hid (And.intro HM.out (And.intro HR.out hn))
  clear HM HR hn
  by_cases h1 : t.f0 = 1
  · have e1 : (t.f0 == 1) = true := beq_iff_eq.2 h1
    clear h1
    go_wp2_with fail
    go_ret
    exact ⟨⟨-1, rfl, .inl rfl⟩, HB1.out⟩
  have e1 : (t.f0 == 1) = false := beq_eq_false_iff_ne.2 h1
  by_cases h2 : t.f0 = 2
  · have e2 : (t.f0 == 2) = true := beq_iff_eq.2 h2
    have hm : Hid (minL t = 0) := Lib.hid (by rw [HMX.out.1, h2]; rfl)
    clear h2 h1
    go_wp2_with fail
    go_ret
    exact ⟨⟨i, rfl, .inr ⟨i, rfl, hi, by rw [hm.out]; omega⟩⟩, HB1.out⟩
  have e2 : (t.f0 == 2) = false := beq_eq_false_iff_ne.2 h2
  by_cases h3 : t.f0 = 3
  · have e3 : (t.f0 == 3) = true := beq_iff_eq.2 h3
    have hm : Hid (minL t = litL t.f2) := Lib.hid (by rw [HMX.out.1, if_pos h3])
    have HC := Lib.hid (HS.out w1 HB1.out (HU.out h3) hl)
    clear h3 h2 h1 HS HK
    go_wp2_with fail
    refine HC.out.mono ?_
    rintro e w2 ⟨⟨k, rfl, hk⟩, hb⟩
    have HK2 := Lib.hid hk
    have HB2 := Lib.hid (below_step HB1.out hb)
    clear hk hb
    go_wp2_with fail
    go_ret
    exact ⟨⟨k, rfl, by unfold StepQ; rw [hm.out]; exact HK2.out⟩, HB2.out⟩
  have e3 : (t.f0 == 3) = false := beq_eq_false_iff_ne.2 h3
  by_cases h4 : t.f0 = 4 ∨ t.f0 = 5 ∨ t.f0 = 6
  · have hm : Hid (minL t = 1) := Lib.hid (by rw [HMX.out.1, if_neg h3, if_pos h4])
    have HC := Lib.hid (HK.out w1 HB1.out h4 hl)
    have e4 : ((t.f0 == 4) = true) ∨ ((t.f0 == 4) = false ∧ (t.f0 == 5) = true) ∨ ((t.f0 == 4) = false ∧ (t.f0 == 5) = false ∧ (t.f0 == 6) = true) := by
      rcases h4 with h | h | h
      · exact .inl (beq_iff_eq.2 h)
      · exact .inr (.inl ⟨beq_eq_false_iff_ne.2 (by omega), beq_iff_eq.2 h⟩)
      · exact .inr (.inr ⟨beq_eq_false_iff_ne.2 (by omega), beq_eq_false_iff_ne.2 (by omega), beq_iff_eq.2 h⟩)
    clear h4 h3 h2 h1 HS HK
    rcases e4 with e4 | ⟨e4, e5⟩ | ⟨e4, e5, e6⟩
    all_goals
      go_wp2_with fail
      refine HC.out.mono ?_
      rintro e w2 ⟨⟨k, rfl, hk⟩, hb⟩
      have HK2 := Lib.hid hk
      have HB2 := Lib.hid (below_step HB1.out hb)
      clear hk hb
      go_wp2_with fail
      go_ret
      exact ⟨⟨k, rfl, by unfold StepQ; rw [hm.out]; exact HK2.out⟩, HB2.out⟩
  have e4 : (t.f0 == 4) = false := beq_eq_false_iff_ne.2 (by omega)
  have e5 : (t.f0 == 5) = false := beq_eq_false_iff_ne.2 (by omega)
  have e6 : (t.f0 == 6) = false := beq_eq_false_iff_ne.2 (by omega)
  have hm : Hid (minL t = 0) := Lib.hid (by
    have hn := HMX.out.2.2
    rw [HMX.out.1, if_neg h3, if_neg h4, if_neg (by omega), if_neg (by omega), if_neg (by omega), if_neg (by omega)])
  clear h4 h3 h2 h1 HS HK
  have HTA := Lib.hid (show ∀ w', Below w1.heap.size w1 w' → Tabs w' from fun w' hb => Utf8Tabs_below HT.out (below_step HB1.out hb))
  have lgb := blk_lt BK.out
  go_upto_region 12 with (fail)
  go_cut [35] (fun v35 wc => ∃ b : Bool, v35 = .bool b ∧ Hid (Below w1.heap.size w1 wc))
  case first =>
    go_region_held3 (fun w' => w'.cell? ⟨gb, 0, none⟩ = some (.int .i64 t.f0))
      (first
        | go_keep
        | ((rw [hd.cell (by first | exact lgb | (simp; omega) | (have hq := hA.size; simp at hq ⊢; omega))]); assumption))
      (first
        | (go_at_call 49; refine (condat_calls s i _ hi hs (HTA.out _ (by first | exact Below.refl _ w1 | exact below_drew (Below.refl _ w1) | exact below_step (below_drew (Below.refl _ w1)) hd | exact below_drew (below_step (below_drew (Below.refl _ w1)) hd)))).mono ?_; rintro e w4 ⟨rfl, hd⟩; have hA := hd)
        | (go_at_call 50; refine (spec_reAsks.calls _ ra _ HMX.out.2.1).mono ?_; rintro e w5 ⟨rfl, hd0⟩; have hd := hd0.below))
    all_goals
      go_wp2_with fail
      go_meet
      exact ⟨_, rfl, Lib.hid (by first | exact below_step (below_step (below_drew (Below.refl _ w1)) hA) hd | exact below_step (below_step (below_drew (Below.refl _ w1)) hd) hA | exact below_step (below_drew (below_step (below_drew (Below.refl _ w1)) hA)) hd | exact below_step (below_drew (below_step (below_drew (Below.refl _ w1)) hd)) hA)⟩
  case rest =>
    obtain ⟨b, rfl, HQ⟩ := hcut
    have HB2 := Lib.hid (below_step HB1.out HQ.out)
    cases b with
    | true =>
      go_wp2_with fail
      go_ret
      exact ⟨⟨-1, rfl, .inl rfl⟩, HB2.out⟩
    | false =>
      go_wp2_with fail
      go_ret
      exact ⟨⟨i, rfl, .inr ⟨i, rfl, hi, by rw [hm.out]; omega⟩⟩, HB2.out⟩
end Go.Proofs.YtofkpinikkfmeaaDoor.TxFnMtLeast
