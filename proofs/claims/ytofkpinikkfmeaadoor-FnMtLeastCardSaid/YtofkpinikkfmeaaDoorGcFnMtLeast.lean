/- Trees whose literals are as a parser makes them (ReUsual), beside a text (reOne, reSpells, reTakes): the walks. -/
import Derived.Test.YtofkpinikkfmeaaDoorGbFnMtLeast
import Derived.Test.YtofkpinikkfmeaaDoorRtFnMtLeast
namespace Go.Proofs.YtofkpinikkfmeaaDoor.TxFnMtLeast
open Go.Proofs.YtofkpinikkfmeaaDoor.Sf hiding T
open Go.RowKit Go.Proofs.YtofkpinikkfmeaaDoor.TrFnMtLeast Go.Proofs.YtofkpinikkfmeaaDoor.PFnMtLeast Go.Proofs.YtofkpinikkfmeaaDoorW.PrintWords Go.Proofs.YtofkpinikkfmeaaDoorW.PrintLast Go.Proofs.YtofkpinikkfmeaaDoorW.PrintMore
set_option linter.unusedSimpArgs false
set_option linter.unusedVariables false

/-- Whether a node's case is folded. -/
def fol (t : T) : Bool := bits .and .i64 t.f1 1 != 0
def UsN (t : T) : Prop := t.f0 = 3 → ∀ c ∈ t.f2, UC (fol t) c
abbrev UsualSaid (t : T) : Prop := ∀ (W0 w : World) (cs : List Value), k25.K W0 t cs → Below W0.heap.size W0 w → Folds w →
    Calls Tryd.prog 9 #[.agg cs.toArray] w fun e w' => (∃ b, e = .returned (.bool b) ∧ (b = true → AllN UsN t)) ∧ Below w.heap.size w w'

set_option maxRecDepth 100000 in
set_option maxHeartbeats 4000000 in
theorem usual_calls (t : T) : UsualSaid t := by
  refine tree_ind (p := UsualSaid) ?_ t
  intro t ih W0 w cs hK hW hF
  obtain ⟨A2, c2, A7, c7, rfl, l2, g2, l7, g7⟩ := k25_open hK
  have hu40 := Tryd.underlying25
  have HIH := Lib.hid ih
  have HG7 := Lib.hid (And.intro l7 g7)
  have HG2 := Lib.hid g2
  have HW := Lib.hid hW
  have HF := Lib.hid hF
  have hf7 : t.f7.length ≤ 9223372036854775807 := g7.2.1
  have hl2 := l2
  obtain ⟨fl, hfl⟩ : ∃ fl, fl = fol t := ⟨_, rfl⟩
  have HFL := Lib.hid hfl
  clear ih l2 g2 l7 g7 hW hK hF
  go_enter Tryd.func9, Tryd.ntmps9
  go_upto_region 1 with (first | ((with_reducible refine gate_dst (N := 1) rfl ?_); refine box_event ?hg (N := 1) ?hd (cs := #[.int .i64 t.f0, .int .i64 t.f1, .slice A2 t.f2.length c2, .int .i64 t.f3, .int .i64 t.f4, .int .i64 t.f5, .string t.f6, .slice A7 t.f7.length c7]) (t := 25) ?hr ?_; (case hd => rfl); (case hg => rfl); (case hr => first | (go_simp; done) | (go_simp; rfl)); intro gb hg w1 hbox hb; have BK := Lib.hid hbox; have HB1 := Lib.hid hb; have GE : w.heap.size ≤ gb := (by omega); clear hg hbox hb; obtain ⟨hz0, hz1, hz2, hz3, hz4, hz5, hz6, hz7⟩ := blk8 BK.out))
  go_cut [17] (fun v wc => ∃ u : Bool, v = .bool (!u) ∧ Hid ((u = true → UsN t) ∧ Below w1.heap.size w1 wc))
  case first =>
    by_cases h3 : t.f0 = 3
    · have e3 : (t.f0 == 3) = true := beq_iff_eq.2 h3
      have HC := Lib.hid (chars_calls w1 A2 c2 t.f2 (bits .and .i64 t.f1 1 != 0) (Kd.C_below HG2.out (HW.out.trans (HB1.out.mono HW.out.size))) hl2 (HF.out.below HB1.out))
      clear h3
      go_wp2_with fail
      refine HC.out.mono ?_
      rintro e w2 ⟨⟨b, rfl, hb⟩, n, rfl⟩
      have HBB := Lib.hid hb
      clear hb HC
      go_wp2_with fail
      go_meet
      exact ⟨b, rfl, Lib.hid ⟨fun e _ => HBB.out e, pw_below_drewN (Below.refl _ _) n⟩⟩
    · have e3 : (t.f0 == 3) = false := beq_eq_false_iff_ne.2 h3
      have H3 := Lib.hid h3
      clear h3
      go_wp2_with fail
      go_meet
      exact ⟨true, rfl, Lib.hid ⟨fun _ e => absurd e H3.out, Below.refl _ _⟩⟩
  case rest =>
    obtain ⟨u, rfl, HU⟩ := hcut
    have HB2 := Lib.hid (below_step HB1.out HU.out.2)
    have BK2 := Lib.hid (blk_below BK.out HU.out.2)
    clear hz0 hz1 hz2 hz3 hz4 hz5 hz6 hz7
    obtain ⟨hz0, hz1, hz2, hz3, hz4, hz5, hz6, hz7⟩ := blk8 BK2.out
    cases u with
    | false =>
      go_wp2_with fail
      go_ret
      exact ⟨⟨false, rfl, fun e => by cases e⟩, HB2.out⟩
    | true =>
      go_wp2_with fail
      clear hz0 hz1 hz2 hz3 hz4 hz5 hz6 hz7
      go_loopg [21] t.f7.length (fun gk s21 wr => ∃ (k : Nat), Hid (gk + k = t.f7.length ∧ (∀ s ∈ t.f7.take k, AllN UsN s) ∧ Below w.heap.size w wr) ∧ k ≤ t.f7.length ∧ s21 = .int .i64 k)
      case atStart => exact ⟨0, ⟨by omega, fun s hs => by simp at hs, HB2.out⟩, Nat.zero_le _, rfl⟩
      case round =>
        obtain ⟨k, HI, hk, rfl⟩ := hrel
        by_cases hlt : k < t.f7.length
        · obtain ⟨ad, A2', c2', A7', c7', e, hx0, hx1, hx2, hx3, hx4, hx5, hx6, hx7, hK'⟩ := sub_at HG7.out.2 (HW.out.trans (HI.out.2.2.mono HW.out.size)) k hlt
          cases e
          have HKK := Lib.hid hK'
          clear hK'
          go_wp2_with (first | ((with_reducible refine gate_dst (N := 4) rfl ?_); refine box_event ?hg (N := 4) ?hd (cs := #[.int .i64 0, .int .i64 0, .slice none 0 0, .int .i64 0, .int .i64 0, .int .i64 0, .string (⟨#[]⟩ : ByteArray), .slice none 0 0]) (t := 25) ?hr ?_; (case hd => rfl); (case hg => rfl); (case hr => first | (go_simp; done) | (go_simp; rfl)); intro gc hg w4 hbox hb; have BC := Lib.hid hbox; have HB4 := Lib.hid hb; have GC : wr.heap.size ≤ gc := (by omega); clear hg hbox hb; obtain ⟨hz0, hz1, hz2, hz3, hz4, hz5, hz6, hz7⟩ := blk8 BC.out; have hq0 := blk_frozen BC.out 0; have hq1 := blk_frozen BC.out 1; have hq2 := blk_frozen BC.out 2; have hq3 := blk_frozen BC.out 3; have hq4 := blk_frozen BC.out 4; have hq5 := blk_frozen BC.out 5; have hq6 := blk_frozen BC.out 6; have hq7 := blk_frozen BC.out 7))
          clear hz0 hz1 hz2 hz3 hz4 hz5 hz6 hz7 hq0 hq1 hq2 hq3 hq4 hq5 hq6 hq7 hx0 hx1 hx2 hx3 hx4 hx5 hx6 hx7
          have HB5 := Lib.hid (set8_below HB4.out GC (.int .i64 t.f7[k].f0) (.int .i64 t.f7[k].f1) (.slice A2' t.f7[k].f2.length c2') (.int .i64 t.f7[k].f3) (.int .i64 t.f7[k].f4) (.int .i64 t.f7[k].f5) (.string t.f7[k].f6) (.slice A7' t.f7[k].f7.length c7'))
          generalize hw5 : set8 w4 gc (.int .i64 t.f7[k].f0) (.int .i64 t.f7[k].f1) (.slice A2' t.f7[k].f2.length c2') (.int .i64 t.f7[k].f3) (.int .i64 t.f7[k].f4) (.int .i64 t.f7[k].f5) (.string t.f7[k].f6) (.slice A7' t.f7[k].f7.length c7') = w5 at *
          simp only [set8] at hw5
          rw [hw5]
          clear hw5
          have HG5 := Lib.hid (below_step HI.out.2.2 HB5.out)
          refine (HIH.out t.f7[k] (List.getElem_mem hlt) W0 w5 _ HKK.out (HW.out.trans (HG5.out.mono HW.out.size)) (HF.out.below HG5.out)).mono ?_
          rintro e w6 ⟨⟨b, rfl, hb⟩, hb6⟩
          have HG6 := Lib.hid (below_step HG5.out hb6)
          have HBB := Lib.hid hb
          clear hb hb6 HB5 HB4 BC
          cases b with
          | false =>
            go_wp2_with fail
            exact bodyPost_ret (v := .bool false) (by simp [results, Tryd.results9, go_sem]) rfl ⟨⟨false, rfl, fun e => by cases e⟩, HG6.out⟩
          | true =>
            go_wp2_with fail
            go_roundg (gk - 1)
            case measure => have := HI.out.1; omega
            case rel => exact ⟨k + 1, ⟨by have := HI.out.1; omega, fun s hs => by
              rw [List.take_succ_eq_append_getElem hlt, List.mem_append, List.mem_singleton] at hs
              rcases hs with h | rfl
              · exact HI.out.2.1 s h
              · exact HBB.out (by first | rfl | trivial), HG6.out⟩, by omega, by go_num⟩
        · have hke : k = t.f7.length := by omega
          subst hke
          go_wp2_with fail
          go_ret
          exact ⟨⟨true, rfl, fun _ => .mk t (HU.out.1 (by first | rfl | trivial)) fun s hs => HI.out.2.1 s (by rw [List.take_length]; exact hs)⟩, HI.out.2.2⟩
end Go.Proofs.YtofkpinikkfmeaaDoor.TxFnMtLeast
