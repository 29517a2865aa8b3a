/- The meaning of a tree (reEnds): each of its places lies the least length or more behind one that it began at. What a sound and usual tree is good for. -/
import Derived.Test.YtofkpinikkfmeaaDoorGjFnMtLeast
import Derived.Deep.RegionHeld3
import Derived.Test.YtofkpinikkfmeaaDoorGaFnMtLeast
namespace Go.Proofs.YtofkpinikkfmeaaDoor.TxFnMtLeast
open Go.Proofs.YtofkpinikkfmeaaDoor.Sf hiding T
open Go.RowKit Go.Proofs.YtofkpinikkfmeaaDoor.TrFnMtLeast Go.Proofs.YtofkpinikkfmeaaDoor.PFnMtLeast Go.Proofs.YtofkpinikkfmeaaDoorW.PrintWords Go.Proofs.YtofkpinikkfmeaaDoorW.PrintLast Go.Proofs.YtofkpinikkfmeaaDoorW.PrintMore
set_option linter.unusedSimpArgs false
set_option linter.unusedVariables false

theorem minH_eq (l : List T) (h : 0 < l.length) : minH l = minL l[0] := by
  cases l with
  | nil => simp at h
  | cons a r => rw [minH]; rfl
/-- What a node must be for the walk. -/
def NodeE (t : T) : Prop := UsN t ∧ t.f2.length ≤ 4611686018427387000 ∧ 0 ≤ minL t ∧ (t.f0 = 13 ∨ t.f0 = 14 ∨ t.f0 = 15 ∨ t.f0 = 16 ∨ t.f0 = 17 → 0 < t.f7.length) ∧ (t.f0 = 17 → 0 ≤ t.f3 ∧ t.f3 ≤ 100000 ∧ t.f4 ≤ 100000)

set_option maxRecDepth 100000 in
set_option maxHeartbeats 4000000 in
theorem ends_capture (s : ByteArray) (hs : s.size ≤ 100000) (W0 : World) (t : T) (HIH : Hid (∀ x ∈ t.f7, EndsS W0 x s)) (hno : NodeE t) (hop : Hid (t.f0 = 13)) : EndsS W0 t s := by
  intro w cs hK hW hF hT A c l hC hc hl
  have HNO := Lib.hid hno
  have HKT := Lib.hid hK
  obtain ⟨A2, c2, A7, c7, rfl, l2, g2, l7, g7⟩ := k25_open hK
  have hu40 := Tryd.underlying25
  have HG7 := Lib.hid g7
  have HW := Lib.hid hW
  have HF := Lib.hid hF
  have HT := Lib.hid hT
  have HC := Lib.hid (And.intro hC (And.intro hc hl))
  have hf7 : t.f7.length ≤ 9223372036854775807 := g7.2.1
  have HAN := Lib.hid (fun w' (hb : Below w.heap.size w w') => any_calls w' A c l (Kd.C_below hC hb) hc (by omega))
  obtain ⟨x, hx⟩ : ∃ x, x = anyB l l.length 0 := ⟨_, rfl⟩
  rw [← hx] at HAN
  have HX := Lib.hid hx
  clear hx l2 g2 l7 g7 hK hW hF hT hC hc hl hno
  go_enter Tryd.func23, Tryd.ntmps23
  go_wp2_with (first
    | ((with_reducible refine gate_dst (N := 3) rfl ?_); refine box_event ?hg (N := 3) ?hd (cs := #[.int .i64 t.f0, .int .i64 t.f1, .slice A2 t.f2.length c2, .int .i64 t.f3, .int .i64 t.f4, .int .i64 t.f5, .string t.f6, .slice A7 t.f7.length c7]) (t := 25) ?hr ?_; (case hd => rfl); (case hg => rfl); (case hr => first | (go_simp; done) | (go_simp; rfl)); intro gb hg w1 hbox hb; have BK1 := Lib.hid hbox; have HB1 := Lib.hid hb; clear hg hbox hb)
    | ((with_reducible refine gate_dst (N := 4) rfl ?_); refine box_event ?hg (N := 4) ?hd (cs := #[.string s]) (t := 9) ?hr ?_; (case hd => rfl); (case hg => rfl); (case hr => first | (go_simp; done) | (go_simp; rfl)); intro gt hg w2 hbox hb; have BT := Lib.hid hbox; have BK := Lib.hid (blk_below BK1.out hb); have HB2 := Lib.hid (below_step HB1.out hb); clear hg hbox hb))
  refine (HAN.out w2 HB2.out).mono ?_
  rintro e w3 ⟨rfl, hb3⟩
  have HB3 := Lib.hid (below_step HB2.out hb3)
  have BT3 := Lib.hid (blk_below BT.out hb3)
  have BK3 := Lib.hid (blk_below BK.out hb3)
  have HC3 := Lib.hid (Kd.C_below HC.out.1 HB3.out)
  clear hb3 BT BK BK1 HB1 HB2 HAN
  cases x with
  | false =>
    go_wp2_with fail
    go_ret
    exact ⟨⟨_, l, rfl, ⟨A, c, rfl, HC.out.2.1, HC3.out⟩, HC.out.2.2, Lo.none _ _ _ fun k h => by
      have hf := HX.out.symm
      have := (anyB_iff l l.length 0).2 ⟨k, Nat.zero_le _, by obtain ⟨h, _⟩ := List.getElem?_eq_some_iff.1 h; omega, h⟩
      rw [hf] at this
      cases this⟩, HB3.out⟩
  | true =>
    clear HX
    obtain ⟨hz0, hz1, hz2, hz3, hz4, hz5, hz6, hz7⟩ := blk8 BK3.out
    have hs0 : w3.cell? ⟨gt, 0, none⟩ = some (.string s) := by
      have := BT3.out
      simp [World.cell?, this]
    have h13 := hop.out
    have e13 : (t.f0 == 13) = true := beq_iff_eq.2 h13
    have hm : Hid (minL t = minH t.f7) := Lib.hid (by rw [minL_eq, if_neg (by omega), if_neg (by omega), if_pos (by omega)])
    have h7 := HNO.out.2.2.2.1 (by omega)
    obtain ⟨ad, A2', c2', A7', c7', e, hx0, hx1, hx2, hx3, hx4, hx5, hx6, hx7, hK'⟩ := sub_at HG7.out (HW.out.trans (HB3.out.mono HW.out.size)) 0 h7
    subst e
    simp only [Nat.zero_mul, Go.Proofs.YtofkpinikkfmeaaDoor.IcFnMtLeast.add_0] at hx0 hx1 hx2 hx3 hx4 hx5 hx6 hx7
    have HE := Lib.hid (HIH.out _ (List.getElem_mem h7) w3.drew _ hK' (below_drew (HW.out.trans (HB3.out.mono HW.out.size))) (HF.out.below (below_drew HB3.out)) (Utf8Tabs_below HT.out (below_drew HB3.out)) A c l (Kd.C_below HC3.out (below_drew (Below.refl _ _))) HC.out.2.1 HC.out.2.2)
    have hmh : Hid (minH t.f7 = minL t.f7[0]) := Lib.hid (minH_eq _ h7)
    have p0 : (0 : Int) ≤ 0 := Int.le_refl 0
    have p1 : (0 : Int) < (t.f7.length : Int) := by omega
    have HB := Lib.hid (show Below w3.heap.size w3 w3.drew from below_drew (Below.refl _ _))
    clear h13 hK'
    go_upto_region 5 with (fail)
    go_still_tail 6, (by kernel_rfl)
    change wpList _ _ _ _ _ w3.drew
    go_wp2_with fail
    refine HE.out.mono ?_
    rintro e w5 ⟨⟨v, r, rfl, hr⟩, hb5⟩
    have HR := Lib.hid hr
    have HB5 := Lib.hid (below_step HB3.out (below_step HB.out hb5))
    clear hr hb5 HE
    go_wp2_with fail
    go_ret
    exact ⟨⟨v, r, rfl, HR.out.1, HR.out.2.1, by rw [hm.out, hmh.out]; exact HR.out.2.2⟩, HB5.out⟩
end Go.Proofs.YtofkpinikkfmeaaDoor.TxFnMtLeast
namespace Go.Proofs.YtofkpinikkfmeaaDoor.TxFnMtLeast
open Go.Proofs.YtofkpinikkfmeaaDoor.Sf hiding T
open Go.RowKit Go.Proofs.YtofkpinikkfmeaaDoor.TrFnMtLeast Go.Proofs.YtofkpinikkfmeaaDoor.PFnMtLeast Go.Proofs.YtofkpinikkfmeaaDoorW.PrintWords Go.Proofs.YtofkpinikkfmeaaDoorW.PrintLast Go.Proofs.YtofkpinikkfmeaaDoorW.PrintMore
set_option linter.unusedSimpArgs false
set_option linter.unusedVariables false

set_option maxRecDepth 100000 in
set_option maxHeartbeats 4000000 in
theorem ends_concat (s : ByteArray) (hs : s.size ≤ 100000) (W0 : World) (t : T) (HIH : Hid (∀ x ∈ t.f7, EndsS W0 x s)) (hno : NodeE t) (hop : Hid (t.f0 = 18)) : EndsS W0 t s := by
  intro w cs hK hW hF hT A c l hC hc hl
  have HNO := Lib.hid hno
  have HKT := Lib.hid hK
  obtain ⟨A2, c2, A7, c7, rfl, l2, g2, l7, g7⟩ := k25_open hK
  have hu40 := Tryd.underlying25
  have HG7 := Lib.hid g7
  have HW := Lib.hid hW
  have HF := Lib.hid hF
  have HT := Lib.hid hT
  have HC := Lib.hid (And.intro hC (And.intro hc hl))
  have hf7 : t.f7.length ≤ 9223372036854775807 := g7.2.1
  have HAN := Lib.hid (fun w' (hb : Below w.heap.size w w') => any_calls w' A c l (Kd.C_below hC hb) hc (by omega))
  obtain ⟨x, hx⟩ : ∃ x, x = anyB l l.length 0 := ⟨_, rfl⟩
  rw [← hx] at HAN
  have HX := Lib.hid hx
  clear hx l2 g2 l7 g7 hK hW hF hT hC hc hl hno
  go_enter Tryd.func23, Tryd.ntmps23
  go_wp2_with (first
    | ((with_reducible refine gate_dst (N := 3) rfl ?_); refine box_event ?hg (N := 3) ?hd (cs := #[.int .i64 t.f0, .int .i64 t.f1, .slice A2 t.f2.length c2, .int .i64 t.f3, .int .i64 t.f4, .int .i64 t.f5, .string t.f6, .slice A7 t.f7.length c7]) (t := 25) ?hr ?_; (case hd => rfl); (case hg => rfl); (case hr => first | (go_simp; done) | (go_simp; rfl)); intro gb hg w1 hbox hb; have BK1 := Lib.hid hbox; have HB1 := Lib.hid hb; clear hg hbox hb)
    | ((with_reducible refine gate_dst (N := 4) rfl ?_); refine box_event ?hg (N := 4) ?hd (cs := #[.string s]) (t := 9) ?hr ?_; (case hd => rfl); (case hg => rfl); (case hr => first | (go_simp; done) | (go_simp; rfl)); intro gt hg w2 hbox hb; have BT := Lib.hid hbox; have BK := Lib.hid (blk_below BK1.out hb); have HB2 := Lib.hid (below_step HB1.out hb); clear hg hbox hb))
  refine (HAN.out w2 HB2.out).mono ?_
  rintro e w3 ⟨rfl, hb3⟩
  have HB3 := Lib.hid (below_step HB2.out hb3)
  have BT3 := Lib.hid (blk_below BT.out hb3)
  have BK3 := Lib.hid (blk_below BK.out hb3)
  have HC3 := Lib.hid (Kd.C_below HC.out.1 HB3.out)
  clear hb3 BT BK BK1 HB1 HB2 HAN
  cases x with
  | false =>
    go_wp2_with fail
    go_ret
    exact ⟨⟨_, l, rfl, ⟨A, c, rfl, HC.out.2.1, HC3.out⟩, HC.out.2.2, Lo.none _ _ _ fun k h => by
      have hf := HX.out.symm
      have := (anyB_iff l l.length 0).2 ⟨k, Nat.zero_le _, by obtain ⟨h, _⟩ := List.getElem?_eq_some_iff.1 h; omega, h⟩
      rw [hf] at this
      cases this⟩, HB3.out⟩
  | true =>
    clear HX
    obtain ⟨hz0, hz1, hz2, hz3, hz4, hz5, hz6, hz7⟩ := blk8 BK3.out
    have hs0 : w3.cell? ⟨gt, 0, none⟩ = some (.string s) := by
      have := BT3.out
      simp [World.cell?, this]
    have h18 := hop.out
    have e13 : (t.f0 == 13) = false := beq_eq_false_iff_ne.2 (by omega)
    have e18 : (t.f0 == 18) = true := beq_iff_eq.2 h18
    have hm : Hid (minL t = minS t.f7) := Lib.hid (by rw [minL_eq, if_neg (by omega), if_neg (by omega), if_neg (by omega), if_neg (by omega), if_pos h18])
    clear h18 hz1 hz2 hz3 hz4 hz5 hz6 hz7
    obtain ⟨hz0, hz1, hz2, hz3, hz4, hz5, hz6, hz7⟩ := blk8 BK3.out
    go_wp2_with fail
    clear hz0 hz1 hz2 hz3 hz4 hz5 hz6 hz7 hs0
    go_loopg [2, 42] t.f7.length (fun gk s2 s42 wr => ∃ (k : Nat) (Ar : Option Addr) (cr : Nat) (r : List Bool), Hid (gk + k = t.f7.length ∧ Below w3.heap.size w3 wr ∧ Kd.C Kd.bool wr Ar r.length r ∧ r.length ≤ cr ∧ r.length = s.size + 1 ∧ Lo (minS (t.f7.take k)) l r) ∧ k ≤ t.f7.length ∧ s2 = .slice Ar r.length cr ∧ s42 = .int .i64 k)
    case atStart => exact ⟨0, A, c, l, Lib.hid ⟨by omega, Below.refl _ _, HC3.out, HC.out.2.1, HC.out.2.2, Lo.refl l⟩, Nat.zero_le _, rfl, rfl⟩
    case round =>
      obtain ⟨k, Ar, cr, r, HI, hk, rfl, rfl⟩ := hrel
      have HBW := Lib.hid (below_step HB3.out HI.out.2.1)
      by_cases hlt : k < t.f7.length
      · have hd1 : decide (k < t.f7.length) = true := decide_eq_true hlt
        obtain ⟨ad, A2', c2', A7', c7', e, hx0, hx1, hx2, hx3, hx4, hx5, hx6, hx7, hK'⟩ := sub_at HG7.out (HW.out.trans (HBW.out.mono HW.out.size)) k hlt
        cases e
        have HKK := Lib.hid hK'
        clear hK'
        have hs0 : wr.cell? ⟨gt, 0, none⟩ = some (.string s) := by
          have := blk_below BT3.out HI.out.2.1
          simp [World.cell?, this]
        have lgt := blk_lt (blk_below BT3.out HI.out.2.1)
        go_wp2_with (first | ((with_reducible refine gate_dst (N := 8) rfl ?_); refine box_event ?hg (N := 8) ?hd (cs := #[.int .i64 0, .int .i64 0, .slice none 0 0, .int .i64 0, .int .i64 0, .int .i64 0, .string (⟨#[]⟩ : ByteArray), .slice none 0 0]) (t := 25) ?hr ?_; (case hd => rfl); (case hg => rfl); (case hr => first | (go_simp; done) | (go_simp; rfl)); intro gc hg w4 hbox hb; have BC := Lib.hid hbox; have HB4 := Lib.hid hb; have GC : wr.heap.size ≤ gc := (by omega); clear hg hbox hb; obtain ⟨hz0, hz1, hz2, hz3, hz4, hz5, hz6, hz7⟩ := blk8 BC.out; have hq0 := blk_frozen BC.out 0; have hq1 := blk_frozen BC.out 1; have hq2 := blk_frozen BC.out 2; have hq3 := blk_frozen BC.out 3; have hq4 := blk_frozen BC.out 4; have hq5 := blk_frozen BC.out 5; have hq6 := blk_frozen BC.out 6; have hq7 := blk_frozen BC.out 7; have hs4 : w4.cell? ⟨gt, 0, none⟩ = some (.string s) := (HB4.out.cell (by exact lgt)).trans hs0))
        clear hz0 hz1 hz2 hz3 hz4 hz5 hz6 hz7 hq0 hq1 hq2 hq3 hq4 hq5 hq6 hq7 hx0 hx1 hx2 hx3 hx4 hx5 hx6 hx7 hs4 hs0
        have HB5 := Lib.hid (set8_below HB4.out GC (.int .i64 t.f7[k].f0) (.int .i64 t.f7[k].f1) (.slice A2' t.f7[k].f2.length c2') (.int .i64 t.f7[k].f3) (.int .i64 t.f7[k].f4) (.int .i64 t.f7[k].f5) (.string t.f7[k].f6) (.slice A7' t.f7[k].f7.length c7'))
        generalize hw5 : set8 w4 gc (.int .i64 t.f7[k].f0) (.int .i64 t.f7[k].f1) (.slice A2' t.f7[k].f2.length c2') (.int .i64 t.f7[k].f3) (.int .i64 t.f7[k].f4) (.int .i64 t.f7[k].f5) (.string t.f7[k].f6) (.slice A7' t.f7[k].f7.length c7') = w5 at *
        simp only [set8] at hw5
        rw [hw5]
        clear hw5
        have HG5 := Lib.hid (below_step HBW.out HB5.out)
        refine (HIH.out t.f7[k] (List.getElem_mem hlt) w5 _ HKK.out (HW.out.trans (HG5.out.mono HW.out.size)) (HF.out.below HG5.out) (Utf8Tabs_below HT.out HG5.out) Ar cr r (Kd.C_below HI.out.2.2.1 HB5.out) HI.out.2.2.2.1 HI.out.2.2.2.2.1).mono ?_
        rintro e w6 ⟨⟨v, r', rfl, ⟨Ar', cr', rfl, q1, q2⟩, q3, q4⟩, hb6⟩
        have HQ := Lib.hid (And.intro q1 (And.intro q2 (And.intro q3 (And.intro q4 (below_step (below_step HI.out.2.1 HB5.out) hb6)))))
        clear q1 q2 q3 q4 hb6 HB5 HB4 BC
        go_wp2_with fail
        go_roundg (gk - 1)
        case measure => have := HI.out.1; omega
        case rel => exact ⟨k + 1, Ar', cr', r', Lib.hid ⟨by have := HI.out.1; omega, HQ.out.2.2.2.2, HQ.out.2.1, HQ.out.1, HQ.out.2.2.1, by rw [List.take_succ_eq_append_getElem hlt, minS_append]; exact HI.out.2.2.2.2.2.trans HQ.out.2.2.2.1⟩, by omega, rfl, by go_num⟩
      · have hd1 : decide (k < t.f7.length) = false := decide_eq_false hlt
        obtain rfl : k = t.f7.length := by omega
        go_wp2_with fail
        go_ret
        exact ⟨⟨_, r, rfl, ⟨Ar, cr, rfl, HI.out.2.2.2.1, HI.out.2.2.1⟩, HI.out.2.2.2.2.1, by rw [hm.out]; have := HI.out.2.2.2.2.2; rw [List.take_length] at this; exact this⟩, HBW.out⟩
end Go.Proofs.YtofkpinikkfmeaaDoor.TxFnMtLeast
namespace Go.Proofs.YtofkpinikkfmeaaDoor.TxFnMtLeast
open Go.Proofs.YtofkpinikkfmeaaDoor.Sf hiding T
open Go.RowKit Go.Proofs.YtofkpinikkfmeaaDoor.TrFnMtLeast Go.Proofs.YtofkpinikkfmeaaDoor.PFnMtLeast Go.Proofs.YtofkpinikkfmeaaDoorW.PrintWords Go.Proofs.YtofkpinikkfmeaaDoorW.PrintLast Go.Proofs.YtofkpinikkfmeaaDoorW.PrintMore
set_option linter.unusedSimpArgs false
set_option linter.unusedVariables false

set_option maxRecDepth 100000 in
set_option maxHeartbeats 4000000 in
theorem ends_alternate (s : ByteArray) (hs : s.size ≤ 100000) (W0 : World) (t : T) (HIH : Hid (∀ x ∈ t.f7, EndsS W0 x s)) (hno : NodeE t) (hop : Hid (t.f0 = 19)) : EndsS W0 t s := by
  intro w cs hK hW hF hT A c l hC hc hl
  have HNO := Lib.hid hno
  have HKT := Lib.hid hK
  obtain ⟨A2, c2, A7, c7, rfl, l2, g2, l7, g7⟩ := k25_open hK
  have hu40 := Tryd.underlying25
  have HG7 := Lib.hid g7
  have HW := Lib.hid hW
  have HF := Lib.hid hF
  have HT := Lib.hid hT
  have HC := Lib.hid (And.intro hC (And.intro hc hl))
  have hf7 : t.f7.length ≤ 9223372036854775807 := g7.2.1
  have HAN := Lib.hid (fun w' (hb : Below w.heap.size w w') => any_calls w' A c l (Kd.C_below hC hb) hc (by omega))
  obtain ⟨x, hx⟩ : ∃ x, x = anyB l l.length 0 := ⟨_, rfl⟩
  rw [← hx] at HAN
  have HX := Lib.hid hx
  clear hx l2 g2 l7 g7 hK hW hF hT hC hc hl hno
  go_enter Tryd.func23, Tryd.ntmps23
  go_wp2_with (first
    | ((with_reducible refine gate_dst (N := 3) rfl ?_); refine box_event ?hg (N := 3) ?hd (cs := #[.int .i64 t.f0, .int .i64 t.f1, .slice A2 t.f2.length c2, .int .i64 t.f3, .int .i64 t.f4, .int .i64 t.f5, .string t.f6, .slice A7 t.f7.length c7]) (t := 25) ?hr ?_; (case hd => rfl); (case hg => rfl); (case hr => first | (go_simp; done) | (go_simp; rfl)); intro gb hg w1 hbox hb; have BK1 := Lib.hid hbox; have HB1 := Lib.hid hb; clear hg hbox hb)
    | ((with_reducible refine gate_dst (N := 4) rfl ?_); refine box_event ?hg (N := 4) ?hd (cs := #[.string s]) (t := 9) ?hr ?_; (case hd => rfl); (case hg => rfl); (case hr => first | (go_simp; done) | (go_simp; rfl)); intro gt hg w2 hbox hb; have BT := Lib.hid hbox; have BK := Lib.hid (blk_below BK1.out hb); have HB2 := Lib.hid (below_step HB1.out hb); clear hg hbox hb))
  refine (HAN.out w2 HB2.out).mono ?_
  rintro e w3 ⟨rfl, hb3⟩
  have HB3 := Lib.hid (below_step HB2.out hb3)
  have BT3 := Lib.hid (blk_below BT.out hb3)
  have BK3 := Lib.hid (blk_below BK.out hb3)
  have HC3 := Lib.hid (Kd.C_below HC.out.1 HB3.out)
  clear hb3 BT BK BK1 HB1 HB2 HAN
  cases x with
  | false =>
    go_wp2_with fail
    go_ret
    exact ⟨⟨_, l, rfl, ⟨A, c, rfl, HC.out.2.1, HC3.out⟩, HC.out.2.2, Lo.none _ _ _ fun k h => by
      have hf := HX.out.symm
      have := (anyB_iff l l.length 0).2 ⟨k, Nat.zero_le _, by obtain ⟨h, _⟩ := List.getElem?_eq_some_iff.1 h; omega, h⟩
      rw [hf] at this
      cases this⟩, HB3.out⟩
  | true =>
    clear HX
    obtain ⟨hz0, hz1, hz2, hz3, hz4, hz5, hz6, hz7⟩ := blk8 BK3.out
    have hs0 : w3.cell? ⟨gt, 0, none⟩ = some (.string s) := by
      have := BT3.out
      simp [World.cell?, this]
    have h19 := hop.out
    have e13 : (t.f0 == 13) = false := beq_eq_false_iff_ne.2 (by omega)
    have e18 : (t.f0 == 18) = false := beq_eq_false_iff_ne.2 (by omega)
    have e19 : (t.f0 == 19) = true := beq_iff_eq.2 h19
    have hm : Hid (minL t = minB t.f7) := Lib.hid (by rw [minL_eq, if_neg (by omega), if_neg (by omega), if_neg (by omega), if_neg (by omega), if_neg (by omega), if_pos h19])
    clear h19 hz1 hz2 hz3 hz4 hz5 hz6 hz7
    obtain ⟨hz0, hz1, hz2, hz3, hz4, hz5, hz6, hz7⟩ := blk8 BK3.out
    obtain ⟨ar, har⟩ : ∃ ar, ar = (List.replicate l.length (Value.bool false)).toArray := ⟨_, rfl⟩
    have hmk := make_b l.length (by have := HC.out.2.2; omega)
    rw [← har] at hmk
    have HAR := Lib.hid har
    clear har
    go_upto_region 15 with (fail)
    clear hmk hz0 hz7
    obtain ⟨hz0, hz1, hz2, hz3, hz4, hz5, hz6, hz7⟩ := blk8 (blk_below BK3.out (below_alloc (Below.refl _ w3) (.cells ar 4)))
    go_wp2_with fail
    have hnw := Rw.new w3 l.length (by have := HC.out.2.2; omega)
    rw [← HAR.out] at hnw
    obtain ⟨A9, c9, e9, h91, h92⟩ := hnw
    rw [List.length_replicate] at e9
    cases e9
    have HR9 := Lib.hid (And.intro h91 h92)
    clear h91 h92
    clear hz0 hz1 hz2 hz3 hz4 hz5 hz6 hz7 hs0
    go_loopg [9, 60] t.f7.length (fun gk s9 s60 wr => ∃ (k : Nat) (Ar : Option Addr) (cr : Nat) (r : List Bool), Hid (gk + k = t.f7.length ∧ Below w3.heap.size w3 wr ∧ Kd.C Kd.bool wr Ar r.length r ∧ r.length ≤ cr ∧ r.length = s.size + 1 ∧ Lo (minL t) l r) ∧ k ≤ t.f7.length ∧ s9 = .slice Ar r.length cr ∧ s60 = .int .i64 k)
    case atStart => exact ⟨0, _, _, List.replicate l.length false, Lib.hid ⟨by omega, below_alloc (Below.refl _ _) _, HR9.out.2, HR9.out.1, by rw [List.length_replicate]; exact HC.out.2.2, Lo.nil _ _ _⟩, Nat.zero_le _, by rw [List.length_replicate], rfl⟩
    case round =>
      obtain ⟨k, Ar, cr, r, HI, hk, rfl, rfl⟩ := hrel
      have HBW := Lib.hid (below_step HB3.out HI.out.2.1)
      by_cases hlt : k < t.f7.length
      · have hd1 : decide (k < t.f7.length) = true := decide_eq_true hlt
        obtain ⟨ad, A2', c2', A7', c7', e, hx0, hx1, hx2, hx3, hx4, hx5, hx6, hx7, hK'⟩ := sub_at HG7.out (HW.out.trans (HBW.out.mono HW.out.size)) k hlt
        cases e
        have HKK := Lib.hid hK'
        clear hK'
        have hs0 : wr.cell? ⟨gt, 0, none⟩ = some (.string s) := by
          have := blk_below BT3.out HI.out.2.1
          simp [World.cell?, this]
        have lgt := blk_lt (blk_below BT3.out HI.out.2.1)
        go_wp2_with (first | ((with_reducible refine gate_dst (N := 11) rfl ?_); refine box_event ?hg (N := 11) ?hd (cs := #[.int .i64 0, .int .i64 0, .slice none 0 0, .int .i64 0, .int .i64 0, .int .i64 0, .string (⟨#[]⟩ : ByteArray), .slice none 0 0]) (t := 25) ?hr ?_; (case hd => rfl); (case hg => rfl); (case hr => first | (go_simp; done) | (go_simp; rfl)); intro gc hg w4 hbox hb; have BC := Lib.hid hbox; have HB4 := Lib.hid hb; have GC : wr.heap.size ≤ gc := (by omega); clear hg hbox hb; obtain ⟨hz0, hz1, hz2, hz3, hz4, hz5, hz6, hz7⟩ := blk8 BC.out; have hq0 := blk_frozen BC.out 0; have hq1 := blk_frozen BC.out 1; have hq2 := blk_frozen BC.out 2; have hq3 := blk_frozen BC.out 3; have hq4 := blk_frozen BC.out 4; have hq5 := blk_frozen BC.out 5; have hq6 := blk_frozen BC.out 6; have hq7 := blk_frozen BC.out 7; have hs4 : w4.cell? ⟨gt, 0, none⟩ = some (.string s) := (HB4.out.cell (by exact lgt)).trans hs0))
        clear hz0 hz1 hz2 hz3 hz4 hz5 hz6 hz7 hq0 hq1 hq2 hq3 hq4 hq5 hq6 hq7 hx0 hx1 hx2 hx3 hx4 hx5 hx6 hx7 hs4 hs0
        have HB5 := Lib.hid (set8_below HB4.out GC (.int .i64 t.f7[k].f0) (.int .i64 t.f7[k].f1) (.slice A2' t.f7[k].f2.length c2') (.int .i64 t.f7[k].f3) (.int .i64 t.f7[k].f4) (.int .i64 t.f7[k].f5) (.string t.f7[k].f6) (.slice A7' t.f7[k].f7.length c7'))
        generalize hw5 : set8 w4 gc (.int .i64 t.f7[k].f0) (.int .i64 t.f7[k].f1) (.slice A2' t.f7[k].f2.length c2') (.int .i64 t.f7[k].f3) (.int .i64 t.f7[k].f4) (.int .i64 t.f7[k].f5) (.string t.f7[k].f6) (.slice A7' t.f7[k].f7.length c7') = w5 at *
        simp only [set8] at hw5
        rw [hw5]
        clear hw5
        have HG5 := Lib.hid (below_step HBW.out HB5.out)
        refine (HIH.out t.f7[k] (List.getElem_mem hlt) w5 _ HKK.out (HW.out.trans (HG5.out.mono HW.out.size)) (HF.out.below HG5.out) (Utf8Tabs_below HT.out HG5.out) A c l (Kd.C_below HC.out.1 HG5.out) HC.out.2.1 HC.out.2.2).mono ?_
        rintro e w6 ⟨⟨v, r', rfl, ⟨Ar', cr', rfl, q1, q2⟩, q3, q4⟩, hb6⟩
        have HB6 := Lib.hid (below_step (below_step HI.out.2.1 HB5.out) hb6)
        have HQ := Lib.hid (show Lo (minL t) l r' from q4.mono (by rw [hm.out]; exact minB_le _ _ (List.getElem_mem hlt)))
        have HD := Lib.hid (both_calls w6 (s.size + 1) Ar cr r (Kd.C_below (Kd.C_below HI.out.2.2.1 HB5.out) hb6) HI.out.2.2.2.1 Ar' cr' r' q2 q1 (by omega) HI.out.2.2.2.2.1 q3)
        clear q1 q2 q3 q4 hb6 HB5 HB4 BC
        go_wp2_with fail
        refine HD.out.mono ?_
        rintro e w7 ⟨⟨v7, rfl, A7'', c7'', rfl, q1, q2⟩, hb7⟩
        have HB7 := Lib.hid (And.intro (below_step HB6.out hb7) (And.intro q1 q2))
        clear hb7 q1 q2 HD
        go_wp2_with fail
        go_roundg (gk - 1)
        case measure => have := HI.out.1; omega
        case rel => exact ⟨k + 1, A7'', c7'', _, Lib.hid ⟨by have := HI.out.1; omega, HB7.out.1, HB7.out.2.2, HB7.out.2.1, gen_len' _ _, Lo.or HI.out.2.2.2.2.2 HQ.out _⟩, by omega, rfl, by go_num⟩
      · have hd1 : decide (k < t.f7.length) = false := decide_eq_false hlt
        obtain rfl : k = t.f7.length := by omega
        go_wp2_with fail
        go_ret
        exact ⟨⟨_, r, rfl, ⟨Ar, cr, rfl, HI.out.2.2.2.1, HI.out.2.2.1⟩, HI.out.2.2.2.2.1, HI.out.2.2.2.2.2⟩, HBW.out⟩
end Go.Proofs.YtofkpinikkfmeaaDoor.TxFnMtLeast
namespace Go.Proofs.YtofkpinikkfmeaaDoor.TxFnMtLeast
open Go.Proofs.YtofkpinikkfmeaaDoor.Sf hiding T
open Go.RowKit Go.Proofs.YtofkpinikkfmeaaDoor.TrFnMtLeast Go.Proofs.YtofkpinikkfmeaaDoor.PFnMtLeast Go.Proofs.YtofkpinikkfmeaaDoorW.PrintWords Go.Proofs.YtofkpinikkfmeaaDoorW.PrintLast Go.Proofs.YtofkpinikkfmeaaDoorW.PrintMore
set_option linter.unusedSimpArgs false
set_option linter.unusedVariables false

/-- The cells that the statement reads. -/
def QS (t : T) (gb gt : Nat) (s : ByteArray) (A7 : Option Addr) (c7 : Nat) (ad : Addr) (A2' : Option Addr) (c2' : Nat) (A7' : Option Addr) (c7' : Nat) (x : T) (w' : World) : Prop :=
  w'.cell? ⟨gb, 7, none⟩ = some (.slice A7 t.f7.length c7) ∧ w'.cell? ad = some (.int .i64 x.f0) ∧ w'.cell? ⟨ad.block, ad.off + 1, none⟩ = some (.int .i64 x.f1) ∧ w'.cell? ⟨ad.block, ad.off + 2, none⟩ = some (.slice A2' x.f2.length c2') ∧ w'.cell? ⟨ad.block, ad.off + 3, none⟩ = some (.int .i64 x.f3) ∧ w'.cell? ⟨ad.block, ad.off + 4, none⟩ = some (.int .i64 x.f4) ∧ w'.cell? ⟨ad.block, ad.off + 5, none⟩ = some (.int .i64 x.f5) ∧ w'.cell? ⟨ad.block, ad.off + 6, none⟩ = some (.string x.f6) ∧ w'.cell? ⟨ad.block, ad.off + 7, none⟩ = some (.slice A7' x.f7.length c7') ∧ w'.cell? ⟨gt, 0, none⟩ = some (.string s)
set_option maxRecDepth 100000 in
set_option maxHeartbeats 4000000 in
theorem ends_quest (s : ByteArray) (hs : s.size ≤ 100000) (W0 : World) (t : T) (HIH : Hid (∀ x ∈ t.f7, EndsS W0 x s)) (HP : Hid (∀ x ∈ t.f7, 0 ≤ minL x)) (hno : NodeE t) (hop : Hid (t.f0 = 16)) : EndsS W0 t s := by
  intro w cs hK hW hF hT A c l hC hc hl
  have HNO := Lib.hid hno
  have HKT := Lib.hid hK
  obtain ⟨A2, c2, A7, c7, rfl, l2, g2, l7, g7⟩ := k25_open hK
  have hu40 := Tryd.underlying25
  have HG7 := Lib.hid g7
  have HW := Lib.hid hW
  have HF := Lib.hid hF
  have HT := Lib.hid hT
  have HC := Lib.hid (And.intro hC (And.intro hc hl))
  have hf7 : t.f7.length ≤ 9223372036854775807 := g7.2.1
  have HAN := Lib.hid (fun w' (hb : Below w.heap.size w w') => any_calls w' A c l (Kd.C_below hC hb) hc (by omega))
  obtain ⟨x, hx⟩ : ∃ x, x = anyB l l.length 0 := ⟨_, rfl⟩
  rw [← hx] at HAN
  have HX := Lib.hid hx
  clear hx l2 g2 l7 g7 hK hW hF hT hC hc hl hno
  go_enter Tryd.func23, Tryd.ntmps23
  go_wp2_with (first
    | ((with_reducible refine gate_dst (N := 3) rfl ?_); refine box_event ?hg (N := 3) ?hd (cs := #[.int .i64 t.f0, .int .i64 t.f1, .slice A2 t.f2.length c2, .int .i64 t.f3, .int .i64 t.f4, .int .i64 t.f5, .string t.f6, .slice A7 t.f7.length c7]) (t := 25) ?hr ?_; (case hd => rfl); (case hg => rfl); (case hr => first | (go_simp; done) | (go_simp; rfl)); intro gb hg w1 hbox hb; have BK1 := Lib.hid hbox; have HB1 := Lib.hid hb; clear hg hbox hb)
    | ((with_reducible refine gate_dst (N := 4) rfl ?_); refine box_event ?hg (N := 4) ?hd (cs := #[.string s]) (t := 9) ?hr ?_; (case hd => rfl); (case hg => rfl); (case hr => first | (go_simp; done) | (go_simp; rfl)); intro gt hg w2 hbox hb; have BT := Lib.hid hbox; have BK := Lib.hid (blk_below BK1.out hb); have HB2 := Lib.hid (below_step HB1.out hb); clear hg hbox hb))
  refine (HAN.out w2 HB2.out).mono ?_
  rintro e w3 ⟨rfl, hb3⟩
  have HB3 := Lib.hid (below_step HB2.out hb3)
  have BT3 := Lib.hid (blk_below BT.out hb3)
  have BK3 := Lib.hid (blk_below BK.out hb3)
  have HC3 := Lib.hid (Kd.C_below HC.out.1 HB3.out)
  clear hb3 BT BK BK1 HB1 HB2 HAN
  cases x with
  | false =>
    go_wp2_with fail
    go_ret
    exact ⟨⟨_, l, rfl, ⟨A, c, rfl, HC.out.2.1, HC3.out⟩, HC.out.2.2, Lo.none _ _ _ fun k h => by
      have hf := HX.out.symm
      have := (anyB_iff l l.length 0).2 ⟨k, Nat.zero_le _, by obtain ⟨h, _⟩ := List.getElem?_eq_some_iff.1 h; omega, h⟩
      rw [hf] at this
      cases this⟩, HB3.out⟩
  | true =>
    clear HX
    obtain ⟨hz0, hz1, hz2, hz3, hz4, hz5, hz6, hz7⟩ := blk8 BK3.out
    have hs0 : w3.cell? ⟨gt, 0, none⟩ = some (.string s) := by
      have := BT3.out
      simp [World.cell?, this]
    have h16 := hop.out
    have e13 : (t.f0 == 13) = false := beq_eq_false_iff_ne.2 (by omega)
    have e18 : (t.f0 == 18) = false := beq_eq_false_iff_ne.2 (by omega)
    have e19 : (t.f0 == 19) = false := beq_eq_false_iff_ne.2 (by omega)
    have e16 : (t.f0 == 16) = true := beq_iff_eq.2 h16
    have hm : Hid (minL t = 0) := Lib.hid (by rw [minL_eq, if_neg (by omega), if_neg (by omega), if_neg (by omega), if_neg (by omega), if_neg (by omega), if_neg (by omega)])
    have h7 := HNO.out.2.2.2.1 (by omega)
    obtain ⟨ad, A2', c2', A7', c7', e, hx0, hx1, hx2, hx3, hx4, hx5, hx6, hx7, hK'⟩ := sub_at HG7.out (HW.out.trans (HB3.out.mono HW.out.size)) 0 h7
    subst e
    simp only [Nat.zero_mul, Go.Proofs.YtofkpinikkfmeaaDoor.IcFnMtLeast.add_0] at hx0 hx1 hx2 hx3 hx4 hx5 hx6 hx7
    have HEG := Lib.hid (fun w' (hb : Below w3.heap.size w3 w') => HIH.out _ (List.getElem_mem h7) w' _ hK' (HW.out.trans ((below_step HB3.out hb).mono HW.out.size)) (HF.out.below (below_step HB3.out hb)) (Utf8Tabs_below HT.out (below_step HB3.out hb)) A c l (Kd.C_below HC3.out hb) HC.out.2.1 HC.out.2.2)
    have HM0 := Lib.hid (HP.out _ (List.getElem_mem h7))
    have HKP : Hid (∀ w', Below w3.heap.size w3 w' → QS t gb gt s (some ad) c7 ad A2' c2' A7' c7' t.f7[0] w') := Lib.hid fun w' hb => by
      have g : ∀ {p : Addr} {v : Value}, w3.cell? p = some v → w'.cell? p = some v := fun h => (hb.cell (World.block_lt_of_cell? w3 _ h)).trans h
      exact ⟨g hz7, g hx0, g hx1, g hx2, g hx3, g hx4, g hx5, g hx6, g hx7, g hs0⟩
    have p0 : (0 : Int) ≤ 0 := Int.le_refl 0
    have p1 : (0 : Int) < (t.f7.length : Int) := by omega
    clear h16 hK'
    go_upto_region 22 with (fail)
    go_region_held3 (fun w' => w'.cell? ⟨gb, 7, none⟩ = some (.slice (some ad) t.f7.length c7) ∧ w'.cell? ad = some (.int .i64 t.f7[0].f0) ∧ w'.cell? ⟨ad.block, ad.off + 1, none⟩ = some (.int .i64 t.f7[0].f1) ∧ w'.cell? ⟨ad.block, ad.off + 2, none⟩ = some (.slice A2' t.f7[0].f2.length c2') ∧ w'.cell? ⟨ad.block, ad.off + 3, none⟩ = some (.int .i64 t.f7[0].f3) ∧ w'.cell? ⟨ad.block, ad.off + 4, none⟩ = some (.int .i64 t.f7[0].f4) ∧ w'.cell? ⟨ad.block, ad.off + 5, none⟩ = some (.int .i64 t.f7[0].f5) ∧ w'.cell? ⟨ad.block, ad.off + 6, none⟩ = some (.string t.f7[0].f6) ∧ w'.cell? ⟨ad.block, ad.off + 7, none⟩ = some (.slice A7' t.f7[0].f7.length c7') ∧ w'.cell? ⟨gt, 0, none⟩ = some (.string s))
      (first
        | exact HKP.out _ (Below.refl _ w3)
        | exact HKP.out _ (below_drew (Below.refl _ w3))
        | exact HKP.out _ HL1.out.2
        | exact HKP.out _ HL2.out.2)
      (first
        | (go_at_call 23; refine (HEG.out _ (by first | exact Below.refl _ w3 | exact below_drew (Below.refl _ w3))).mono ?_; rintro e w5 ⟨⟨v, r, rfl, ⟨A5, c5, rfl, q1, q2⟩, q3, q4⟩, hd⟩; have HL1 := Lib.hid (And.intro (And.intro q1 (And.intro q2 (And.intro q3 q4))) (below_step (below_drew (Below.refl _ w3)) hd)); clear q1 q2 q3 q4 hd)
        | (go_at_call 32; refine (both_calls w5 (s.size + 1) A c l (Kd.C_below HC3.out HL1.out.2) HC.out.2.1 A5 c5 r HL1.out.1.2.1 HL1.out.1.1 (by omega) HC.out.2.2 HL1.out.1.2.2.1).mono ?_; rintro e w7 ⟨⟨v7, rfl, hr7⟩, hd⟩; have HL2 := Lib.hid (And.intro hr7 (below_step HL1.out.2 hd)); clear hr7 hd))
    all_goals
      go_wp2_with fail
      go_ret
      exact ⟨⟨v7, _, rfl, HL2.out.1, gen_len' _ _, by rw [hm.out]; exact Lo.or (Lo.refl l) (HL1.out.1.2.2.2.mono HM0.out) _⟩, below_step HB3.out HL2.out.2⟩
end Go.Proofs.YtofkpinikkfmeaaDoor.TxFnMtLeast
namespace Go.Proofs.YtofkpinikkfmeaaDoor.TxFnMtLeast
open Go.Proofs.YtofkpinikkfmeaaDoor.Sf hiding T
open Go.RowKit Go.Proofs.YtofkpinikkfmeaaDoor.TrFnMtLeast Go.Proofs.YtofkpinikkfmeaaDoor.PFnMtLeast Go.Proofs.YtofkpinikkfmeaaDoorW.PrintWords Go.Proofs.YtofkpinikkfmeaaDoorW.PrintLast Go.Proofs.YtofkpinikkfmeaaDoorW.PrintMore
set_option linter.unusedSimpArgs false
set_option linter.unusedVariables false

set_option maxRecDepth 100000 in
set_option maxHeartbeats 4000000 in
theorem ends_star (s : ByteArray) (hs : s.size ≤ 100000) (W0 : World) (t : T) (HIH : Hid (∀ x ∈ t.f7, EndsS W0 x s)) (HP : Hid (∀ x ∈ t.f7, 0 ≤ minL x)) (hno : NodeE t) (hop : Hid (t.f0 = 14)) : EndsS W0 t s := by
  intro w cs hK hW hF hT A c l hC hc hl
  have HNO := Lib.hid hno
  have HKT := Lib.hid hK
  obtain ⟨A2, c2, A7, c7, rfl, l2, g2, l7, g7⟩ := k25_open hK
  have hu40 := Tryd.underlying25
  have HG7 := Lib.hid g7
  have HW := Lib.hid hW
  have HF := Lib.hid hF
  have HT := Lib.hid hT
  have HC := Lib.hid (And.intro hC (And.intro hc hl))
  have hf7 : t.f7.length ≤ 9223372036854775807 := g7.2.1
  have HAN := Lib.hid (fun w' (hb : Below w.heap.size w w') => any_calls w' A c l (Kd.C_below hC hb) hc (by omega))
  obtain ⟨x, hx⟩ : ∃ x, x = anyB l l.length 0 := ⟨_, rfl⟩
  rw [← hx] at HAN
  have HX := Lib.hid hx
  clear hx l2 g2 l7 g7 hK hW hF hT hC hc hl hno
  go_enter Tryd.func23, Tryd.ntmps23
  go_wp2_with (first
    | ((with_reducible refine gate_dst (N := 3) rfl ?_); refine box_event ?hg (N := 3) ?hd (cs := #[.int .i64 t.f0, .int .i64 t.f1, .slice A2 t.f2.length c2, .int .i64 t.f3, .int .i64 t.f4, .int .i64 t.f5, .string t.f6, .slice A7 t.f7.length c7]) (t := 25) ?hr ?_; (case hd => rfl); (case hg => rfl); (case hr => first | (go_simp; done) | (go_simp; rfl)); intro gb hg w1 hbox hb; have BK1 := Lib.hid hbox; have HB1 := Lib.hid hb; clear hg hbox hb)
    | ((with_reducible refine gate_dst (N := 4) rfl ?_); refine box_event ?hg (N := 4) ?hd (cs := #[.string s]) (t := 9) ?hr ?_; (case hd => rfl); (case hg => rfl); (case hr => first | (go_simp; done) | (go_simp; rfl)); intro gt hg w2 hbox hb; have BT := Lib.hid hbox; have BK := Lib.hid (blk_below BK1.out hb); have HB2 := Lib.hid (below_step HB1.out hb); clear hg hbox hb))
  refine (HAN.out w2 HB2.out).mono ?_
  rintro e w3 ⟨rfl, hb3⟩
  have HB3 := Lib.hid (below_step HB2.out hb3)
  have BT3 := Lib.hid (blk_below BT.out hb3)
  have BK3 := Lib.hid (blk_below BK.out hb3)
  have HC3 := Lib.hid (Kd.C_below HC.out.1 HB3.out)
  clear hb3 BT BK BK1 HB1 HB2 HAN
  cases x with
  | false =>
    go_wp2_with fail
    go_ret
    exact ⟨⟨_, l, rfl, ⟨A, c, rfl, HC.out.2.1, HC3.out⟩, HC.out.2.2, Lo.none _ _ _ fun k h => by
      have hf := HX.out.symm
      have := (anyB_iff l l.length 0).2 ⟨k, Nat.zero_le _, by obtain ⟨h, _⟩ := List.getElem?_eq_some_iff.1 h; omega, h⟩
      rw [hf] at this
      cases this⟩, HB3.out⟩
  | true =>
    clear HX
    obtain ⟨hz0, hz1, hz2, hz3, hz4, hz5, hz6, hz7⟩ := blk8 BK3.out
    have hs0 : w3.cell? ⟨gt, 0, none⟩ = some (.string s) := by
      have := BT3.out
      simp [World.cell?, this]
    have h14 := hop.out
    have e13 : (t.f0 == 13) = false := beq_eq_false_iff_ne.2 (by omega)
    have e18 : (t.f0 == 18) = false := beq_eq_false_iff_ne.2 (by omega)
    have e19 : (t.f0 == 19) = false := beq_eq_false_iff_ne.2 (by omega)
    have e16 : (t.f0 == 16) = false := beq_eq_false_iff_ne.2 (by omega)
    have e14 : (t.f0 == 14) = true := beq_iff_eq.2 h14
    have hm : Hid (minL t = 0) := Lib.hid (by rw [minL_eq, if_neg (by omega), if_neg (by omega), if_neg (by omega), if_neg (by omega), if_neg (by omega), if_neg (by omega)])
    have h7 := HNO.out.2.2.2.1 (by omega)
    have HS := Lib.hid (once_calls W0 w3 t _ HKT.out (HW.out.trans (HB3.out.mono HW.out.size)) (HF.out.below HB3.out) (Utf8Tabs_below HT.out HB3.out) s h7 (HIH.out _ (List.getElem_mem h7)) gb gt BK3.out BT3.out)
    have HD := Lib.hid (gathered_calls w3 (minL t.f7[0]) (HP.out _ (List.getElem_mem h7)) (s.size + 1) _ _ (by omega) HS.out A c l HC3.out HC.out.2.1 HC.out.2.2)
    clear h14
    go_wp2_with fail
    refine HD.out.mono ?_
    rintro e w5 ⟨⟨v1, v2, a, b, rfl, ha, hb, la, lb, oa, ob⟩, hb5⟩
    have HQ := Lib.hid (And.intro ha (And.intro hb (And.intro la (And.intro lb (And.intro oa ob)))))
    have HB5 := Lib.hid (below_step HB3.out hb5)
    clear ha hb la lb oa ob hb5 HD
    go_wp2_with fail
    go_ret
    exact ⟨⟨v1, a, rfl, HQ.out.1, HQ.out.2.2.1, by rw [hm.out]; exact HQ.out.2.2.2.2.1⟩, HB5.out⟩
end Go.Proofs.YtofkpinikkfmeaaDoor.TxFnMtLeast
namespace Go.Proofs.YtofkpinikkfmeaaDoor.TxFnMtLeast
open Go.Proofs.YtofkpinikkfmeaaDoor.Sf hiding T
open Go.RowKit Go.Proofs.YtofkpinikkfmeaaDoor.TrFnMtLeast Go.Proofs.YtofkpinikkfmeaaDoor.PFnMtLeast Go.Proofs.YtofkpinikkfmeaaDoorW.PrintWords Go.Proofs.YtofkpinikkfmeaaDoorW.PrintLast Go.Proofs.YtofkpinikkfmeaaDoorW.PrintMore
set_option linter.unusedSimpArgs false
set_option linter.unusedVariables false

set_option maxRecDepth 100000 in
set_option maxHeartbeats 4000000 in
theorem ends_plus (s : ByteArray) (hs : s.size ≤ 100000) (W0 : World) (t : T) (HIH : Hid (∀ x ∈ t.f7, EndsS W0 x s)) (HP : Hid (∀ x ∈ t.f7, 0 ≤ minL x)) (hno : NodeE t) (hop : Hid (t.f0 = 15)) : EndsS W0 t s := by
  intro w cs hK hW hF hT A c l hC hc hl
  have HNO := Lib.hid hno
  have HKT := Lib.hid hK
  obtain ⟨A2, c2, A7, c7, rfl, l2, g2, l7, g7⟩ := k25_open hK
  have hu40 := Tryd.underlying25
  have HG7 := Lib.hid g7
  have HW := Lib.hid hW
  have HF := Lib.hid hF
  have HT := Lib.hid hT
  have HC := Lib.hid (And.intro hC (And.intro hc hl))
  have hf7 : t.f7.length ≤ 9223372036854775807 := g7.2.1
  have HAN := Lib.hid (fun w' (hb : Below w.heap.size w w') => any_calls w' A c l (Kd.C_below hC hb) hc (by omega))
  obtain ⟨x, hx⟩ : ∃ x, x = anyB l l.length 0 := ⟨_, rfl⟩
  rw [← hx] at HAN
  have HX := Lib.hid hx
  clear hx l2 g2 l7 g7 hK hW hF hT hC hc hl hno
  go_enter Tryd.func23, Tryd.ntmps23
  go_wp2_with (first
    | ((with_reducible refine gate_dst (N := 3) rfl ?_); refine box_event ?hg (N := 3) ?hd (cs := #[.int .i64 t.f0, .int .i64 t.f1, .slice A2 t.f2.length c2, .int .i64 t.f3, .int .i64 t.f4, .int .i64 t.f5, .string t.f6, .slice A7 t.f7.length c7]) (t := 25) ?hr ?_; (case hd => rfl); (case hg => rfl); (case hr => first | (go_simp; done) | (go_simp; rfl)); intro gb hg w1 hbox hb; have BK1 := Lib.hid hbox; have HB1 := Lib.hid hb; clear hg hbox hb)
    | ((with_reducible refine gate_dst (N := 4) rfl ?_); refine box_event ?hg (N := 4) ?hd (cs := #[.string s]) (t := 9) ?hr ?_; (case hd => rfl); (case hg => rfl); (case hr => first | (go_simp; done) | (go_simp; rfl)); intro gt hg w2 hbox hb; have BT := Lib.hid hbox; have BK := Lib.hid (blk_below BK1.out hb); have HB2 := Lib.hid (below_step HB1.out hb); clear hg hbox hb))
  refine (HAN.out w2 HB2.out).mono ?_
  rintro e w3 ⟨rfl, hb3⟩
  have HB3 := Lib.hid (below_step HB2.out hb3)
  have BT3 := Lib.hid (blk_below BT.out hb3)
  have BK3 := Lib.hid (blk_below BK.out hb3)
  have HC3 := Lib.hid (Kd.C_below HC.out.1 HB3.out)
  clear hb3 BT BK BK1 HB1 HB2 HAN
  cases x with
  | false =>
    go_wp2_with fail
    go_ret
    exact ⟨⟨_, l, rfl, ⟨A, c, rfl, HC.out.2.1, HC3.out⟩, HC.out.2.2, Lo.none _ _ _ fun k h => by
      have hf := HX.out.symm
      have := (anyB_iff l l.length 0).2 ⟨k, Nat.zero_le _, by obtain ⟨h, _⟩ := List.getElem?_eq_some_iff.1 h; omega, h⟩
      rw [hf] at this
      cases this⟩, HB3.out⟩
  | true =>
    clear HX
    obtain ⟨hz0, hz1, hz2, hz3, hz4, hz5, hz6, hz7⟩ := blk8 BK3.out
    have hs0 : w3.cell? ⟨gt, 0, none⟩ = some (.string s) := by
      have := BT3.out
      simp [World.cell?, this]
    have h15 := hop.out
    have e13 : (t.f0 == 13) = false := beq_eq_false_iff_ne.2 (by omega)
    have e18 : (t.f0 == 18) = false := beq_eq_false_iff_ne.2 (by omega)
    have e19 : (t.f0 == 19) = false := beq_eq_false_iff_ne.2 (by omega)
    have e16 : (t.f0 == 16) = false := beq_eq_false_iff_ne.2 (by omega)
    have e14 : (t.f0 == 14) = false := beq_eq_false_iff_ne.2 (by omega)
    have e15 : (t.f0 == 15) = true := beq_iff_eq.2 h15
    have h7 := HNO.out.2.2.2.1 (by omega)
    have hm : Hid (minL t = minL t.f7[0]) := Lib.hid (by rw [minL_eq, if_neg (by omega), if_neg (by omega), if_pos (by omega), minH_eq _ h7])
    have HS := Lib.hid (once_calls W0 w3 t _ HKT.out (HW.out.trans (HB3.out.mono HW.out.size)) (HF.out.below HB3.out) (Utf8Tabs_below HT.out HB3.out) s h7 (HIH.out _ (List.getElem_mem h7)) gb gt BK3.out BT3.out)
    have HD := Lib.hid (gathered_calls w3 (minL t.f7[0]) (HP.out _ (List.getElem_mem h7)) (s.size + 1) _ _ (by omega) HS.out A c l HC3.out HC.out.2.1 HC.out.2.2)
    clear h15
    go_wp2_with fail
    refine HD.out.mono ?_
    rintro e w5 ⟨⟨v1, v2, a, b, rfl, ha, hb, la, lb, oa, ob⟩, hb5⟩
    have HQ := Lib.hid (And.intro ha (And.intro hb (And.intro la (And.intro lb (And.intro oa ob)))))
    have HB5 := Lib.hid (below_step HB3.out hb5)
    clear ha hb la lb oa ob hb5 HD
    go_wp2_with fail
    go_ret
    exact ⟨⟨v2, b, rfl, HQ.out.2.1, HQ.out.2.2.2.1, by rw [hm.out]; exact HQ.out.2.2.2.2.2⟩, HB5.out⟩
end Go.Proofs.YtofkpinikkfmeaaDoor.TxFnMtLeast
namespace Go.Proofs.YtofkpinikkfmeaaDoor.TxFnMtLeast
open Go.Proofs.YtofkpinikkfmeaaDoor.Sf hiding T
open Go.RowKit Go.Proofs.YtofkpinikkfmeaaDoor.TrFnMtLeast Go.Proofs.YtofkpinikkfmeaaDoor.PFnMtLeast Go.Proofs.YtofkpinikkfmeaaDoorW.PrintWords Go.Proofs.YtofkpinikkfmeaaDoorW.PrintLast Go.Proofs.YtofkpinikkfmeaaDoorW.PrintMore
set_option linter.unusedSimpArgs false
set_option linter.unusedVariables false

set_option maxRecDepth 100000 in
set_option maxHeartbeats 4000000 in
theorem ends_each (s : ByteArray) (hs : s.size ≤ 100000) (W0 : World) (t : T) (HIH : Hid (∀ x ∈ t.f7, EndsS W0 x s)) (hno : NodeE t) (hop : Hid (t.f0 < 13 ∨ 19 < t.f0)) : EndsS W0 t s := by
  intro w cs hK hW hF hT A c l hC hc hl
  have HNO := Lib.hid hno
  have HKT := Lib.hid hK
  obtain ⟨A2, c2, A7, c7, rfl, l2, g2, l7, g7⟩ := k25_open hK
  have hu40 := Tryd.underlying25
  have HG7 := Lib.hid g7
  have HW := Lib.hid hW
  have HF := Lib.hid hF
  have HT := Lib.hid hT
  have HC := Lib.hid (And.intro hC (And.intro hc hl))
  have hf7 : t.f7.length ≤ 9223372036854775807 := g7.2.1
  have HAN := Lib.hid (fun w' (hb : Below w.heap.size w w') => any_calls w' A c l (Kd.C_below hC hb) hc (by omega))
  obtain ⟨x, hx⟩ : ∃ x, x = anyB l l.length 0 := ⟨_, rfl⟩
  rw [← hx] at HAN
  have HX := Lib.hid hx
  clear hx l2 g2 l7 g7 hK hW hF hT hC hc hl hno
  go_enter Tryd.func23, Tryd.ntmps23
  go_wp2_with (first
    | ((with_reducible refine gate_dst (N := 3) rfl ?_); refine box_event ?hg (N := 3) ?hd (cs := #[.int .i64 t.f0, .int .i64 t.f1, .slice A2 t.f2.length c2, .int .i64 t.f3, .int .i64 t.f4, .int .i64 t.f5, .string t.f6, .slice A7 t.f7.length c7]) (t := 25) ?hr ?_; (case hd => rfl); (case hg => rfl); (case hr => first | (go_simp; done) | (go_simp; rfl)); intro gb hg w1 hbox hb; have BK1 := Lib.hid hbox; have HB1 := Lib.hid hb; clear hg hbox hb)
    | ((with_reducible refine gate_dst (N := 4) rfl ?_); refine box_event ?hg (N := 4) ?hd (cs := #[.string s]) (t := 9) ?hr ?_; (case hd => rfl); (case hg => rfl); (case hr => first | (go_simp; done) | (go_simp; rfl)); intro gt hg w2 hbox hb; have BT := Lib.hid hbox; have BK := Lib.hid (blk_below BK1.out hb); have HB2 := Lib.hid (below_step HB1.out hb); clear hg hbox hb))
  refine (HAN.out w2 HB2.out).mono ?_
  rintro e w3 ⟨rfl, hb3⟩
  have HB3 := Lib.hid (below_step HB2.out hb3)
  have BT3 := Lib.hid (blk_below BT.out hb3)
  have BK3 := Lib.hid (blk_below BK.out hb3)
  have HC3 := Lib.hid (Kd.C_below HC.out.1 HB3.out)
  clear hb3 BT BK BK1 HB1 HB2 HAN
  cases x with
  | false =>
    go_wp2_with fail
    go_ret
    exact ⟨⟨_, l, rfl, ⟨A, c, rfl, HC.out.2.1, HC3.out⟩, HC.out.2.2, Lo.none _ _ _ fun k h => by
      have hf := HX.out.symm
      have := (anyB_iff l l.length 0).2 ⟨k, Nat.zero_le _, by obtain ⟨h, _⟩ := List.getElem?_eq_some_iff.1 h; omega, h⟩
      rw [hf] at this
      cases this⟩, HB3.out⟩
  | true =>
    clear HX
    obtain ⟨hz0, hz1, hz2, hz3, hz4, hz5, hz6, hz7⟩ := blk8 BK3.out
    have hs0 : w3.cell? ⟨gt, 0, none⟩ = some (.string s) := by
      have := BT3.out
      simp [World.cell?, this]
    have hop' := hop.out
    have e13 : (t.f0 == 13) = false := beq_eq_false_iff_ne.2 (by omega)
    have e18 : (t.f0 == 18) = false := beq_eq_false_iff_ne.2 (by omega)
    have e19 : (t.f0 == 19) = false := beq_eq_false_iff_ne.2 (by omega)
    have e16 : (t.f0 == 16) = false := beq_eq_false_iff_ne.2 (by omega)
    have e14 : (t.f0 == 14) = false := beq_eq_false_iff_ne.2 (by omega)
    have e15 : (t.f0 == 15) = false := beq_eq_false_iff_ne.2 (by omega)
    have e17 : (t.f0 == 17) = false := beq_eq_false_iff_ne.2 (by omega)
    have HE := Lib.hid (each_calls t W0 w3 _ HKT.out (HW.out.trans (HB3.out.mono HW.out.size)) (HF.out.below HB3.out) (Utf8Tabs_below HT.out HB3.out) s hs HNO.out.1 HNO.out.2.1 (by omega) A c l HC3.out HC.out.2.1 HC.out.2.2)
    clear hop'
    go_wp2_with fail
    refine HE.out.mono ?_
    rintro e w5 ⟨⟨v, r, rfl, h1, h2, h3⟩, hb5⟩
    have HQ := Lib.hid (And.intro (Rw.of_R h1) (And.intro (h2.trans HC.out.2.2) h3))
    have HB5 := Lib.hid (below_step HB3.out hb5)
    clear h1 h2 h3 hb5 HE
    go_wp2_with fail
    go_ret
    exact ⟨⟨v, r, rfl, HQ.out.1, HQ.out.2.1, HQ.out.2.2⟩, HB5.out⟩
end Go.Proofs.YtofkpinikkfmeaaDoor.TxFnMtLeast
namespace Go.Proofs.YtofkpinikkfmeaaDoor.TxFnMtLeast
open Go.Proofs.YtofkpinikkfmeaaDoor.Sf hiding T
open Go.RowKit Go.Proofs.YtofkpinikkfmeaaDoor.TrFnMtLeast Go.Proofs.YtofkpinikkfmeaaDoor.PFnMtLeast Go.Proofs.YtofkpinikkfmeaaDoorW.PrintWords Go.Proofs.YtofkpinikkfmeaaDoorW.PrintLast Go.Proofs.YtofkpinikkfmeaaDoorW.PrintMore
set_option linter.unusedSimpArgs false
set_option linter.unusedVariables false

theorem grows_calls (w : World) (N : Nat) (A : Option Addr) (c : Nat) (l : List Bool) (hC : Kd.C Kd.bool w A l.length l) (hc : l.length ≤ c) (A' : Option Addr) (c' : Nat) (l' : List Bool) (hC' : Kd.C Kd.bool w A' l'.length l') (hc' : l'.length ≤ c') (hN : N ≤ 100001) (h1 : l.length = N) (h2 : l'.length = N) :
    ∃ b, Calls Tryd.prog 35 #[.slice A l.length c, .slice A' l'.length c'] w fun e w' => e = .returned (.bool b) ∧ Below w.heap.size w w' := by
  obtain ⟨b, hb⟩ := ev_grows l l' (by omega) (by omega)
  obtain ⟨k, hk⟩ := hb.get
  refine ⟨b, (spec_reGrows.calls k A c l A' c' l' _ w hC hc hC' hc' hk).mono ?_⟩
  rintro e w' ⟨rfl, hd⟩
  exact ⟨rfl, hd.below⟩

set_option maxRecDepth 100000 in
set_option maxHeartbeats 4000000 in
theorem ends_repeat (s : ByteArray) (hs : s.size ≤ 100000) (W0 : World) (t : T) (HIH : Hid (∀ x ∈ t.f7, EndsS W0 x s)) (HP : Hid (∀ x ∈ t.f7, 0 ≤ minL x)) (hno : NodeE t) (hop : Hid (t.f0 = 17)) : EndsS W0 t s := by
  intro w cs hK hW hF hT A c l hC hc hl
  have HNO := Lib.hid hno
  have HKT := Lib.hid hK
  obtain ⟨A2, c2, A7, c7, rfl, l2, g2, l7, g7⟩ := k25_open hK
  have hu40 := Tryd.underlying25
  have HG7 := Lib.hid g7
  have HW := Lib.hid hW
  have HF := Lib.hid hF
  have HT := Lib.hid hT
  have HC := Lib.hid (And.intro hC (And.intro hc hl))
  have hf7 : t.f7.length ≤ 9223372036854775807 := g7.2.1
  have HAN := Lib.hid (fun w' (hb : Below w.heap.size w w') => any_calls w' A c l (Kd.C_below hC hb) hc (by omega))
  obtain ⟨x, hx⟩ : ∃ x, x = anyB l l.length 0 := ⟨_, rfl⟩
  rw [← hx] at HAN
  have HX := Lib.hid hx
  clear hx l2 g2 l7 g7 hK hW hF hT hC hc hl hno
  go_enter Tryd.func23, Tryd.ntmps23
  go_wp2_with (first
    | ((with_reducible refine gate_dst (N := 3) rfl ?_); refine box_event ?hg (N := 3) ?hd (cs := #[.int .i64 t.f0, .int .i64 t.f1, .slice A2 t.f2.length c2, .int .i64 t.f3, .int .i64 t.f4, .int .i64 t.f5, .string t.f6, .slice A7 t.f7.length c7]) (t := 25) ?hr ?_; (case hd => rfl); (case hg => rfl); (case hr => first | (go_simp; done) | (go_simp; rfl)); intro gb hg w1 hbox hb; have BK1 := Lib.hid hbox; have HB1 := Lib.hid hb; clear hg hbox hb)
    | ((with_reducible refine gate_dst (N := 4) rfl ?_); refine box_event ?hg (N := 4) ?hd (cs := #[.string s]) (t := 9) ?hr ?_; (case hd => rfl); (case hg => rfl); (case hr => first | (go_simp; done) | (go_simp; rfl)); intro gt hg w2 hbox hb; have BT := Lib.hid hbox; have BK := Lib.hid (blk_below BK1.out hb); have HB2 := Lib.hid (below_step HB1.out hb); clear hg hbox hb))
  refine (HAN.out w2 HB2.out).mono ?_
  rintro e w3 ⟨rfl, hb3⟩
  have HB3 := Lib.hid (below_step HB2.out hb3)
  have BT3 := Lib.hid (blk_below BT.out hb3)
  have BK3 := Lib.hid (blk_below BK.out hb3)
  have HC3 := Lib.hid (Kd.C_below HC.out.1 HB3.out)
  clear hb3 BT BK BK1 HB1 HB2 HAN
  cases x with
  | false =>
    go_wp2_with fail
    go_ret
    exact ⟨⟨_, l, rfl, ⟨A, c, rfl, HC.out.2.1, HC3.out⟩, HC.out.2.2, Lo.none _ _ _ fun k h => by
      have hf := HX.out.symm
      have := (anyB_iff l l.length 0).2 ⟨k, Nat.zero_le _, by obtain ⟨h, _⟩ := List.getElem?_eq_some_iff.1 h; omega, h⟩
      rw [hf] at this
      cases this⟩, HB3.out⟩
  | true =>
    clear HX
    obtain ⟨hz0, hz1, hz2, hz3, hz4, hz5, hz6, hz7⟩ := blk8 BK3.out
    have hs0 : w3.cell? ⟨gt, 0, none⟩ = some (.string s) := by
      have := BT3.out
      simp [World.cell?, this]
    have h17 := hop.out
    have e13 : (t.f0 == 13) = false := beq_eq_false_iff_ne.2 (by omega)
    have e18 : (t.f0 == 18) = false := beq_eq_false_iff_ne.2 (by omega)
    have e19 : (t.f0 == 19) = false := beq_eq_false_iff_ne.2 (by omega)
    have e16 : (t.f0 == 16) = false := beq_eq_false_iff_ne.2 (by omega)
    have e14 : (t.f0 == 14) = false := beq_eq_false_iff_ne.2 (by omega)
    have e15 : (t.f0 == 15) = false := beq_eq_false_iff_ne.2 (by omega)
    have e17 : (t.f0 == 17) = true := beq_iff_eq.2 h17
    have h7 := HNO.out.2.2.2.1 (by omega)
    have hm : Hid (minL t = t.f3 * minL t.f7[0]) := Lib.hid (by rw [minL_eq, if_neg (by omega), if_neg (by omega), if_neg (by omega), if_pos (by omega), minH_eq _ h7])
    obtain ⟨hmn, hmx, hmy⟩ := HNO.out.2.2.2.2 h17
    have HS := Lib.hid (once_calls W0 w3 t _ HKT.out (HW.out.trans (HB3.out.mono HW.out.size)) (HF.out.below HB3.out) (Utf8Tabs_below HT.out HB3.out) s h7 (HIH.out _ (List.getElem_mem h7)) gb gt BK3.out BT3.out)
    have HM0 := Lib.hid (HP.out _ (List.getElem_mem h7))
    generalize hM : minL t.f7[0] = M at *
    clear h17 h7 hM
    go_wp2_with fail
    clear hz0 hz1 hz2 hz3 hz4 hz5 hz6 hz7 hs0
    go_loopg [2, 17] t.f3.toNat (fun gk s2 s17 wr => ∃ (k : Nat) (Ar : Option Addr) (cr : Nat) (r : List Bool), Hid (gk + k = t.f3.toNat ∧ Below w3.heap.size w3 wr ∧ Kd.C Kd.bool wr Ar r.length r ∧ r.length ≤ cr ∧ r.length = s.size + 1 ∧ Lo (k * M) l r) ∧ (k : Int) ≤ t.f3 ∧ s2 = .slice Ar r.length cr ∧ s17 = .int .i64 k)
    case atStart => exact ⟨0, A, c, l, Lib.hid ⟨by omega, Below.refl _ _, HC3.out, HC.out.2.1, HC.out.2.2, by rw [show ((0 : Nat) : Int) * M = 0 by simp]; exact Lo.refl l⟩, hmn, rfl, rfl⟩
    case round =>
      obtain ⟨k, Ar, cr, r, HI, hk, rfl, rfl⟩ := hrel
      have HBW := Lib.hid (below_step HB3.out HI.out.2.1)
      obtain ⟨hz0, hz1, hz2, hz3, hz4, hz5, hz6, hz7⟩ := blk8 (blk_below BK3.out HI.out.2.1)
      by_cases hlt : (k : Int) < t.f3
      · have HC1 := Lib.hid (HS.out wr HI.out.2.1 Ar cr r HI.out.2.2.1 HI.out.2.2.2.1 HI.out.2.2.2.2.1)
        go_wp2_with fail
        refine HC1.out.mono ?_
        rintro e w6 ⟨⟨v, r', rfl, ⟨Ar', cr', rfl, q1, q2⟩, q3, q4⟩, hb6⟩
        have HQ := Lib.hid (And.intro q1 (And.intro q2 (And.intro q3 (And.intro q4 (below_step HI.out.2.1 hb6)))))
        clear q1 q2 q3 q4 hb6 HC1
        go_wp2_with fail
        go_roundg (gk - 1)
        case measure => have := HI.out.1; omega
        case rel => exact ⟨k + 1, Ar', cr', r', Lib.hid ⟨by have := HI.out.1; omega, HQ.out.2.2.2.2, HQ.out.2.1, HQ.out.1, HQ.out.2.2.1, by rw [show ((k + 1 : Nat) : Int) * M = k * M + M by rw [show ((k + 1 : Nat) : Int) = (k : Int) + 1 by omega, Int.add_mul, Int.one_mul]]; exact HI.out.2.2.2.2.2.trans HQ.out.2.2.2.1⟩, by omega, rfl, by go_num⟩
      · have hke : (k : Int) = t.f3 := by omega
        have HLO := Lib.hid (show Lo (minL t) l r from by rw [hm.out, ← hke]; exact HI.out.2.2.2.2.2)
        have HKE := Lib.hid hke
        have hkg : (k : Int) ≥ t.f3 := by omega
        clear hke
        by_cases hx : t.f4 < 0
        · have HD := Lib.hid (gathered_calls wr M HM0.out (s.size + 1) _ _ (by omega) (fun w' hb => HS.out w' (below_step HI.out.2.1 hb)) Ar cr r HI.out.2.2.1 HI.out.2.2.2.1 HI.out.2.2.2.2.1)
          go_wp2_with fail
          refine HD.out.mono ?_
          rintro e w5 ⟨⟨v1, v2, a, b, rfl, ha, hb, la, lb, oa, ob⟩, hb5⟩
          have HQ := Lib.hid (And.intro ha (And.intro la oa))
          have HB5 := Lib.hid (below_step HBW.out hb5)
          clear ha hb la lb oa ob hb5 HD
          go_wp2_with fail
          go_ret
          exact ⟨⟨v1, a, rfl, HQ.out.1, HQ.out.2.1, by have := HLO.out.trans HQ.out.2.2; rw [Int.add_zero] at this; exact this⟩, HB5.out⟩
        · go_wp2_with fail
          clear hz0 hz1 hz2 hz3 hz4 hz5 hz6 hz7 HKE hkg hk
          have HLI := Lib.hid (And.intro HI.out.2.1 (And.intro HI.out.2.2.1 (And.intro HI.out.2.2.2.1 HI.out.2.2.2.2.1)))
          clear HI HBW
          go_loopg [2, 20, 21] (t.f4 - t.f3).toNat (fun gk s2 s20 s21 wq => ∃ (j : Int) (Ar : Option Addr) (cr : Nat) (r : List Bool) (v21 : Value), Hid (gk = (t.f4 - j).toNat ∧ Below w3.heap.size w3 wq ∧ Kd.C Kd.bool wq Ar r.length r ∧ r.length ≤ cr ∧ r.length = s.size + 1 ∧ Lo (minL t) l r) ∧ 0 ≤ j ∧ j ≤ 100000 ∧ s2 = .slice Ar r.length cr ∧ s20 = .int .i64 j ∧ s21 = v21)
          case atStart => exact ⟨t.f3, Ar, cr, r, _, Lib.hid ⟨rfl, HLI.out.1, HLI.out.2.1, HLI.out.2.2.1, HLI.out.2.2.2, HLO.out⟩, hmn, hmx, rfl, rfl, rfl⟩
          case round =>
            clear HLI HLO
            obtain ⟨j, Ar, cr, r, v21, HI, hj0, hj1, rfl, rfl, rfl⟩ := hrel
            have HBW := Lib.hid (below_step HB3.out HI.out.2.1)
            obtain ⟨hz0, hz1, hz2, hz3, hz4, hz5, hz6, hz7⟩ := blk8 (blk_below BK3.out HI.out.2.1)
            by_cases hlt : j < t.f4
            · have HC1 := Lib.hid (HS.out _ HI.out.2.1 Ar cr r HI.out.2.2.1 HI.out.2.2.2.1 HI.out.2.2.2.2.1)
              go_wp2_with fail
              refine HC1.out.mono ?_
              rintro e w6 ⟨⟨v, r', rfl, ⟨Ar', cr', rfl, q1, q2⟩, q3, q4⟩, hb6⟩
              have HQ := Lib.hid (And.intro q1 (And.intro q2 (And.intro q3 (And.intro (show Lo (minL t) l r' from (HI.out.2.2.2.2.2.trans q4).mono (by have := HM0.out; omega)) (And.intro (below_step HI.out.2.1 hb6) (Kd.C_below HI.out.2.2.1 hb6))))))
              clear q1 q2 q3 q4 hb6 HC1
              obtain ⟨g, hg⟩ := grows_calls w6 (s.size + 1) Ar cr r HQ.out.2.2.2.2.2 HI.out.2.2.2.1 Ar' cr' r' HQ.out.2.1 HQ.out.1 (by omega) HI.out.2.2.2.2.1 HQ.out.2.2.1
              have HGR := Lib.hid hg
              clear hg
              go_wp2_with fail
              refine HGR.out.mono ?_
              rintro e w7 ⟨rfl, hb7⟩
              have HB7 := Lib.hid (below_step HQ.out.2.2.2.2.1 hb7)
              have HCC := Lib.hid (And.intro (Kd.C_below HQ.out.2.2.2.2.2 hb7) (Kd.C_below HQ.out.2.1 hb7))
              clear hb7 HGR
              cases g with
              | false =>
                go_wp2_with fail
                go_ret
                exact ⟨⟨_, r, rfl, ⟨Ar, cr, rfl, HI.out.2.2.2.1, HCC.out.1⟩, HI.out.2.2.2.2.1, HI.out.2.2.2.2.2⟩, below_step HB3.out HB7.out⟩
              | true =>
                have HD := Lib.hid (both_calls w7 (s.size + 1) Ar cr r HCC.out.1 HI.out.2.2.2.1 Ar' cr' r' HCC.out.2 HQ.out.1 (by omega) HI.out.2.2.2.2.1 HQ.out.2.2.1)
                go_wp2_with fail
                refine HD.out.mono ?_
                rintro e w8 ⟨⟨v8, rfl, A8, c8, rfl, q1, q2⟩, hb8⟩
                have HB8 := Lib.hid (And.intro (below_step HB7.out hb8) (And.intro q1 q2))
                clear hb8 q1 q2 HD
                go_wp2_with fail
                go_roundg (gk - 1)
                case measure => have := HI.out.1; omega
                case rel => exact ⟨j + 1, A8, c8, _, _, Lib.hid ⟨by have := HI.out.1; omega, HB8.out.1, HB8.out.2.2, HB8.out.2.1, gen_len' _ _, Lo.or HI.out.2.2.2.2.2 HQ.out.2.2.2.1 _⟩, by omega, by omega, rfl, rfl, rfl⟩
            · go_wp2_with fail
              go_ret
              exact ⟨⟨_, r, rfl, ⟨Ar, cr, rfl, HI.out.2.2.2.1, HI.out.2.2.1⟩, HI.out.2.2.2.2.1, HI.out.2.2.2.2.2⟩, HBW.out⟩
end Go.Proofs.YtofkpinikkfmeaaDoor.TxFnMtLeast
namespace Go.Proofs.YtofkpinikkfmeaaDoor.TxFnMtLeast
open Go.Proofs.YtofkpinikkfmeaaDoor.Sf hiding T
open Go.RowKit Go.Proofs.YtofkpinikkfmeaaDoor.TrFnMtLeast Go.Proofs.YtofkpinikkfmeaaDoor.PFnMtLeast Go.Proofs.YtofkpinikkfmeaaDoorW.PrintWords Go.Proofs.YtofkpinikkfmeaaDoorW.PrintLast Go.Proofs.YtofkpinikkfmeaaDoorW.PrintMore
set_option linter.unusedSimpArgs false
set_option linter.unusedVariables false

theorem ends_calls (s : ByteArray) (hs : s.size ≤ 100000) (W0 : World) (t : T) : AllN NodeE t → EndsS W0 t s := by
  refine tree_ind (p := fun t => AllN NodeE t → EndsS W0 t s) ?_ t
  intro t ih hA
  have hno := hA.self
  have HIH := Lib.hid (show ∀ x ∈ t.f7, EndsS W0 x s from fun x hx => ih x hx (hA.sub x hx))
  have HP := Lib.hid (show ∀ x ∈ t.f7, 0 ≤ minL x from fun x hx => (hA.sub x hx).self.2.2.1)
  by_cases h13 : t.f0 = 13
  · exact ends_capture s hs W0 t HIH hno (Lib.hid h13)
  by_cases h18 : t.f0 = 18
  · exact ends_concat s hs W0 t HIH hno (Lib.hid h18)
  by_cases h19 : t.f0 = 19
  · exact ends_alternate s hs W0 t HIH hno (Lib.hid h19)
  by_cases h16 : t.f0 = 16
  · exact ends_quest s hs W0 t HIH HP hno (Lib.hid h16)
  by_cases h14 : t.f0 = 14
  · exact ends_star s hs W0 t HIH HP hno (Lib.hid h14)
  by_cases h15 : t.f0 = 15
  · exact ends_plus s hs W0 t HIH HP hno (Lib.hid h15)
  by_cases h17 : t.f0 = 17
  · exact ends_repeat s hs W0 t HIH HP hno (Lib.hid h17)
  exact ends_each s hs W0 t HIH hno (Lib.hid (by omega))

/-- The sizes of some trees together. -/
def sumZ (x : Int) : List T → Int
  | [] => 0
  | t :: r => siz t x + sumZ x r
theorem sizL_sum (x : Int) (hx : 0 ≤ x ∧ x ≤ 100000) (l : List T) (hr : ∀ s ∈ l, 0 ≤ siz s x ∧ siz s x ≤ x + 1) : ∀ s : Int, 0 ≤ s → s ≤ x + 1 → s ≤ sizL x s l ∧ sizL x s l ≤ x + 1 ∧ (sizL x s l ≤ x → s + sumZ x l = sizL x s l) := by
  induction l with
  | nil => intro s h0 h1; simp only [sizL, sumZ]; omega
  | cons a l ih =>
    intro s h0 h1
    have ha := hr a (by simp)
    have e : mn (wrap64 (s + siz a x)) (wrap64 (x + 1)) = if x + 1 < s + siz a x then x + 1 else s + siz a x := by
      rw [w64 _ (by omega), w64 _ (by omega), mn_eq]
    simp only [sizL, sumZ, e]
    obtain ⟨g1, g2, g3⟩ := ih (fun s hs => hr s (by simp [hs])) (if x + 1 < s + siz a x then x + 1 else s + siz a x) (by split <;> omega) (by split <;> omega)
    refine ⟨by split at g1 <;> split <;> omega, g2, fun hle => ?_⟩
    have hs : ¬ x + 1 < s + siz a x := by
      intro hc
      rw [if_pos hc] at g1 hle
      omega
    rw [if_neg hs] at g3 hle ⊢
    have := g3 hle
    omega
theorem sumZ_mem (x : Int) (l : List T) (hr : ∀ s ∈ l, 0 ≤ siz s x) : 0 ≤ sumZ x l ∧ ∀ s ∈ l, siz s x ≤ sumZ x l := by
  induction l with
  | nil => simp [sumZ]
  | cons a l ih =>
    obtain ⟨h1, h2⟩ := ih fun s hs => hr s (by simp [hs])
    have ha := hr a (by simp)
    rw [sumZ]
    refine ⟨by omega, fun s hs => ?_⟩
    rcases List.mem_cons.1 hs with rfl | hs
    · omega
    · have := h2 s hs; omega
theorem minS_sum (x : Int) (l : List T) (h : ∀ s ∈ l, 0 ≤ minL s ∧ minL s ≤ 4 * siz s x) : 0 ≤ minS l ∧ minS l ≤ 4 * sumZ x l := by
  induction l with
  | nil => simp [minS, sumZ]
  | cons a l ih =>
    have h1 := ih fun s hs => h s (by simp [hs])
    have h2 := h a (by simp)
    rw [minS, sumZ]
    omega

/-- What a node says of itself. -/
theorem node_says {t : T} (hn : nodeB t = true) : (1 ≤ t.f0 ∧ t.f0 ≤ 19) ∧ (13 ≤ t.f0 ∧ t.f0 ≤ 17 → t.f7.length = 1) ∧ (t.f0 = 19 → 0 < t.f7.length) ∧ (1 ≤ t.f0 ∧ t.f0 ≤ 12 → t.f7 = []) ∧ (t.f0 = 17 → 0 ≤ t.f3 ∧ t.f3 ≤ 1000 ∧ t.f4 ≤ 1000) := by
  unfold nodeB at hn
  by_cases c1 : (t.f7.length : Int) < (ar t.f0).1
  · rw [if_pos c1] at hn; cases hn
  rw [if_neg c1] at hn
  by_cases c2 : (ar t.f0).2 ≥ 0 ∧ (t.f7.length : Int) > (ar t.f0).2
  · rw [if_pos c2] at hn; cases hn
  rw [if_neg c2] at hn
  have hz : t.f7.length = 0 → t.f7 = [] := List.eq_nil_of_length_eq_zero
  unfold ar at c1 c2
  have h17 : t.f0 = 17 → 0 ≤ t.f3 ∧ t.f3 ≤ 1000 ∧ t.f4 ≤ 1000 := fun e => by
    rw [if_neg (by omega), if_neg (by omega), if_pos e] at hn
    simp only [Bool.and_eq_true, Bool.or_eq_true, decide_eq_true_eq] at hn
    omega
  by_cases d1 : 13 ≤ t.f0 ∧ t.f0 ≤ 17
  · rw [if_pos d1] at c1 c2
    exact ⟨by omega, fun _ => by simp only at c1 c2; omega, fun _ => by omega, fun _ => by omega, h17⟩
  rw [if_neg d1] at c1 c2
  by_cases d2 : t.f0 = 18
  · exact ⟨by omega, fun _ => by omega, fun _ => by omega, fun _ => by omega, h17⟩
  rw [if_neg d2] at c1 c2
  by_cases d3 : t.f0 = 19
  · rw [if_pos d3] at c1
    exact ⟨by omega, fun _ => by omega, fun _ => by simp only at c1; omega, fun _ => by omega, h17⟩
  rw [if_neg d3] at c1 c2
  by_cases d4 : 1 ≤ t.f0 ∧ t.f0 ≤ 12
  · rw [if_pos d4] at c2
    exact ⟨by omega, fun _ => by omega, fun _ => by omega, fun _ => hz (by simp only at c2; omega), h17⟩
  rw [if_neg d4] at c1 c2
  exfalso
  simp only at c1 c2
  omega

/-- A node's size, where it is not cut. -/
theorem siz_node (x : Int) (hx : 0 ≤ x ∧ x ≤ 100000) (t : T) (hT : TW t) (hn : nodeB t = true) (h0 : 0 ≤ sizL x 0 t.f7) (h1 : sizL x 0 t.f7 ≤ x + 1) (h : siz t x ≤ x) :
    (t.f0 = 3 → (t.f2.length : Int) + 2 ≤ siz t x) ∧ (t.f0 ≠ 3 → sizL x 0 t.f7 + 2 ≤ siz t x) ∧ (t.f0 = 17 → (sizL x 0 t.f7 + 1) * t.f3 + 2 ≤ siz t x) := by
  have l2 : t.f2.length * 4 ≤ 140737488351232 := by cases hT; assumption
  have l7 : t.f7.length * 104 ≤ 140737488351232 := by cases hT; assumption
  rw [siz_eq] at h ⊢
  generalize sizL x 0 t.f7 = S at *
  unfold sizF at h ⊢
  by_cases h17 : t.f0 = 17
  · obtain ⟨b1, b2, b3⟩ := (node_says hn).2.2.2.2 h17
    rw [if_pos h17] at h ⊢
    have hM : t.f3 + 1 ≤ mx (mx (wrap64 (t.f3 + 1)) t.f4) 1 ∧ mx (mx (wrap64 (t.f3 + 1)) t.f4) 1 ≤ 1001 := by
      rw [w64 _ (by omega), mx_eq, mx_eq]
      repeat' split
      all_goals omega
    generalize mx (mx (wrap64 (t.f3 + 1)) t.f4) 1 = M at *
    obtain ⟨m1, m2⟩ := hM
    rw [w64 (S + 1) (by omega), w64 (x + 1) (by omega)] at h ⊢
    have p1 : (S + 1) * M ≤ (x + 2) * 1001 := Int.mul_le_mul (by omega) m2 (by omega) (by omega)
    have p2 : (S + 1) * (t.f3 + 1) ≤ (S + 1) * M := Int.mul_le_mul_of_nonneg_left m1 (by omega)
    have p3 : (S + 1) * (t.f3 + 1) = (S + 1) * t.f3 + (S + 1) := by rw [Int.mul_add, Int.mul_one]
    have p4 : 0 ≤ (S + 1) * t.f3 := Int.mul_nonneg (by omega) b1
    rw [p3] at p2
    generalize (S + 1) * M = Q at *
    generalize (S + 1) * t.f3 = R at *
    rw [w64 Q (by omega), mn_eq, mn_eq] at h ⊢
    have hq : (if x + 1 < Q then x + 1 else Q) ≤ x + 1 ∧ 0 ≤ (if x + 1 < Q then x + 1 else Q) := by split <;> omega
    rw [w64 ((if x + 1 < Q then x + 1 else Q) + 2) (by omega)] at h ⊢
    refine ⟨fun e => by omega, fun _ => ?_, fun _ => ?_⟩
    all_goals
      by_cases c : x + 1 < Q
      · rw [if_pos c, if_pos (by omega)] at h; omega
      · rw [if_neg c] at h ⊢
        split at h <;> split <;> omega
  · rw [if_neg h17] at h ⊢
    by_cases h3 : t.f0 = 3
    · rw [if_pos h3] at h ⊢
      rw [w64 _ (by omega), w64 _ (by omega), mn_eq] at h ⊢
      refine ⟨fun _ => ?_, fun e => absurd h3 e, fun e => absurd e h17⟩
      split at h <;> split <;> omega
    · rw [if_neg h3] at h ⊢
      refine ⟨fun e => absurd e h3, fun _ => ?_, fun e => absurd e h17⟩
      by_cases h19 : t.f0 = 19
      · rw [if_pos h19] at h ⊢
        rw [w64 (S + _) (by omega), w64 _ (by omega), w64 _ (by omega), mn_eq] at h ⊢
        split at h <;> split <;> omega
      · rw [if_neg h19] at h ⊢
        rw [w64 _ (by omega), w64 _ (by omega), mn_eq] at h ⊢
        split at h <;> split <;> omega

theorem fine_says (t : T) : TW t → AllN (fun t => nodeB t = true) t → AllN UsN t → siz t 2000 ≤ 2000 → AllN MinOk t ∧ AllN NodeE t ∧ 0 ≤ minL t ∧ minL t ≤ 4 * siz t 2000 := by
  refine tree_ind (p := fun t => TW t → AllN (fun t => nodeB t = true) t → AllN UsN t → siz t 2000 ≤ 2000 → AllN MinOk t ∧ AllN NodeE t ∧ 0 ≤ minL t ∧ minL t ≤ 4 * siz t 2000) ?_ t
  intro t ih hT hA hU hz
  have hr : ∀ s ∈ t.f7, 0 ≤ siz s 2000 ∧ siz s 2000 ≤ 2000 + 1 := fun s hs => (siz_says 2000 (by omega) s (hT.sub s hs) (hA.sub s hs)).1
  obtain ⟨g1, g2, g3⟩ := sizL_sum 2000 (by omega) t.f7 hr 0 (by omega) (by omega)
  obtain ⟨n1, n2, n3, n4, n5⟩ := node_says hA.self
  obtain ⟨z1, z2, z3⟩ := siz_node 2000 (by omega) t hT hA.self g1 g2 hz
  obtain ⟨s1, s2⟩ := sumZ_mem 2000 t.f7 fun s hs => (hr s hs).1
  have hS : ∀ s ∈ t.f7, siz s 2000 ≤ 2000 := fun s hs => by
    by_cases h3 : t.f0 = 3
    · rw [n4 (by omega)] at hs; cases hs
    · have := z2 h3
      have := g3 (by omega)
      have := s2 s hs
      omega
  have hI := fun s hs => ih s hs (hT.sub s hs) (hA.sub s hs) (hU.sub s hs) (hS s hs)
  have hm : 0 ≤ minL t ∧ minL t ≤ 4 * siz t 2000 := by
    by_cases h3 : t.f0 = 3
    · rw [minL_eq, if_pos h3]
      have := litL_le t.f2 fun c hc => (hU.self h3 c hc).1
      have := z1 h3
      omega
    have z2' := z2 h3
    have g3' := g3 (by omega)
    obtain ⟨m1, m2⟩ := minS_sum 2000 t.f7 fun s hs => (hI s hs).2.2
    have hh : 0 < t.f7.length → 0 ≤ minH t.f7 ∧ minH t.f7 ≤ 4 * sumZ 2000 t.f7 := fun h => by
      rw [minH_head _ h]
      have := (hI _ (List.getElem_mem h)).2.2
      have := s2 _ (List.getElem_mem h)
      omega
    rw [minL_eq, if_neg h3]
    by_cases h4 : t.f0 = 4 ∨ t.f0 = 5 ∨ t.f0 = 6
    · rw [if_pos h4]; omega
    rw [if_neg h4]
    by_cases h13 : t.f0 = 13 ∨ t.f0 = 15
    · rw [if_pos h13]
      have := hh (by have := n2 (by omega); omega)
      omega
    rw [if_neg h13]
    by_cases h17 : t.f0 = 17
    · rw [if_pos h17]
      have h1 := hh (by have := n2 (by omega); omega)
      have h2 := z3 h17
      have h3 := n5 h17
      have e : t.f3 * minH t.f7 ≤ t.f3 * (4 * sumZ 2000 t.f7) := Int.mul_le_mul_of_nonneg_left h1.2 h3.1
      have e0 : 0 ≤ t.f3 * minH t.f7 := Int.mul_nonneg h3.1 h1.1
      have e1 : t.f3 * (4 * sumZ 2000 t.f7) = 4 * (sumZ 2000 t.f7 * t.f3) := by rw [Int.mul_left_comm, Int.mul_comm t.f3]
      rw [← g3', Int.zero_add, Int.add_mul, Int.one_mul] at h2
      generalize sumZ 2000 t.f7 * t.f3 = Q at *
      omega
    rw [if_neg h17]
    by_cases h18 : t.f0 = 18
    · rw [if_pos h18]; omega
    rw [if_neg h18]
    by_cases h19 : t.f0 = 19
    · rw [if_pos h19]
      have hl := n3 h19
      have h1 := hh hl
      refine ⟨?_, ?_⟩
      · cases hl7 : t.f7 with
        | nil => rw [hl7] at hl; simp at hl
        | cons a r =>
          rw [minB]
          refine minA_ge 0 r _ ((hI a (by rw [hl7]; simp)).2.2.1) fun s hs => (hI s (by rw [hl7]; simp [hs])).2.2.1
      · have := minB_le t.f7 _ (List.getElem_mem hl)
        rw [minH_head _ hl] at h1
        omega
    rw [if_neg h19]
    omega
  refine ⟨.mk t ⟨n1, fun h => ?_, fun h => ⟨fun c hc => (hU.self h c hc).1, by have := z1 h; omega⟩, hm.1, by omega⟩ fun s hs => (hI s hs).1, .mk t ⟨hU.self, hT.l2, hm.1, fun h => by have := n2 (by omega); omega, fun h => by have := n5 h; omega⟩ fun s hs => (hI s hs).2.1, hm⟩
  rcases h with h | h | h | h
  · have := n2 (by omega); omega
  · have := n2 (by omega); omega
  · have := n2 (by omega); omega
  · exact n3 h
end Go.Proofs.YtofkpinikkfmeaaDoor.TxFnMtLeast
