/- The walk of treeFor; of MaxCap. -/
import Derived.Test.YtofkpinikkfmeaaDoorRoFnMtLeast
namespace Go.Proofs.YtofkpinikkfmeaaDoor.TrFnMtLeast
open Go.RowKit Go.Proofs.YtofkpinikkfmeaaDoor.PFnMtLeast Go.Proofs.YtofkpinikkfmeaaDoorW.PrintWords Go.Proofs.YtofkpinikkfmeaaDoorW.PrintLast Go.Proofs.YtofkpinikkfmeaaDoorW.PrintMore

set_option maxRecDepth 100000 in
set_option maxHeartbeats 4000000 in
theorem tree_calls (t : T) (hS : AllS t) (hT : TW t) (w : World) (cs : List Value) (hK : k25.K w t cs) (hd : 1 + dep t ≤ 10000) (hc1 : cnt t ≤ 50000) (hc2 : cop t ≤ 50000) :
    Calls Tryd.prog 11 #[.agg cs.toArray] w fun e w' => ∃ b, e = .returned (.tuple #[ptr b, .bool true]) ∧ RegAt w' (fun i => w.heap.size ≤ i ∧ i < w'.heap.size) b t ∧ Below w.heap.size w w' := by
  obtain ⟨A2, c2, A7, c7, rfl, l2, g2, l7, g7⟩ := k25_open hK
  have hu40 := Tryd.underlying25
  have HK := Lib.hid hK
  have HS := Lib.hid hS
  have HT := Lib.hid hT
  have HB := Lib.hid (And.intro hd (And.intro hc1 hc2))
  clear hK hS hT hd hc1 hc2 l2 g2 l7 g7
  go_enter Tryd.func11, Tryd.ntmps11
  go_wp2_with (first | ((with_reducible refine gate_dst (N := 1) rfl ?_); refine box_event ?hg (N := 1) ?hd (cs := #[.int .i64 t.f0, .int .i64 t.f1, .slice A2 t.f2.length c2, .int .i64 t.f3, .int .i64 t.f4, .int .i64 t.f5, .string t.f6, .slice A7 t.f7.length c7]) (t := 25) ?hr ?_; (case hd => rfl); (case hg => rfl); (case hr => first | (go_simp; done) | (go_simp; rfl)); intro gb hg w1 hbox hb; have BK := Lib.hid hbox; have HB1 := Lib.hid hb; have GE : w.heap.size ≤ gb := (by omega); clear hg hbox hb; obtain ⟨hz0, hz1, hz2, hz3, hz4, hz5, hz6, hz7⟩ := blk8 BK.out) | ((with_reducible refine gate_dst (N := 4) rfl ?_); refine box_event ?hg (N := 4) ?hd (cs := #[.int .i64 0]) (t := 3) ?hr ?_; (case hd => rfl); (case hg => rfl); (case hr => first | (go_simp; done) | (go_simp; rfl)); intro gn hg w2 hbox hb; have BN := Lib.hid hbox; have BK2 := Lib.hid (blk_below BK.out hb); have HB2 := Lib.hid (below_step HB1.out hb); have GN : gb < gn := (by have := blk_lt BK.out; omega); clear hg hbox hb hz0 hz1 hz2 hz3 hz4 hz5 hz6 hz7; obtain ⟨hz0, hz1, hz2, hz3, hz4, hz5, hz6, hz7⟩ := blk8 BK2.out; have hn0 := blk1 BN.out; have hnf := blk_frozen BN.out 0; have hne1 : gb ≠ gn := (by omega); have hne2 : gn ≠ gb := (by omega)))
  have hwg : w.heap.size ≤ gn := by omega
  have BNs := Lib.hid ((blk_set BN.out 0 (.int .i64 0)).trans (show _ = some (Obj.cells #[.int .i64 0] 3 (0, 0)) from rfl))
  have BKs := Lib.hid (blk_far (p := ⟨gn, 0, none⟩) BK2.out hne1 (.int .i64 0))
  have HBs := Lib.hid (below_set (j := 0) (v := .int .i64 0) HB2.out hwg)
  clear hz0 hz1 hz2 hz3 hz4 hz5 hz6 hz7 hn0 hnf BN BK2 HB2
  generalize w2.setCell ⟨gn, 0, none⟩ (.int .i64 0) = w2s at *
  refine (weigh_calls t HS.out 1 0 w w2s gn _ HK.out HBs.out (by omega) BNs.out (by omega) (by have := HB.out.1; omega) (by omega) (by have := HB.out.2.1; omega) HB.out.2.2).mono ?_
  rintro e w3 ⟨rfl, hb3, hg3⟩
  have BK3 := Lib.hid ((hg3.block gb (blk_lt BKs.out) (fun e => by cases e; omega)).trans BKs.out)
  have HB3 := Lib.hid (HBs.out.grown hg3 HBs.out.size (fun k hk => by cases hk; omega))
  clear hb3 hg3
  obtain ⟨hz0, hz1, hz2, hz3, hz4, hz5, hz6, hz7⟩ := blk8 BK3.out
  go_wp2_with fail
  refine (make_calls t HT.out w w3 _ HK.out HB3.out).mono ?_
  rintro e w4 ⟨b, rfl, hr, hb4⟩
  have HR := Lib.hid hr
  have HB4 := Lib.hid hb4
  clear hr hb4 hz0 hz1 hz2 hz3 hz4 hz5 hz6 hz7
  go_wp2_with fail
  go_ret2
  exact ⟨b, rfl, HR.out.mono fun i hi hs => ⟨⟨Nat.le_trans HB3.out.size hs.1, hs.2⟩, rfl⟩, below_step HB3.out HB4.out⟩

theorem grown_drew {a b : World} {r : Option Nat} (h : a.grownBy b r) : a.grownBy b.drew r := ⟨h.os, h.tape, h.output, h.size, h.block⟩

/-- What a pointer's node says of its parts: the slice, and where they lie. -/
theorem RegAt.open_ {w : World} {S : Nat → Prop} {b : Nat} {t : T} (h : RegAt w S b t) : ∃ (As : Option Addr) (cs : Nat) (Ar : Option Addr) (cr : Nat) (bs : List Nat),
    w.heap[b]? = some (.cells (nodeCells t (.slice As t.f7.length cs) (.slice Ar t.f2.length cr)) 59 (0, 0)) ∧ t.f7.length ≤ cs ∧ t.f7.length ≤ 9223372036854775807 ∧ t.f2.length ≤ 9223372036854775807 ∧ bs.length = t.f7.length ∧
    (∀ k (h : k < bs.length) (h' : k < t.f7.length), (∃ ad, As = some ad ∧ S ad.block ∧ w.cell? (ad.add k) = some (ptr bs[k])) ∧ RegAt w S bs[k] t.f7[k]) ∧
    Kd.C (Kd.int .i32) w Ar t.f2.length t.f2 ∧ t.f2.length ≤ cr := by
  obtain ⟨_, _, vs, vr, bs, hb, hc, hs, hr, hl, hk⟩ := h
  have hs' : ∃ As cs, vs = .slice As t.f7.length cs ∧ t.f7.length ≤ cs ∧ t.f7.length ≤ 9223372036854775807 ∧ ∀ k (h : k < bs.length), ∃ ad, As = some ad ∧ S ad.block ∧ w.cell? (ad.add k) = some (ptr bs[k]) := by
    by_cases hne : bs = []
    · subst hne
      have hz : t.f7.length = 0 := by rw [← hl]; rfl
      rcases hs with ⟨rfl, _⟩ | ⟨g, cap, cur, rfl, _, _, h1, h2, _⟩
      · exact ⟨none, 0, by rw [hz], by omega, by omega, fun k h => by simp at h⟩
      · exact ⟨some ⟨g, 0, none⟩, cap, by rw [hz]; rfl, by omega, by omega, fun k h => by simp at h⟩
    · obtain ⟨g, cap, rfl, hSg, _, h1, h2, h3⟩ := hs.cell (by simpa using hne)
      rw [List.length_map] at h1
      refine ⟨some ⟨g, 0, none⟩, cap, by rw [List.length_map, hl], by omega, by unfold maxLen at h2; omega, fun k h => ⟨_, rfl, hSg, ?_⟩⟩
      have := h3 k (by simpa using h)
      rw [List.getElem_map] at this
      have e : (⟨g, 0, none⟩ : Addr).add k = ⟨g, k, none⟩ := by unfold Addr.add; split <;> simp_all
      rw [e]; exact this
  have hr' : ∃ Ar cr, vr = .slice Ar t.f2.length cr ∧ Kd.C (Kd.int .i32) w Ar t.f2.length t.f2 ∧ t.f2.length ≤ cr ∧ t.f2.length ≤ 9223372036854775807 := by
    by_cases hne : t.f2 = []
    · have hz : t.f2.length = 0 := by rw [hne]; rfl
      rcases hr with ⟨rfl, _⟩ | ⟨g, cap, cur, rfl, _, _, h1, h2, _⟩
      · refine ⟨none, 0, by rw [hz], ⟨rfl, by omega, fun h => by omega⟩, by omega, by omega⟩
      · refine ⟨some ⟨g, 0, none⟩, cap, by rw [List.length_map], ⟨rfl, by omega, fun h => by omega⟩, by omega, by omega⟩
    · obtain ⟨g, cap, rfl, _, _, h1, h2, h3⟩ := hr.cell (by simpa using hne)
      rw [List.length_map] at h1
      have hle : t.f2.length ≤ 9223372036854775807 := by unfold maxLen at h2; omega
      refine ⟨some ⟨g, 0, none⟩, cap, by rw [List.length_map], ⟨rfl, hle, fun _ => ⟨_, rfl, fun j p hj => ⟨[.int .i32 p], rfl, rfl, fun i u hu => ?_⟩⟩⟩, h1, hle⟩
      match i, hu with
      | 0, hu =>
        simp at hu
        subst hu
        obtain ⟨hj1, hj2⟩ := List.getElem?_eq_some_iff.1 hj
        have := h3 j (by simpa using hj1)
        rw [List.getElem_map, hj2] at this
        have e : (⟨g, 0, none⟩ : Addr).add (j * (Kd.int .i32).sz + 0) = ⟨g, j, none⟩ := by
          have h1 : (Kd.int .i32).sz = 1 := rfl
          rw [h1, Nat.mul_one, Nat.add_zero]
          unfold Addr.add; split <;> simp_all
        rw [e]; exact this
  obtain ⟨As, cs, rfl, a1, a2, a3⟩ := hs'
  obtain ⟨Ar, cr, rfl, b1, b2, b3⟩ := hr'
  exact ⟨As, cs, Ar, cr, bs, hc, a1, a2, b3, hl, fun k h h' => ⟨a3 k h, hk k h h'⟩, b1, b2⟩

end Go.Proofs.YtofkpinikkfmeaaDoor.TrFnMtLeast
