/- The walk of weigh, over trees that are sound and small enough. -/
import Derived.Test.YtofkpinikkfmeaaDoorWeFnMtLeast
namespace Go.Proofs.YtofkpinikkfmeaaDoor.TrFnMtLeast
open Go.RowKit Go.Proofs.YtofkpinikkfmeaaDoor.PFnMtLeast Go.Proofs.YtofkpinikkfmeaaDoorW.PrintWords Go.Proofs.YtofkpinikkfmeaaDoorW.PrintLast Go.Proofs.YtofkpinikkfmeaaDoorW.PrintMore

theorem rd_eq (l : List T) (k : Nat) (h : k < l.length) : rd_T25 l (k : Int) = l[k] := by
  unfold rd_T25
  rw [List.getD_eq_getElem?_getD, Int.toNat_natCast, List.getElem?_eq_getElem h]; rfl

theorem sub_at {W0 w : World} {A : Option Addr} {l : List T} (h : Kd.C k25 W0 A l.length l) (hb : Below W0.heap.size W0 w) (k : Nat) (hk : k < l.length) : ∃ ad A2 c2 A7 c7, A = some ad ∧ w.cell? (ad.add (k * 8)) = some (.int .i64 l[k].f0) ∧ w.cell? ⟨(ad.add (k * 8)).block, (ad.add (k * 8)).off + 1, none⟩ = some (.int .i64 l[k].f1) ∧ w.cell? ⟨(ad.add (k * 8)).block, (ad.add (k * 8)).off + 2, none⟩ = some (.slice A2 l[k].f2.length c2) ∧ w.cell? ⟨(ad.add (k * 8)).block, (ad.add (k * 8)).off + 3, none⟩ = some (.int .i64 l[k].f3) ∧ w.cell? ⟨(ad.add (k * 8)).block, (ad.add (k * 8)).off + 4, none⟩ = some (.int .i64 l[k].f4) ∧ w.cell? ⟨(ad.add (k * 8)).block, (ad.add (k * 8)).off + 5, none⟩ = some (.int .i64 l[k].f5) ∧ w.cell? ⟨(ad.add (k * 8)).block, (ad.add (k * 8)).off + 6, none⟩ = some (.string l[k].f6) ∧ w.cell? ⟨(ad.add (k * 8)).block, (ad.add (k * 8)).off + 7, none⟩ = some (.slice A7 l[k].f7.length c7) ∧ k25.K W0 l[k] [.int .i64 l[k].f0, .int .i64 l[k].f1, .slice A2 l[k].f2.length c2, .int .i64 l[k].f3, .int .i64 l[k].f4, .int .i64 l[k].f5, .string l[k].f6, .slice A7 l[k].f7.length c7] := by
  obtain ⟨ad, A2, c2, A7, c7, e, h0, h1, h2, h3, h4, h5, h6, h7, l2, g2, l7, g7⟩ := at_T25 h (k : Int) (by omega) (by omega)
  rw [rd_eq l k hk] at *
  rw [Int.toNat_natCast] at *
  have mv : ∀ {a : Addr} {v : Value}, W0.cell? a = some v → w.cell? a = some v := fun hc => (hb.cell (World.block_lt_of_cell? W0 _ hc)).trans hc
  exact ⟨ad, A2, c2, A7, c7, e, mv h0, mv h1, mv h2, mv h3, mv h4, mv h5, mv h6, mv h7, k25_mk W0 l[k] l2 g2 l7 g7⟩

theorem blk8 {w : World} {g : Nat} {ty : TypeId} {v0 v1 v2 v3 v4 v5 v6 v7 : Value} (h : w.heap[g]? = some (.cells #[v0, v1, v2, v3, v4, v5, v6, v7] ty (0, 0))) :
    w.cell? ⟨g, 0, none⟩ = some v0 ∧ w.cell? ⟨g, 1, none⟩ = some v1 ∧ w.cell? ⟨g, 2, none⟩ = some v2 ∧ w.cell? ⟨g, 3, none⟩ = some v3 ∧ w.cell? ⟨g, 4, none⟩ = some v4 ∧ w.cell? ⟨g, 5, none⟩ = some v5 ∧ w.cell? ⟨g, 6, none⟩ = some v6 ∧ w.cell? ⟨g, 7, none⟩ = some v7 :=
  ⟨(blk_cell h 0).trans rfl, (blk_cell h 1).trans rfl, (blk_cell h 2).trans rfl, (blk_cell h 3).trans rfl, (blk_cell h 4).trans rfl, (blk_cell h 5).trans rfl, (blk_cell h 6).trans rfl, (blk_cell h 7).trans rfl⟩
theorem blk1 {w : World} {g : Nat} {ty : TypeId} {v0 : Value} (h : w.heap[g]? = some (.cells #[v0] ty (0, 0))) : w.cell? ⟨g, 0, none⟩ = some v0 := (blk_cell h 0).trans rfl

/-- Eight stores, one behind the other. -/
def set8 (w : World) (g : Nat) (v0 v1 v2 v3 v4 v5 v6 v7 : Value) : World :=
  (((((((w.setCell ⟨g, 0, none⟩ v0).setCell ⟨g, 1, none⟩ v1).setCell ⟨g, 2, none⟩ v2).setCell ⟨g, 3, none⟩ v3).setCell ⟨g, 4, none⟩ v4).setCell ⟨g, 5, none⟩ v5).setCell ⟨g, 6, none⟩ v6).setCell ⟨g, 7, none⟩ v7
theorem set8_below {w W : World} {g : Nat} (h : Below w.heap.size w W) (hg : w.heap.size ≤ g) (v0 v1 v2 v3 v4 v5 v6 v7 : Value) : Below w.heap.size w (set8 W g v0 v1 v2 v3 v4 v5 v6 v7) :=
  below_set (below_set (below_set (below_set (below_set (below_set (below_set (below_set h hg) hg) hg) hg) hg) hg) hg) hg

theorem set8_blk {w : World} {g : Nat} {ty : TypeId} {u0 u1 u2 u3 u4 u5 u6 u7 : Value} (h : w.heap[g]? = some (.cells #[u0, u1, u2, u3, u4, u5, u6, u7] ty (0, 0))) (v0 v1 v2 v3 v4 v5 v6 v7 : Value) :
    (set8 w g v0 v1 v2 v3 v4 v5 v6 v7).heap[g]? = some (.cells #[v0, v1, v2, v3, v4, v5, v6, v7] ty (0, 0)) := by
  have h0 := (blk_set h 0 v0).trans (show some (Obj.cells _ ty (0, 0)) = some (.cells #[v0, u1, u2, u3, u4, u5, u6, u7] ty (0, 0)) from rfl)
  have h1 := (blk_set h0 1 v1).trans (show some (Obj.cells _ ty (0, 0)) = some (.cells #[v0, v1, u2, u3, u4, u5, u6, u7] ty (0, 0)) from rfl)
  have h2 := (blk_set h1 2 v2).trans (show some (Obj.cells _ ty (0, 0)) = some (.cells #[v0, v1, v2, u3, u4, u5, u6, u7] ty (0, 0)) from rfl)
  have h3 := (blk_set h2 3 v3).trans (show some (Obj.cells _ ty (0, 0)) = some (.cells #[v0, v1, v2, v3, u4, u5, u6, u7] ty (0, 0)) from rfl)
  have h4 := (blk_set h3 4 v4).trans (show some (Obj.cells _ ty (0, 0)) = some (.cells #[v0, v1, v2, v3, v4, u5, u6, u7] ty (0, 0)) from rfl)
  have h5 := (blk_set h4 5 v5).trans (show some (Obj.cells _ ty (0, 0)) = some (.cells #[v0, v1, v2, v3, v4, v5, u6, u7] ty (0, 0)) from rfl)
  have h6 := (blk_set h5 6 v6).trans (show some (Obj.cells _ ty (0, 0)) = some (.cells #[v0, v1, v2, v3, v4, v5, v6, u7] ty (0, 0)) from rfl)
  have h7 := (blk_set h6 7 v7).trans (show some (Obj.cells _ ty (0, 0)) = some (.cells #[v0, v1, v2, v3, v4, v5, v6, v7] ty (0, 0)) from rfl)
  exact h7
theorem set8_far (w : World) (g i : Nat) (h : i ≠ g) (v0 v1 v2 v3 v4 v5 v6 v7 : Value) : (set8 w g v0 v1 v2 v3 v4 v5 v6 v7).heap[i]? = w.heap[i]? := by
  unfold set8
  rw [Below.heap_setCell _ _ _ i h, Below.heap_setCell _ _ _ i h, Below.heap_setCell _ _ _ i h, Below.heap_setCell _ _ _ i h, Below.heap_setCell _ _ _ i h, Below.heap_setCell _ _ _ i h, Below.heap_setCell _ _ _ i h, Below.heap_setCell _ _ _ i h]

attribute [local go_sem] max2_int min2_int max_two min_two max_three min_three max_four min_four
abbrev WeighSaid (t : T) : Prop := AllS t → ∀ (h n : Int) (W0 w : World) (Bn : Nat) (cs : List Value), k25.K W0 t cs → Below W0.heap.size W0 w → W0.heap.size ≤ Bn →
    w.heap[Bn]? = some (.cells #[.int .i64 n] 3 (0, 0)) → 0 ≤ h → h + dep t ≤ 10000 → 0 ≤ n → n + cnt t ≤ 50000 → cop t ≤ 50000 →
    Calls Tryd.prog 19 #[.agg cs.toArray, .int .i64 h, .pointer (some ⟨Bn, 0, none⟩)] w fun e w' => e = .returned (.tuple #[.int .i64 (cop t), .bool true]) ∧
      w'.heap[Bn]? = some (.cells #[.int .i64 (n + cnt t)] 3 (0, 0)) ∧ w.grownBy w' (some Bn)

set_option maxRecDepth 100000 in
set_option maxHeartbeats 4000000 in
theorem weigh_calls (t : T) : WeighSaid t := by
  refine tree_ind (p := WeighSaid) ?_ t
  intro t ih hS h n W0 w Bn cs hK hW hBn hN hh hd hn hc1 hc2
  obtain ⟨A2, c2, A7, c7, rfl, l2, g2, l7, g7⟩ := k25_open hK
  obtain ⟨_, ⟨ks, hsound⟩, hSs⟩ := hS
  have hu40 := Tryd.underlying25
  have HS := Lib.hid hsound
  have HSs := Lib.hid hSs
  have HIH := Lib.hid ih
  have HG2 := Lib.hid (And.intro l2 g2)
  have HG7 := Lib.hid (And.intro l7 g7)
  have HW := Lib.hid hW
  have HC := Lib.hid (And.intro hc1 hc2)
  have HD := Lib.hid hd
  have hBl : Bn < w.heap.size := blk_lt hN
  have HN := Lib.hid hN
  have hn1 : n + 1 ≤ 50000 := by rw [cnt_eq] at hc1; omega
  have hh1 : h ≤ 10000 := by omega
  clear hsound hSs ih l2 g2 l7 g7 hW hc1 hc2 hd hN hK
  go_enter Tryd.func19, Tryd.ntmps19
  go_wp2_with (first | ((with_reducible refine gate_dst (N := 3) rfl ?_); refine box_event ?hg (N := 3) ?hd (cs := #[.int .i64 t.f0, .int .i64 t.f1, .slice A2 t.f2.length c2, .int .i64 t.f3, .int .i64 t.f4, .int .i64 t.f5, .string t.f6, .slice A7 t.f7.length c7]) (t := 25) ?hr ?_; (case hd => rfl); (case hg => rfl); (case hr => first | (go_simp; done) | (go_simp; rfl)); intro gb hg w1 hbox hb; have hNc := blk1 (blk_below HN.out hb); have hNf := blk_frozen (blk_below HN.out hb) 0; have BK := Lib.hid hbox; have HB := Lib.hid hb; have GE : w.heap.size ≤ gb := (by omega); clear hg hbox hb; obtain ⟨hz0, hz1, hz2, hz3, hz4, hz5, hz6, hz7⟩ := blk8 BK.out))
  have HN1 := Lib.hid (show (w1.setCell ⟨Bn, 0, none⟩ (.int .i64 (n + 1))).heap[Bn]? = some (.cells #[.int .i64 (n + 1)] 3 (0, 0)) from (blk_set (blk_below HN.out HB.out) 0 _).trans rfl)
  have HG1 := Lib.hid (grown_set (grown_of_below HB.out (some Bn)) 0 (.int .i64 (n + 1)))
  have BK1 := Lib.hid (blk_far (p := ⟨Bn, 0, none⟩) BK.out (by show gb ≠ Bn; omega) (.int .i64 (n + 1)))
  have BW : ∀ w', w.grownBy w' (some Bn) → Below W0.heap.size W0 w' := fun _ hg => HW.out.grown hg (by have := HW.out.size; omega) (fun k hk => by cases hk; omega)
  have HBW := Lib.hid BW
  have HH := Lib.hid (And.intro (HBW.out _ HG1.out) trivial)
  generalize hw2 : w1.setCell ⟨Bn, 0, none⟩ (.int .i64 (n + 1)) = w2 at *
  clear hw2 BW hNc hNf hz0 hz1 hz2 hz3 hz4 hz5 hz6 hz7 HN HB BK
  refine (impl_sound.calls ks t.f0 t.f1 A2 c2 t.f2 t.f3 t.f4 t.f5 t.f6 A7 c7 t.f7 true _ (Kd.C_below HG2.out.2 HH.out.1) HG2.out.1 (Kd.C_below HG7.out.2 HH.out.1) HG7.out.1 HS.out).mono ?_
  rintro e w3 ⟨rfl, hb3⟩
  have HN3 := Lib.hid (blk_below HN1.out hb3)
  have BK3 := Lib.hid (blk_below BK1.out hb3)
  have HG3 := Lib.hid (grown_trans HG1.out (grown_of_below hb3 (some Bn)))
  clear hb3 HN1 BK1 HG1 HH
  obtain ⟨hz0, hz1, hz2, hz3, hz4, hz5, hz6, hz7⟩ := blk8 BK3.out
  have hf7 : t.f7.length ≤ 9223372036854775807 := HG7.out.2.2.1
  go_wp2_with fail
  clear hz0 hz1 hz2 hz3 hz4 hz5 hz6 hz7
  go_loopg [6, 33] t.f7.length (fun gk s6 s33 wr => ∃ (k : Nat) (cp : Int), Hid (gk + k = t.f7.length ∧ cp = 1 + copL (t.f7.take k) ∧ wr.heap[Bn]? = some (.cells #[.int .i64 (n + 1 + (cntL (t.f7.take k) : Nat))] 3 (0, 0)) ∧ wr.heap[gb]? = some (.cells #[.int .i64 t.f0, .int .i64 t.f1, .slice A2 t.f2.length c2, .int .i64 t.f3, .int .i64 t.f4, .int .i64 t.f5, .string t.f6, .slice A7 t.f7.length c7] 25 (0, 0)) ∧ w.grownBy wr (some Bn)) ∧ k ≤ t.f7.length ∧ 1 ≤ cp ∧ cp ≤ 50000 ∧ s6 = .int .i64 cp ∧ s33 = .int .i64 k)
  case atStart => exact ⟨0, 1, ⟨by omega, by simp [copL], by simpa [cntL] using HN3.out, BK3.out, HG3.out⟩, Nat.zero_le _, by omega, by omega, rfl, rfl⟩
  case round =>
    clear HN3 BK3 HG3
    obtain ⟨k, cp, HI, hk, hcp1, hcp2, rfl, rfl⟩ := hrel
    by_cases hlt : k < t.f7.length
    · obtain ⟨ad, A2', c2', A7', c7', e, hx0, hx1, hx2, hx3, hx4, hx5, hx6, hx7, hK'⟩ := sub_at HG7.out.2 (HBW.out _ HI.out.2.2.2.2) k hlt
      cases e
      have HK := Lib.hid hK'
      clear hK'
      go_wp2_with (first | ((with_reducible refine gate_dst (N := 9) rfl ?_); refine box_event ?hg (N := 9) ?hd (cs := #[.int .i64 0, .int .i64 0, .slice none 0 0, .int .i64 0, .int .i64 0, .int .i64 0, .string (⟨#[]⟩ : ByteArray), .slice none 0 0]) (t := 25) ?hr ?_; (case hd => rfl); (case hg => rfl); (case hr => first | (go_simp; done) | (go_simp; rfl)); intro gc hg w4 hbox hb; have BC := Lib.hid hbox; have HB4 := Lib.hid hb; have GC : wr.heap.size ≤ gc := (by omega); clear hg hbox hb; obtain ⟨hz0, hz1, hz2, hz3, hz4, hz5, hz6, hz7⟩ := blk8 BC.out; have hq0 := blk_frozen BC.out 0; have hq1 := blk_frozen BC.out 1; have hq2 := blk_frozen BC.out 2; have hq3 := blk_frozen BC.out 3; have hq4 := blk_frozen BC.out 4; have hq5 := blk_frozen BC.out 5; have hq6 := blk_frozen BC.out 6; have hq7 := blk_frozen BC.out 7))
      clear hz0 hz1 hz2 hz3 hz4 hz5 hz6 hz7 hq0 hq1 hq2 hq3 hq4 hq5 hq6 hq7 hx0 hx1 hx2 hx3 hx4 hx5 hx6 hx7
      have HB5 := Lib.hid (set8_below HB4.out GC (.int .i64 t.f7[k].f0) (.int .i64 t.f7[k].f1) (.slice A2' t.f7[k].f2.length c2') (.int .i64 t.f7[k].f3) (.int .i64 t.f7[k].f4) (.int .i64 t.f7[k].f5) (.string t.f7[k].f6) (.slice A7' t.f7[k].f7.length c7'))
      generalize hw5 : set8 w4 gc (.int .i64 t.f7[k].f0) (.int .i64 t.f7[k].f1) (.slice A2' t.f7[k].f2.length c2') (.int .i64 t.f7[k].f3) (.int .i64 t.f7[k].f4) (.int .i64 t.f7[k].f5) (.string t.f7[k].f6) (.slice A7' t.f7[k].f7.length c7') = w5 at *
      simp only [set8] at hw5
      rw [hw5]
      clear hw5
      have HP := Lib.hid (And.intro (cntL_take t.f7 k hlt) (And.intro (copL_take t.f7 k hlt) (And.intro (cntL_le t.f7 (k + 1)) (copL_le t.f7 (k + 1)))))
      have HQ := Lib.hid (And.intro (depL_mem t.f7 _ (List.getElem_mem hlt)) (And.intro (dep_eq t) (And.intro (cnt_eq t) (copL_le_cop t))))
      have HG5 := Lib.hid (grown_trans HI.out.2.2.2.2 (grown_of_below HB5.out (some Bn)))
      have hcp3 : cp + cop t.f7[k] ≤ 50000 := by
        have h1 := HI.out.2.1
        have h2 := HP.out.2
        have h3 := HQ.out
        have h4 := HC.out
        omega
      refine (HIH.out t.f7[k] (List.getElem_mem hlt) (HSs.out _ (List.getElem_mem hlt)) (h + 1) (n + 1 + (cntL (t.f7.take k) : Nat)) W0 w5 Bn _ HK.out (HBW.out _ HG5.out) hBn (blk_below HI.out.2.2.1 HB5.out) (by omega) (by have := HD.out; have := HQ.out; omega) (by omega) (by have := HC.out.1; have := HP.out; have := HQ.out; omega) (by have := copL_pos (t.f7.take k); have := HI.out.2.1; omega)).mono ?_
      rintro e w6 ⟨rfl, hN6, hG6⟩
      have HN6 := Lib.hid hN6
      have HG6 := Lib.hid (grown_trans HG5.out hG6)
      have HB6 := Lib.hid (hG6.block gb (by have := blk_lt HI.out.2.2.2.1; have := HB5.out.size; omega) (fun e => by cases e; omega))
      have HK6 := Lib.hid ((HB6.out.trans (HB5.out.block gb (blk_lt HI.out.2.2.2.1))).trans HI.out.2.2.2.1)
      clear hN6 hG6 HB6 HB5 HB4 BC
      have hcp0 := cop_pos t.f7[k]
      generalize cop t.f7[k] = cv at *
      go_wp2_with fail
      go_roundg (gk - 1)
      case measure => have := HI.out.1; omega
      case rel =>
        refine ⟨k + 1, _, ⟨by have := HI.out.1; omega, ?_, ?_, HK6.out, HG6.out⟩, by omega, ?_, ?_, rfl, by go_num⟩
        · rw [HP.out.2.1, HI.out.2.1]; omega
        · rw [HN6.out, HP.out.1]; congr 5; omega
        · omega
        · omega
    · have hke : k = t.f7.length := by omega
      subst hke
      have hfin : Hid (1 + copL t.f7 = cp ∧ wr.heap[Bn]? = some (.cells #[.int .i64 (n + (cnt t : Nat))] 3 (0, 0)) ∧ w.grownBy wr (some Bn) ∧ cop t = cp * mul t) := by
        obtain ⟨_, h1, h2, _, h4⟩ := HI.out
        rw [List.take_length] at h1 h2
        refine ⟨h1.symm, ?_, h4, by rw [cop_eq, h1]⟩
        rw [h2, cnt_eq]; congr 5; omega
      obtain ⟨hz0, hz1, hz2, hz3, hz4, hz5, hz6, hz7⟩ := blk8 HI.out.2.2.2.1
      have hcpt := cop_pos t
      have hcpl := HC.out.2
      clear HI
      by_cases h17 : t.f0 = 17
      · have hm : Hid (mul t = (if (if t.f4 < t.f3 then t.f3 else t.f4) < 1 then 1 else if t.f4 < t.f3 then t.f3 else t.f4)) := by
          show mul t = _
          unfold mul
          rw [if_pos h17]
          repeat' split
          all_goals omega
        have hcop := Lib.hid hfin.out.2.2.2
        rw [hm.out] at hcop
        have hr1 : 1 ≤ cp * (if (if t.f4 < t.f3 then t.f3 else t.f4) < 1 then 1 else if t.f4 < t.f3 then t.f3 else t.f4) := by rw [← hcop.out]; exact hcpt
        have hr2 : cp * (if (if t.f4 < t.f3 then t.f3 else t.f4) < 1 then 1 else if t.f4 < t.f3 then t.f3 else t.f4) ≤ 50000 := by rw [← hcop.out]; exact hcpl
        go_upto_region 15 with (fail)
        clear hm
        generalize (if (if t.f4 < t.f3 then t.f3 else t.f4) < 1 then 1 else if t.f4 < t.f3 then t.f3 else t.f4) = mm at *
        rw [← hcop.out]
        clear hr1 hr2
        go_wp2_with fail
        go_ret2
        exact ⟨rfl, hfin.out.2.1, hfin.out.2.2.1⟩
      · have hm : Hid (cop t = cp) := by
          have h := hfin.out.2.2.2
          show cop t = _
          unfold mul at h
          rw [if_neg h17] at h
          omega
        go_wp2_with fail
        go_ret2
        exact ⟨by rw [hm.out]; rfl, hfin.out.2.1, hfin.out.2.2.1⟩
end Go.Proofs.YtofkpinikkfmeaaDoor.TrFnMtLeast
