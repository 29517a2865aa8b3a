/- sort.order2, median, medianAdjacent, choosePivot over a state that is known by what Less and Swap do to it: only the bounds of what they tell. -/
import Derived.Test.YtkcnodkojllobaaDoorZa
namespace Go.Proofs.YtkcnodkojllobaaDoor.Srt
open Go Go.RowKit Go.Sort Go.Proofs.YtkcnodkojllobaaDoor.Row Go.Proofs.YtkcnodkojllobaaDoorW.PrintWords Go.Proofs.YtkcnodkojllobaaDoorW.PrintLast Go.Proofs.YtkcnodkojllobaaDoorW.PrintMore
set_option linter.unusedVariables false
set_option linter.unusedSimpArgs false

section
variable {α : Type} {B : Nat} {St : Array α → World → Prop}
/-- A counter of the call's own. -/
def Cnt (w : World) (cb : Nat) : Prop := ∃ s : Int, w.heap[cb]? = some (.cells #[.int .i64 s] 3 (0, 0))
/-- A step that reads the state and turns the counter. -/
def CQ (B : Nat) (St : Array α → World → Prop) (d : Array α) (cb : Nat) (w w' : World) : Prop := St d w' ∧ Cnt w' cb ∧ Fr (fun x => x < B ∨ x = cb) w w'
theorem Cnt.keep {S : Nat → Prop} {w w' : World} {cb : Nat} (h : Cnt w cb) (hf : Fr S w w') (hS : ¬ S cb) : Cnt w' cb := by
  obtain ⟨s, hs⟩ := h
  exact ⟨s, (hf.block cb (blk_lt hs) hS).trans hs⟩
theorem CQ.turn {d : Array α} {cb : Nat} {w w1 w2 : World} (h : CQ B St d cb w w1) (k : CQ B St d cb w1 w2) : CQ B St d cb w w2 := ⟨k.1, k.2.1, h.2.2.trans k.2.2⟩
end
section
variable {α : Type} [Inhabited α] {N B hb : Nat} {lt : α → α → Bool} {St : Array α → World → Prop}
set_option maxRecDepth 100000 in
set_option maxHeartbeats 4000000 in
theorem order2_calls (h : SK N B hb lt St) (a b cb : Nat) (d : Array α) (w : World) (hs : St d w) (hd : d.size = N) (ha : a < N) (hbN : b < N) (hc : Cnt w cb) (hcb : B ≤ cb) :
    Calls Tryd.prog 37 #[.iface 44 (RV hb), .int .i64 (a : Int), .int .i64 (b : Int), .pointer (some ⟨cb, 0, none⟩)] w fun e w' =>
      ∃ x y : Nat, e = .returned (.tuple #[.int .i64 (x : Int), .int .i64 (y : Int)]) ∧ (x = a ∧ y = b ∨ x = b ∧ y = a) ∧ CQ B St d cb w w' := by
  have HK := Lib.hid h
  have HL := Lib.hid (h.less hs hd b a hbN ha)
  have HS := Lib.hid hs
  have HC := Lib.hid hc
  have mL := method_less hb
  clear h hs hd hc
  go_enter Tryd.func37, Tryd.ntmps37
  go_wp2_with fail
  refine HL.out.mono ?_
  rintro e w1 ⟨rfl, hf1⟩
  have HS1 := Lib.hid (HK.out.quiet HS.out hf1)
  have HC1 := Lib.hid (HC.out.keep hf1 (fun e => e))
  have HF1 := Lib.hid hf1
  clear hf1 HL
  cases hlv : lt d[b]! d[a]! with
  | true =>
    obtain ⟨s, hcs⟩ := HC1.out
    have hz : w1.cell? ⟨cb, 0, none⟩ = some (.int .i64 s) := (blk_cell hcs 0).trans rfl
    have hfz := blk_frozen hcs 0
    have HCS := Lib.hid hcs
    clear hcs hlv
    go_wp2_with fail
    go_ret2
    refine ⟨b, a, rfl, .inr ⟨rfl, rfl⟩, HK.out.keep HS1.out ((Fr.refl _ _).set _ (.inl hcb)), ⟨_, blk_set HCS.out 0 _⟩, HF1.out.quiet.set _ (.inl (.inr rfl))⟩
  | false =>
    clear hlv
    go_wp2_with fail
    go_ret2
    exact ⟨a, b, rfl, .inl ⟨rfl, rfl⟩, HS1.out, HC1.out, HF1.out.quiet⟩


set_option maxRecDepth 100000 in
set_option maxHeartbeats 4000000 in
theorem median_calls (h : SK N B hb lt St) (a b c cb : Nat) (d : Array α) (w : World) (hs : St d w) (hd : d.size = N) (ha : a < N) (hbN : b < N) (hcN : c < N) (hc : Cnt w cb) (hcb : B ≤ cb) :
    Calls Tryd.prog 36 #[.iface 44 (RV hb), .int .i64 (a : Int), .int .i64 (b : Int), .int .i64 (c : Int), .pointer (some ⟨cb, 0, none⟩)] w fun e w' =>
      ∃ x : Nat, e = .returned (.int .i64 (x : Int)) ∧ (x = a ∨ x = b ∨ x = c) ∧ CQ B St d cb w w' := by
  have HK := Lib.hid h
  have HD := Lib.hid hd
  have H1 := Lib.hid (order2_calls h a b cb d w hs hd ha hbN hc hcb)
  clear h hs hd hc
  go_enter Tryd.func36, Tryd.ntmps36
  go_wp2_with fail
  refine H1.out.mono ?_
  rintro e w1 ⟨x1, y1, rfl, hxy1, hq1⟩
  have HQ1 := Lib.hid hq1
  have H2 := Lib.hid (order2_calls HK.out y1 c cb d w1 hq1.1 HD.out (by omega) hcN hq1.2.1 hcb)
  clear hq1 H1
  go_wp2_with fail
  refine H2.out.mono ?_
  rintro e w2 ⟨x2, y2, rfl, hxy2, hq2⟩
  have HQ2 := Lib.hid (HQ1.out.turn hq2)
  have H3 := Lib.hid (order2_calls HK.out x1 x2 cb d w2 hq2.1 HD.out (by omega) (by omega) hq2.2.1 hcb)
  clear hq2 H2
  go_wp2_with fail
  refine H3.out.mono ?_
  rintro e w3 ⟨x3, y3, rfl, hxy3, hq3⟩
  have HQ3 := Lib.hid (HQ2.out.turn hq3)
  clear hq3 H3
  go_wp2_with fail
  go_ret
  exact ⟨y3, rfl, by omega, HQ3.out⟩

set_option maxRecDepth 100000 in
set_option maxHeartbeats 4000000 in
theorem medianAdjacent_calls (h : SK N B hb lt St) (a cb : Nat) (d : Array α) (w : World) (hs : St d w) (hd : d.size = N) (ha : 1 ≤ a) (haN : a + 1 < N) (hc : Cnt w cb) (hcb : B ≤ cb) :
    Calls Tryd.prog 35 #[.iface 44 (RV hb), .int .i64 (a : Int), .pointer (some ⟨cb, 0, none⟩)] w fun e w' =>
      ∃ x : Nat, e = .returned (.int .i64 (x : Int)) ∧ (a ≤ x + 1 ∧ x ≤ a + 1) ∧ CQ B St d cb w w' := by
  have hNs := h.small
  have hm := median_calls h (a - 1) a (a + 1) cb d w hs hd (by omega) (by omega) haN hc hcb
  rw [show ((a - 1 : Nat) : Int) = (a : Int) - 1 by omega, show ((a + 1 : Nat) : Int) = (a : Int) + 1 by push_cast; rfl] at hm
  have HM := Lib.hid hm
  clear h hs hd hc hm
  go_enter Tryd.func35, Tryd.ntmps35
  go_wp2_with fail
  refine HM.out.mono ?_
  rintro e w1 ⟨x, rfl, hx, hq⟩
  have HQ := Lib.hid hq
  clear hq HM
  go_wp2_with fail
  go_ret
  exact ⟨x, rfl, by omega, HQ.out⟩

set_option maxRecDepth 100000 in
set_option maxHeartbeats 4000000 in
theorem choosePivot_calls (h : SK N B hb lt St) (a b : Nat) (d : Array α) (w : World) (hs : St d w) (hd : d.size = N) (hab : a + 12 < b) (hbN : b ≤ N) :
    Calls Tryd.prog 27 #[.iface 44 (RV hb), .int .i64 (a : Int), .int .i64 (b : Int)] w fun e w' =>
      ∃ (x : Nat) (hint : Int), e = .returned (.tuple #[.int .i64 (x : Int), .int .i64 hint]) ∧ (a ≤ x ∧ x < b) ∧ (hint = 0 ∨ hint = 1 ∨ hint = 2) ∧ SQ B St w d w' := by
  have hNs := h.small
  have HK := Lib.hid h
  have HS := Lib.hid hs
  have HD := Lib.hid hd
  have hB := h.low hs
  obtain ⟨i, hi⟩ : ∃ i : Nat, i = a + (b - a) / 4 * 1 := ⟨_, rfl⟩
  obtain ⟨j, hj⟩ : ∃ j : Nat, j = a + (b - a) / 4 * 2 := ⟨_, rfl⟩
  obtain ⟨k, hk⟩ : ∃ k : Nat, k = a + (b - a) / 4 * 3 := ⟨_, rfl⟩
  have eI : ((a : Int) + ((b : Int) - (a : Int)) / 4) = (i : Int) := by omega
  have eJ : ((a : Int) + ((b : Int) - (a : Int)) / 4 * 2) = (j : Int) := by omega
  have eK : ((a : Int) + ((b : Int) - (a : Int)) / 4 * 3) = (k : Int) := by omega
  have hb3 : a + 1 ≤ i ∧ i + 2 ≤ j ∧ j + 2 ≤ k ∧ k + 2 ≤ b := by omega
  have d8 : decide (8 ≤ (b : Int) - (a : Int)) = true := decide_eq_true (by omega)
  clear h hs hd hi hj hk
  go_enter Tryd.func27, Tryd.ntmps27
  go_upto_if 32 with (fail)
  have HC1 := Lib.hid (show Cnt (w.alloc (.cells #[.int .i64 0] 3)) w.heap.size from ⟨0, heap_alloc_new w _⟩)
  have HF1 := Lib.hid (show Fr (fun x => x < B) w (w.alloc (.cells #[.int .i64 0] 3)) from (Fr.refl _ _).alloc _)
  have HS1 := Lib.hid (HK.out.keep HS.out ((Fr.refl _ w).alloc (.cells #[.int .i64 0] 3)))
  obtain ⟨cb, hcb⟩ : ∃ cb, cb = w.heap.size := ⟨_, rfl⟩
  have HCB := Lib.hid hcb
  rw [← hcb] at HC1 ⊢
  have hBc : B ≤ cb := by omega
  clear hcb hB
  generalize w.alloc (.cells #[.int .i64 0] 3) = w1 at *
  go_cut [11] (fun v11 wc => ∃ x : Nat, v11 = .int .i64 (x : Int) ∧ Hid (CQ B St d cb w1 wc) ∧ a ≤ x ∧ x < b)
  case first =>
    by_cases h50 : b - a ≥ 50
    · have d50 : decide (50 ≤ (b : Int) - (a : Int)) = true := decide_eq_true (by omega)
      have hb4 : a + 1 ≤ i ∧ i + 1 < b ∧ 1 ≤ i := by omega
      have H1 := Lib.hid (medianAdjacent_calls HK.out i cb d w1 HS1.out HD.out (by omega) (by omega) HC1.out hBc)
      go_wp2_with fail
      refine H1.out.mono ?_
      rintro e w2 ⟨x1, rfl, hx1, hq1⟩
      have HQ1 := Lib.hid hq1
      have H2 := Lib.hid (medianAdjacent_calls HK.out j cb d w2 hq1.1 HD.out (by omega) (by omega) hq1.2.1 hBc)
      clear hq1 H1
      go_wp2_with fail
      refine H2.out.mono ?_
      rintro e w3 ⟨x2, rfl, hx2, hq2⟩
      have HQ2 := Lib.hid (HQ1.out.turn hq2)
      have H3 := Lib.hid (medianAdjacent_calls HK.out k cb d w3 hq2.1 HD.out (by omega) (by omega) hq2.2.1 hBc)
      clear hq2 H2
      go_wp2_with fail
      refine H3.out.mono ?_
      rintro e w4 ⟨x3, rfl, hx3, hq3⟩
      have HQ3 := Lib.hid (HQ2.out.turn hq3)
      have H4 := Lib.hid (median_calls HK.out x1 x2 x3 cb d w4 hq3.1 HD.out (by omega) (by omega) (by omega) hq3.2.1 hBc)
      clear hq3 H3
      go_wp2_with fail
      refine H4.out.mono ?_
      rintro e w5 ⟨x4, rfl, hx4, hq4⟩
      have HQ4 := Lib.hid (HQ3.out.turn hq4)
      clear hq4 H4
      go_wp2_with fail
      go_meet
      exact ⟨x4, rfl, HQ4, by omega, by omega⟩
    · have d50 : decide (50 ≤ (b : Int) - (a : Int)) = false := decide_eq_false (by omega)
      have H4 := Lib.hid (median_calls HK.out i j k cb d w1 HS1.out HD.out (by omega) (by omega) (by omega) HC1.out hBc)
      go_wp2_with fail
      refine H4.out.mono ?_
      rintro e w5 ⟨x4, rfl, hx4, hq4⟩
      have HQ4 := Lib.hid hq4
      clear hq4 H4
      go_wp2_with fail
      go_meet
      exact ⟨x4, rfl, HQ4, by omega, by omega⟩
  case rest =>
    obtain ⟨x, rfl, HQ, hx1, hx2⟩ := hcut
    obtain ⟨s, hcs⟩ := HQ.out.2.1
    have hz : wc.cell? ⟨cb, 0, none⟩ = some (.int .i64 s) := (blk_cell hcs 0).trans rfl
    have HSQ := Lib.hid (show SQ B St w d wc from ⟨HQ.out.1, HQ.out.2.2.os.trans HF1.out.os, HQ.out.2.2.tape.trans HF1.out.tape, HQ.out.2.2.output.trans HF1.out.output, Nat.le_trans HF1.out.size HQ.out.2.2.size, fun i hi hne =>
      (HQ.out.2.2.block i (Nat.lt_of_lt_of_le hi HF1.out.size) (fun e => by
        rcases e with e | e
        · exact hne e
        · have := HCB.out; omega)).trans (HF1.out.block i hi hne)⟩)
    clear hcs
    by_cases e0 : s = 0
    · have d0 : (s == 0) = true := beq_iff_eq.2 e0
      go_wp2_with fail
      go_ret2
      exact ⟨x, 1, rfl, ⟨hx1, hx2⟩, .inr (.inl rfl), HSQ.out⟩
    · have d0 : (s == 0) = false := beq_eq_false_iff_ne.2 e0
      by_cases e12 : s = 12
      · have d12 : (s == 12) = true := beq_iff_eq.2 e12
        go_wp2_with fail
        go_ret2
        exact ⟨x, 2, rfl, ⟨hx1, hx2⟩, .inr (.inr rfl), HSQ.out⟩
      · have d12 : (s == 12) = false := beq_eq_false_iff_ne.2 e12
        go_wp2_with fail
        go_ret2
        exact ⟨x, 0, rfl, ⟨hx1, hx2⟩, .inl rfl, HSQ.out⟩
end
end Go.Proofs.YtkcnodkojllobaaDoor.Srt
