import Derived.Test.YtmccgfjhmbioeaaDoorRow
import Derived.Test.YtmccgfjhmbioeaaDoorPFnPgThreadsy0
import Derived.Test.YtmccgfjhmbioeaaDoorPFnPgThreadsy1
import Derived.StillTailTactics
namespace Go.Proofs.YtmccgfjhmbioeaaDoor.PFnPgThreads
open Go.RowKit Go.Proofs.YtmccgfjhmbioeaaDoor.Row Go.Proofs.YtmccgfjhmbioeaaDoorW.PrintWords Go.Proofs.YtmccgfjhmbioeaaDoorW.PrintLast Go.Proofs.YtmccgfjhmbioeaaDoorW.PrintMore
set_option linter.unusedVariables false
set_option linter.unusedSimpArgs false
def spec_progInst.j0 : Nat → Bool → List (S52) → Int → Int → Int → Int → Int → List Int → Option (Bool)
 | 0, _, _, _, _, _, _, _, _ => none
 | k + 1, x12, x120000, x120001, x120002, x121000, x121001, x121002, x121003 => if x12 = true then (some true) else ((spec_progTo.f x120000 x120001 x120002 x121001).bind fun t121 => (if t121 = true then (if x121000 = 0 then ((spec_progTo.f x120000 x120001 x120002 x121002).bind fun t122 => (some t122)) else (if x121000 = 2 then (if 2 ≤ x121002 then (some (decide (x121002 < x120002))) else (some false)) else (if x121000 = 3 then (if 0 < x121002 then (some (decide (x121002 < 64))) else (some false)) else (if x121000 = 6 then (some true) else (if x121000 = 9 then (if (x121003.length : Int) = 0 then (some true) else ((spec_progSame.f k x121003 (([0, 1114111] : List Int))).bind fun t126 => (some t126))) else (if x121000 = 10 then (if (x121003.length : Int) = 0 then (some true) else ((spec_progSame.f k x121003 (([0, 9, 11, 1114111] : List Int))).bind fun t130 => (some t130))) else (if x121000 = 8 then (if (x121003.length : Int) = 1 then ((spec_progRunes.f k x121000 x121001 x121002 x121003).bind fun t131 => (some t131)) else (if (x121003.length : Int) = 2 then (if 0 < (x121003.length : Int) then (if 1 < (x121003.length : Int) then (if (rd x121003 0) = (rd x121003 1) then ((spec_progRunes.f k x121000 x121001 x121002 x121003).bind fun t134 => (some t134)) else (some false)) else (none)) else (none)) else (some false))) else (if x121000 = 7 then (if x121002 = 1 then (if (x121003.length : Int) = 1 then ((spec_progRunes.f k x121000 x121001 x121002 x121003).bind fun t135 => (if t135 = true then (some true) else (if x121002 = 0 then ((spec_reClass.f k x121003).bind fun t136 => (some t136)) else (some false)))) else (if x121002 = 0 then ((spec_reClass.f k x121003).bind fun t137 => (some t137)) else (some false))) else (if x121002 = 0 then ((spec_reClass.f k x121003).bind fun t138 => (some t138)) else (some false))) else (some false))))))))) else (some false)))
def spec_progInst.f (k : Nat) (l0_0 : List (S52)) (a0_1 : Int) (a0_2 : Int) (a1_0 : Int) (a1_1 : Int) (a1_2 : Int) (l1_3 : List Int) : Option (Bool) := if a1_0 = 4 then (spec_progInst.j0 k true l0_0 a0_1 a0_2 a1_0 a1_1 a1_2 l1_3) else (spec_progInst.j0 k (a1_0 == 5) l0_0 a0_1 a0_2 a1_0 a1_1 a1_2 l1_3)
theorem spec_progInst.mono_l : ∀ k, (∀ y0 y1 y2 y3 y4 y5 y6 y7, LeO (spec_progInst.j0 k y0 y1 y2 y3 y4 y5 y6 y7) (spec_progInst.j0 (k + 1) y0 y1 y2 y3 y4 y5 y6 y7))
 | 0 => fun _ _ _ _ _ _ _ _ r h => by simp [spec_progInst.j0] at h
 | k + 1 => by
  have ih0 := spec_progInst.mono_l k
  ·intro y0 y1 y2 y3 y4 y5 y6 y7
   unfold spec_progInst.j0
   repeat' first
   | (with_reducible exact ih0 _ _ _ _ _ _ _ _)
   | (with_reducible exact spec_progRunes.mono _ _ _ _ _)
   | (with_reducible exact spec_progSame.mono _ _ _)
   | (with_reducible exact spec_reClass.mono _ _)
   | (with_reducible exact LeO.refl _)
   | (with_reducible exact LeO.none _)
   | (with_reducible refine LeO.ite ?_ ?_)
   | (with_reducible refine LeO.bind ?_ (fun _ => ?_))
   | exact ih0 _ _ _ _ _ _ _ _
   | exact spec_progRunes.mono _ _ _ _ _
   | exact spec_progSame.mono _ _ _
   | exact spec_reClass.mono _ _
   | exact LeO.none _
   | refine LeO.ite ?_ ?_
   | refine LeO.bind ?_ (fun _ => ?_)
theorem spec_progInst.mono : ∀ a0 a1 a2 a3 a4 a5 a6 k, LeO (spec_progInst.f k a0 a1 a2 a3 a4 a5 a6) (spec_progInst.f (k + 1) a0 a1 a2 a3 a4 a5 a6) := by
 intro a0 a1 a2 a3 a4 a5 a6 k
 have ih0 := spec_progInst.mono_l k
 unfold spec_progInst.f
 repeat' first
   | (with_reducible exact ih0 _ _ _ _ _ _ _ _)
   | (with_reducible exact spec_progRunes.mono _ _ _ _ _)
   | (with_reducible exact spec_progSame.mono _ _ _)
   | (with_reducible exact spec_reClass.mono _ _)
   | (with_reducible exact LeO.refl _)
   | (with_reducible exact LeO.none _)
   | (with_reducible refine LeO.ite ?_ ?_)
   | (with_reducible refine LeO.bind ?_ (fun _ => ?_))
   | exact ih0 _ _ _ _ _ _ _ _
   | exact spec_progRunes.mono _ _ _ _ _
   | exact spec_progSame.mono _ _ _
   | exact spec_reClass.mono _ _
   | exact LeO.none _
   | refine LeO.ite ?_ ?_
   | refine LeO.bind ?_ (fun _ => ?_)
def spec_progInst.T19 : Bool × List (List Nat × List Nat) := (true, [([], []), ([0], [0]), ([1], [1]), ([2], [2]), ([3], [3]), ([4], [4]), ([5, 4], [4, 5]), ([6, 4], [4, 6]), ([7, 4], [4, 7]), ([8, 4, 4], [4, 8]), ([9], [9]), ([10, 9], [9, 10]), ([11, 9], [9, 11]), ([12, 9], [9, 12]), ([9], [9]), ([14, 9], [9, 14]), ([15, 9], [9, 15]), ([16, 9], [9, 16]), ([13, 17, 9], [9, 13, 17]), ([9, 18, 4], [4, 9, 18]), ([4, 19], [4, 19]), ([20, 9], [20]), ([21], [21]), ([22, 21, 21], [21, 22]), ([21, 23], [21, 23]), ([24, 23, 0, 1, 2, 3, 4, 5, 6, 7, 8, 9, 10, 11, 12, 13, 14, 15, 16, 17, 18, 19, 20, 21, 22, 23, 24], [24])])
def spec_progInst.B19 : List Nat := [0, 1, 3, 7, 15, 31, 63, 127, 255, 511, 1023, 2047, 4095, 8191, 1023, 17407, 50175, 115711, 262143, 524287, 1048575, 2097151, 4194303, 8388607, 16777215, 33554431]
theorem spec_progInst.tab19 : rtab .any (opsOf Tryd.f20 19) = spec_progInst.T19 := by kernel_rfl
theorem spec_progInst.bits19 : waitsOk spec_progInst.T19.2 spec_progInst.B19 = true := by kernel_rfl
structure Bx (w W : World) (g h : Nat) (p i : Array Value) : Prop where
 bp : W.heap[g]? = some (.cells p 24 (0, 0))
 bi : W.heap[h]? = some (.cells i 52 (0, 0))
 bl : Below w.heap.size w W
theorem Bx.step {w W W' : World} {g h : Nat} {p i : Array Value} (b : Bx w W g h p i) (k : Below W.heap.size W W') : Bx w W' g h p i := ⟨blk_below b.bp k, blk_below b.bi k, below_step b.bl k⟩
theorem Bx.drewN {w W : World} {g h : Nat} {p i : Array Value} (b : Bx w W g h p i) (n : Nat) : Bx w (W.drewN n) g h p i := ⟨blk_drewN b.bp n, blk_drewN b.bi n, pw_below_drewN b.bl n⟩
theorem Bx.start (w : World) (p i : Array Value) : Bx w ((w.alloc (.cells p 24)).alloc (.cells i 52)) w.heap.size (w.heap.size + 1) p i := by
 have e1 : (w.alloc (.cells p 24)).heap.size = w.heap.size + 1 := by simp
 refine ⟨?_, ?_, below_alloc (below_alloc (Below.refl _ w) _) _⟩
 ·exact (Below.heap_alloc _ _ _ (by rw [e1]; omega)).trans (heap_alloc_new w _)
 ·have h := heap_alloc_new (w.alloc (.cells p 24)) (.cells i 52)
  rw [e1] at h
  exact h
theorem Bx.cells {w W : World} {g h : Nat} {p0 p1 p2 i0 i1 i2 i3 : Value} (b : Bx w W g h #[p0, p1, p2] #[i0, i1, i2, i3]) :
  (W.cell? ⟨g, 0, none⟩ = some p0 ∧ W.cell? ⟨g, 1, none⟩ = some p1 ∧ W.cell? ⟨g, 2, none⟩ = some p2) ∧ W.cell? ⟨h, 0, none⟩ = some i0 ∧ W.cell? ⟨h, 1, none⟩ = some i1 ∧ W.cell? ⟨h, 2, none⟩ = some i2 ∧ W.cell? ⟨h, 3, none⟩ = some i3 :=
 ⟨⟨(blk_cell b.bp 0).trans rfl, (blk_cell b.bp 1).trans rfl, (blk_cell b.bp 2).trans rfl⟩, (blk_cell b.bi 0).trans rfl, (blk_cell b.bi 1).trans rfl, (blk_cell b.bi 2).trans rfl, (blk_cell b.bi 3).trans rfl⟩
theorem bind_id {o : Option Bool} {r : Bool} (h : (o.bind fun t => some t) = some r) : o = some r := by
 cases o with
 | none => cases h
 | some t => exact h
theorem kd_lit {w : World} {g : Nat} {t : TypeId} {l : List Int} (hg : w.heap[g]? = some (.cells (l.map (Value.int .i32)).toArray t (0, 0))) (hl : l.length ≤ 100) : Kd.C (Kd.int .i32) w (some ⟨g, 0, none⟩) l.length l := by
 refine ⟨rfl, by omega, fun _ => ⟨_, rfl, fun j p hj => ⟨[.int .i32 p], rfl, rfl, fun i u hu => ?_⟩⟩⟩
 match i, hu with
 | 0, hu =>
  simp at hu
  subst hu
  have e : (⟨g, 0, none⟩ : Addr).add (j * 1 + 0) = ⟨g, j, none⟩ := by unfold Addr.add; split <;> simp_all
  show w.cell? ((⟨g, 0, none⟩ : Addr).add (j * 1 + 0)) = _
  rw [e, blk_cell hg j]
  simp [hj]
theorem progTo_some (l : List S52) (a b c : Int) : ∃ r, spec_progTo.f l a b c = some r := by unfold spec_progTo.f; split <;> exact ⟨_, rfl⟩
set_option maxHeartbeats 8000000 in
set_option maxRecDepth 100000 in
theorem spec_progInst.calls (k : Nat) (A0_0 : Option Addr) (c0_0 : Nat) (l0_0 : List (S52)) (a0_1 : Int) (a0_2 : Int) (a1_0 : Int) (a1_1 : Int) (a1_2 : Int) (A1_3 : Option Addr) (c1_3 : Nat) (l1_3 : List Int) (r : Bool) (w : World) (hr0_0 : Kd.C k52 w A0_0 l0_0.length l0_0) (hc0_0 : l0_0.length ≤ c0_0) (hr1_3 : Kd.C (Kd.int .i32) w A1_3 l1_3.length l1_3) (hc1_3 : l1_3.length ≤ c1_3) (h : spec_progInst.f k l0_0 a0_1 a0_2 a1_0 a1_1 a1_2 l1_3 = some r) :
  Calls Tryd.prog 20 #[.agg #[.slice A0_0 l0_0.length c0_0, .int .i64 a0_1, .int .i64 a0_2], .agg #[.int .i64 a1_0, .int .i64 a1_1, .int .i64 a1_2, .slice A1_3 l1_3.length c1_3]] w fun e w' => e = .returned (.bool r) ∧ Below w.heap.size w w' := by
 have hu24 := Tryd.underlying24
 have hu29 := Tryd.underlying52
 obtain ⟨k, rfl⟩ : ∃ j, k = j + 1 := by
  cases k with
  | zero => simp [spec_progInst.f, spec_progInst.j0] at h
  | succ j => exact ⟨j, rfl⟩
 have HR := Lib.hid hr0_0
 have HR3 := Lib.hid hr1_3
 have hl3 : l1_3.length ≤ 9223372036854775807 := hr1_3.2.1
 rw [spec_progInst.f, spec_progInst.j0, spec_progInst.j0] at h
 clear hr0_0 hr1_3
 go_enter Tryd.func20, Tryd.ntmps20
 go_upto_region 1 with (fail)
 have HX := Lib.hid (Bx.start w #[.slice A0_0 l0_0.length c0_0, .int .i64 a0_1, .int .i64 a0_2] #[.int .i64 a1_0, .int .i64 a1_1, .int .i64 a1_2, .slice A1_3 l1_3.length c1_3])
 obtain ⟨g, hg⟩ : ∃ g, g = w.heap.size := ⟨_, rfl⟩
 obtain ⟨g2, hg2⟩ : ∃ g2, g2 = w.heap.size + 1 := ⟨_, rfl⟩
 rw [← hg2] at HX ⊢
 rw [← hg] at HX ⊢
 generalize (w.alloc (.cells #[.slice A0_0 l0_0.length c0_0, .int .i64 a0_1, .int .i64 a0_2] 24)).alloc (.cells #[.int .i64 a1_0, .int .i64 a1_1, .int .i64 a1_2, .slice A1_3 l1_3.length c1_3] 52) = w1 at *
 clear hg hg2
 obtain ⟨⟨hp0, hp1, hp2⟩, hi0, hi1, hi2, hi3⟩ := HX.out.cells
 by_cases c4 : a1_0 = 4
 ·have HH := Lib.hid (show r = true by rw [if_pos c4, if_pos rfl] at h; exact (Option.some.inj h).symm)
  clear h
  subst c4
  go_wp2_with fail
  go_ret
  exact ⟨by rw [HH.out]; rfl, HX.out.bl⟩
 rw [if_neg c4] at h
 by_cases c5 : a1_0 = 5
 ·have HH := Lib.hid (show r = true by rw [show (a1_0 == 5) = true by rw [c5]; rfl, if_pos rfl] at h; exact (Option.some.inj h).symm)
  clear h
  subst c5
  go_wp2_with fail
  go_ret
  exact ⟨by rw [HH.out]; rfl, HX.out.bl⟩
 have e4 : (a1_0 == 4) = false := beq_eq_false_iff_ne.2 c4
 have e5 : (a1_0 == 5) = false := beq_eq_false_iff_ne.2 c5
 rw [e5, if_neg (by decide)] at h
 obtain ⟨b1, hb1⟩ := progTo_some l0_0 a0_1 a0_2 a1_1
 rw [hb1, Option.bind_some] at h
 have HH := Lib.hid h
 have HT := Lib.hid (spec_progTo.calls A0_0 c0_0 l0_0 a0_1 a0_2 a1_1 b1 w1 (Kd.C_below HR.out HX.out.bl) hc0_0 hb1)
 clear h hb1 c4 c5
 go_wp2_with fail
 refine HT.out.mono ?_
 rintro e w2 ⟨rfl, hb2⟩
 have HX2 := Lib.hid (HX.out.step hb2)
 clear hb2 HT HX hp0 hp1 hp2 hi0 hi1 hi2 hi3
 obtain ⟨⟨hp0, hp1, hp2⟩, hi0, hi1, hi2, hi3⟩ := HX2.out.cells
 cases b1 with
 | false =>
  have HE := Lib.hid (show r = false by have := HH.out; rw [if_neg (by decide)] at this; exact (Option.some.inj this).symm)
  go_wp2_with fail
  go_ret
  exact ⟨by rw [HE.out]; rfl, HX2.out.bl⟩
 | true =>
  have h := HH.out
  rw [if_pos rfl] at h
  clear HH
  go_upto_region 5 with (fail)
  by_cases c0 : a1_0 = 0
  ·subst c0
   obtain ⟨b2, hb3⟩ := progTo_some l0_0 a0_1 a0_2 a1_2
   rw [if_pos rfl, hb3, Option.bind_some] at h
   have HE := Lib.hid (Option.some.inj h)
   have HT := Lib.hid (spec_progTo.calls A0_0 c0_0 l0_0 a0_1 a0_2 a1_2 b2 w2 (Kd.C_below HR.out HX2.out.bl) hc0_0 hb3)
   clear h hb3
   go_wp2_with fail
   refine HT.out.mono ?_
   rintro e w3 ⟨rfl, hb3⟩
   go_wp2_with fail
   go_ret
   exact ⟨by rw [HE.out]; rfl, (HX2.out.step hb3).bl⟩
  rw [if_neg c0] at h
  by_cases c2 : a1_0 = 2
  ·subst c2
   rw [if_pos rfl] at h
   by_cases d : 2 ≤ a1_2
   ·have d1 : decide (2 ≤ a1_2) = true := decide_eq_true d
    rw [if_pos d] at h
    have HE := Lib.hid (Option.some.inj h)
    clear h d
    go_wp2_with fail
    all_goals
     go_ret
     exact ⟨by rw [← HE.out]; simp [*], HX2.out.bl⟩
   ·have d1 : decide (2 ≤ a1_2) = false := decide_eq_false d
    rw [if_neg d] at h
    have HE := Lib.hid (Option.some.inj h)
    clear h d
    go_wp2_with fail
    go_ret
    exact ⟨by rw [← HE.out]; rfl, HX2.out.bl⟩
  rw [if_neg c2] at h
  by_cases c3 : a1_0 = 3
  ·subst c3
   rw [if_pos rfl] at h
   by_cases d : 0 < a1_2
   ·have d1 : decide (0 < a1_2) = true := decide_eq_true d
    rw [if_pos d] at h
    have HE := Lib.hid (Option.some.inj h)
    clear h d
    go_wp2_with fail
    all_goals
     go_ret
     exact ⟨by rw [← HE.out]; simp [*], HX2.out.bl⟩
   ·have d1 : decide (0 < a1_2) = false := decide_eq_false d
    rw [if_neg d] at h
    have HE := Lib.hid (Option.some.inj h)
    clear h d
    go_wp2_with fail
    go_ret
    exact ⟨by rw [← HE.out]; rfl, HX2.out.bl⟩
  rw [if_neg c3] at h
  by_cases c6 : a1_0 = 6
  ·subst c6
   rw [if_pos rfl] at h
   have HE := Lib.hid (Option.some.inj h)
   clear h
   go_wp2_with fail
   go_ret
   exact ⟨by rw [← HE.out]; rfl, HX2.out.bl⟩
  rw [if_neg c6] at h
  by_cases c9 : a1_0 = 9
  ·subst c9
   rw [if_pos rfl] at h
   by_cases d : (l1_3.length : Int) = 0
   ·have d1 : ((l1_3.length : Int) == 0) = true := beq_iff_eq.2 d
    rw [if_pos d] at h
    have HE := Lib.hid (Option.some.inj h)
    clear h d
    go_wp2_with fail
    go_ret
    exact ⟨by rw [← HE.out]; rfl, HX2.out.bl⟩
   ·have d1 : ((l1_3.length : Int) == 0) = false := beq_eq_false_iff_ne.2 d
    rw [if_neg d] at h
    have hb := heap_alloc_new w2 (.cells (([0, 1114111] : List Int).map (Value.int .i32)).toArray 21)
    have hal : Below w2.heap.size w2 (w2.alloc (.cells (([0, 1114111] : List Int).map (Value.int .i32)).toArray 21)) := below_alloc (Below.refl _ w2) _
    have HT := Lib.hid (spec_progSame.calls k A1_3 c1_3 l1_3 _ 2 [0, 1114111] r _ (Kd.C_below HR3.out (below_step HX2.out.bl hal)) hc1_3 (kd_lit hb (by decide)) (Nat.le_refl _) (bind_id h))
    have HA := Lib.hid (HX2.out.step hal)
    clear h d hb hal
    go_wp2_with fail
    refine HT.out.mono ?_
    rintro e w3 ⟨rfl, hd⟩
    go_wp2_with fail
    go_ret
    exact ⟨rfl, (HA.out.step hd.below).bl⟩
  rw [if_neg c9] at h
  by_cases c10 : a1_0 = 10
  ·subst c10
   rw [if_pos rfl] at h
   by_cases d : (l1_3.length : Int) = 0
   ·have d1 : ((l1_3.length : Int) == 0) = true := beq_iff_eq.2 d
    rw [if_pos d] at h
    have HE := Lib.hid (Option.some.inj h)
    clear h d
    go_wp2_with fail
    go_ret
    exact ⟨by rw [← HE.out]; rfl, HX2.out.bl⟩
   ·have d1 : ((l1_3.length : Int) == 0) = false := beq_eq_false_iff_ne.2 d
    rw [if_neg d] at h
    have hb := heap_alloc_new w2 (.cells (([0, 9, 11, 1114111] : List Int).map (Value.int .i32)).toArray 21)
    have hal : Below w2.heap.size w2 (w2.alloc (.cells (([0, 9, 11, 1114111] : List Int).map (Value.int .i32)).toArray 21)) := below_alloc (Below.refl _ w2) _
    have HT := Lib.hid (spec_progSame.calls k A1_3 c1_3 l1_3 _ 4 [0, 9, 11, 1114111] r _ (Kd.C_below HR3.out (below_step HX2.out.bl hal)) hc1_3 (kd_lit hb (by decide)) (Nat.le_refl _) (bind_id h))
    have HA := Lib.hid (HX2.out.step hal)
    clear h d hb hal
    go_wp2_with fail
    refine HT.out.mono ?_
    rintro e w3 ⟨rfl, hd⟩
    go_wp2_with fail
    go_ret
    exact ⟨rfl, (HA.out.step hd.below).bl⟩
  rw [if_neg c10] at h
  by_cases c8 : a1_0 = 8
  ·subst c8
   rw [if_pos rfl] at h
   have hprt : ∀ W, Below w.heap.size w W → spec_progRunes.f k 8 a1_1 a1_2 l1_3 = some r → Calls Tryd.prog 33 #[.agg #[.int .i64 8, .int .i64 a1_1, .int .i64 a1_2, .slice A1_3 l1_3.length c1_3]] W fun e w' => e = .returned (.bool r) ∧ Below W.heap.size W w' := fun W hW hq => spec_progRunes.calls k 8 a1_1 a1_2 A1_3 c1_3 l1_3 r W (Kd.C_below HR3.out hW) hc1_3 hq
   have HX5 : Hid (Bx w w2.drew g g2 #[.slice A0_0 l0_0.length c0_0, .int .i64 a0_1, .int .i64 a0_2] #[.int .i64 8, .int .i64 a1_1, .int .i64 a1_2, .slice A1_3 l1_3.length c1_3]) := Lib.hid (HX2.out.drewN 1)
   by_cases d : (l1_3.length : Int) = 1
   ·have d1 : ((l1_3.length : Int) == 1) = true := beq_iff_eq.2 d
    rw [if_pos d] at h
    have HT := Lib.hid (fun W hW => hprt W hW (bind_id h))
    have hS6 : ∀ (W : World) {W0 : World}, Bx w W g g2 #[.slice A0_0 l0_0.length c0_0, .int .i64 a0_1, .int .i64 a0_2] #[.int .i64 8, .int .i64 a1_1, .int .i64 a1_2, .slice A1_3 l1_3.length c1_3] → Below W0.heap.size W0 W → W.cell? ⟨g2, 0, none⟩ = some (.int .i64 8) ∧ W.cell? ⟨g2, 1, none⟩ = some (.int .i64 a1_1) ∧ W.cell? ⟨g2, 2, none⟩ = some (.int .i64 a1_2) ∧ W.cell? ⟨g2, 3, none⟩ = some (.slice A1_3 l1_3.length c1_3) := fun W _ b _ => b.cells.2
    clear h d hprt
    go_upto_region 19 with (fail)
    refine start_ (n := 26) (S := fun w' => w'.cell? ⟨g2, 0, none⟩ = some (.int .i64 8) ∧ w'.cell? ⟨g2, 1, none⟩ = some (.int .i64 a1_1) ∧ w'.cell? ⟨g2, 2, none⟩ = some (.int .i64 a1_2) ∧ w'.cell? ⟨g2, 3, none⟩ = some (.slice A1_3 l1_3.length c1_3)) (ds := []) #[false, false, false, false, false, false, false, false, false, false, false, false, false, false, false, false, false, false, false, false, false, false, false, false, false, false] (by kernel_rfl) rfl rfl HX5.out.cells.2 (fun hHeld => ?_); refine with_tabW spec_progInst.tab19 spec_progInst.bits19 (fun HT_ HW_ => ?_)
    generalize w2.drew = w5 at HX5 hHeld ⊢
    refine pure_ (i := 0) (N := some 76) (v := ?_) (a' := ?_) #[true, false, false, false, false, false, false, false, false, false, false, false, false, false, false, false, false, false, false, false, false, false, false, false, false, false] rfl rfl (any_of HT_.out (by kernel_rfl)) (fun _ _ _ h => h) (Or.inl ⟨by rfl, ?_⟩) ?_ ?_
    rotate_left
    ·(intro w'; go_simp; with_reducible rfl)
    rotate_left
    ·(simp only [Act.put, List.setIfInBounds_toArray, List.set_cons_zero, List.set_cons_succ, i64_w, i32_w]; rfl)
    refine take_ (i := 1) (N := some 77) (v := ?_) (a' := ?_) #[true, true, false, false, false, false, false, false, false, false, false, false, false, false, false, false, false, false, false, false, false, false, false, false, false, false] rfl rfl (take_ofW HT_.out HW_.out (by kernel_rfl)) (fun _ _ _ h => h) (Or.inl ⟨by rfl, ?_⟩) hHeld ?_ ?_
    rotate_left
    ·(rintro w' ⟨s0, s1, s2, s3⟩; go_simp; with_reducible rfl)
    rotate_left
    ·(simp only [Act.put, List.setIfInBounds_toArray, List.set_cons_zero, List.set_cons_succ, i64_w, i32_w]; rfl)
    refine pure_ (i := 2) (N := some 78) (v := ?_) (a' := ?_) #[true, true, true, false, false, false, false, false, false, false, false, false, false, false, false, false, false, false, false, false, false, false, false, false, false, false] rfl rfl (any_of HT_.out (by kernel_rfl)) (fun _ _ _ h => h) (Or.inl ⟨by rfl, ?_⟩) ?_ ?_
    rotate_left
    ·(intro w'; go_simp; with_reducible rfl)
    rotate_left
    ·(simp only [Act.put, List.setIfInBounds_toArray, List.set_cons_zero, List.set_cons_succ, i64_w, i32_w]; rfl)
    refine pure_ (i := 3) (N := some 79) (v := ?_) (a' := ?_) #[true, true, true, true, false, false, false, false, false, false, false, false, false, false, false, false, false, false, false, false, false, false, false, false, false, false] rfl rfl (any_of HT_.out (by kernel_rfl)) (fun _ _ _ h => h) (Or.inl ⟨by rfl, ?_⟩) ?_ ?_
    rotate_left
    ·(intro w'; go_simp; with_reducible rfl)
    rotate_left
    ·(simp only [Act.put, List.setIfInBounds_toArray, List.set_cons_zero, List.set_cons_succ, i64_w, i32_w]; rfl)
    refine pure_ (i := 4) (N := some 80) (v := ?_) (a' := ?_) #[true, true, true, true, true, false, false, false, false, false, false, false, false, false, false, false, false, false, false, false, false, false, false, false, false, false] rfl rfl (any_of HT_.out (by kernel_rfl)) (fun _ _ _ h => h) (Or.inl ⟨by rfl, ?_⟩) ?_ ?_
    rotate_left
    ·(intro w'; go_simp; with_reducible rfl)
    rotate_left
    ·(simp only [Act.put, List.setIfInBounds_toArray, List.set_cons_zero, List.set_cons_succ, i64_w, i32_w]; rfl)
    refine pure_ (i := 5) (N := some 81) (v := undef) (a' := ?_) #[true, true, true, true, true, true, false, false, false, false, false, false, false, false, false, false, false, false, false, false, false, false, false, false, false, false] rfl rfl (any_of HT_.out (by kernel_rfl)) (fun _ _ _ h => h) (Or.inr ⟨by rfl, rfl⟩) ?_ ?_
    rotate_left
    ·(simp only [Act.put, List.setIfInBounds_toArray, List.set_cons_zero, List.set_cons_succ, i64_w, i32_w]; rfl)
    refine pure_ (i := 6) (N := some 82) (v := undef) (a' := ?_) #[true, true, true, true, true, true, true, false, false, false, false, false, false, false, false, false, false, false, false, false, false, false, false, false, false, false] rfl rfl (any_of HT_.out (by kernel_rfl)) (fun _ _ _ h => h) (Or.inr ⟨by rfl, rfl⟩) ?_ ?_
    rotate_left
    ·(simp only [Act.put, List.setIfInBounds_toArray, List.set_cons_zero, List.set_cons_succ, i64_w, i32_w]; rfl)
    refine pure_ (i := 7) (N := some 83) (v := undef) (a' := ?_) #[true, true, true, true, true, true, true, true, false, false, false, false, false, false, false, false, false, false, false, false, false, false, false, false, false, false] rfl rfl (any_of HT_.out (by kernel_rfl)) (fun _ _ _ h => h) (Or.inr ⟨by rfl, rfl⟩) ?_ ?_
    rotate_left
    ·(simp only [Act.put, List.setIfInBounds_toArray, List.set_cons_zero, List.set_cons_succ, i64_w, i32_w]; rfl)
    refine pure_ (i := 8) (N := some 84) (v := undef) (a' := ?_) #[true, true, true, true, true, true, true, true, true, false, false, false, false, false, false, false, false, false, false, false, false, false, false, false, false, false] rfl rfl (any_of HT_.out (by kernel_rfl)) (fun _ _ _ h => h) (Or.inr ⟨by rfl, rfl⟩) ?_ ?_
    rotate_left
    ·(simp only [Act.put, List.setIfInBounds_toArray, List.set_cons_zero, List.set_cons_succ, i64_w, i32_w]; rfl)
    refine pure_ (i := 9) (N := some 85) (v := undef) (a' := ?_) #[true, true, true, true, true, true, true, true, true, true, false, false, false, false, false, false, false, false, false, false, false, false, false, false, false, false] rfl rfl (any_of HT_.out (by kernel_rfl)) (fun _ _ _ h => h) (Or.inr ⟨by rfl, rfl⟩) ?_ ?_
    rotate_left
    ·(simp only [Act.put, List.setIfInBounds_toArray, List.set_cons_zero, List.set_cons_succ, i64_w, i32_w]; rfl)
    refine pure_ (i := 10) (N := some 86) (v := undef) (a' := ?_) #[true, true, true, true, true, true, true, true, true, true, true, false, false, false, false, false, false, false, false, false, false, false, false, false, false, false] rfl rfl (any_of HT_.out (by kernel_rfl)) (fun _ _ _ h => h) (Or.inr ⟨by rfl, rfl⟩) ?_ ?_
    rotate_left
    ·(simp only [Act.put, List.setIfInBounds_toArray, List.set_cons_zero, List.set_cons_succ, i64_w, i32_w]; rfl)
    refine pure_ (i := 11) (N := some 87) (v := undef) (a' := ?_) #[true, true, true, true, true, true, true, true, true, true, true, true, false, false, false, false, false, false, false, false, false, false, false, false, false, false] rfl rfl (any_of HT_.out (by kernel_rfl)) (fun _ _ _ h => h) (Or.inr ⟨by rfl, rfl⟩) ?_ ?_
    rotate_left
    ·(simp only [Act.put, List.setIfInBounds_toArray, List.set_cons_zero, List.set_cons_succ, i64_w, i32_w]; rfl)
    refine pure_ (i := 12) (N := some 88) (v := undef) (a' := ?_) #[true, true, true, true, true, true, true, true, true, true, true, true, true, false, false, false, false, false, false, false, false, false, false, false, false, false] rfl rfl (any_of HT_.out (by kernel_rfl)) (fun _ _ _ h => h) (Or.inr ⟨by rfl, rfl⟩) ?_ ?_
    rotate_left
    ·(simp only [Act.put, List.setIfInBounds_toArray, List.set_cons_zero, List.set_cons_succ, i64_w, i32_w]; rfl)
    refine pure_ (i := 13) (N := some 89) (v := undef) (a' := ?_) #[true, true, true, true, true, true, true, true, true, true, true, true, true, true, false, false, false, false, false, false, false, false, false, false, false, false] rfl rfl (any_of HT_.out (by kernel_rfl)) (fun _ _ _ h => h) (Or.inr ⟨by rfl, rfl⟩) ?_ ?_
    rotate_left
    ·(simp only [Act.put, List.setIfInBounds_toArray, List.set_cons_zero, List.set_cons_succ, i64_w, i32_w]; rfl)
    refine pure_ (i := 14) (N := some 90) (v := undef) (a' := ?_) #[true, true, true, true, true, true, true, true, true, true, true, true, true, true, true, false, false, false, false, false, false, false, false, false, false, false] rfl rfl (any_of HT_.out (by kernel_rfl)) (fun _ _ _ h => h) (Or.inr ⟨by rfl, rfl⟩) ?_ ?_
    rotate_left
    ·(simp only [Act.put, List.setIfInBounds_toArray, List.set_cons_zero, List.set_cons_succ, i64_w, i32_w]; rfl)
    refine pure_ (i := 15) (N := some 91) (v := undef) (a' := ?_) #[true, true, true, true, true, true, true, true, true, true, true, true, true, true, true, true, false, false, false, false, false, false, false, false, false, false] rfl rfl (any_of HT_.out (by kernel_rfl)) (fun _ _ _ h => h) (Or.inr ⟨by rfl, rfl⟩) ?_ ?_
    rotate_left
    ·(simp only [Act.put, List.setIfInBounds_toArray, List.set_cons_zero, List.set_cons_succ, i64_w, i32_w]; rfl)
    refine pure_ (i := 16) (N := some 92) (v := undef) (a' := ?_) #[true, true, true, true, true, true, true, true, true, true, true, true, true, true, true, true, true, false, false, false, false, false, false, false, false, false] rfl rfl (any_of HT_.out (by kernel_rfl)) (fun _ _ _ h => h) (Or.inr ⟨by rfl, rfl⟩) ?_ ?_
    rotate_left
    ·(simp only [Act.put, List.setIfInBounds_toArray, List.set_cons_zero, List.set_cons_succ, i64_w, i32_w]; rfl)
    refine pure_ (i := 17) (N := some 93) (v := undef) (a' := ?_) #[true, true, true, true, true, true, true, true, true, true, true, true, true, true, true, true, true, true, false, false, false, false, false, false, false, false] rfl rfl (any_of HT_.out (by kernel_rfl)) (fun _ _ _ h => h) (Or.inr ⟨by rfl, rfl⟩) ?_ ?_
    rotate_left
    ·(simp only [Act.put, List.setIfInBounds_toArray, List.set_cons_zero, List.set_cons_succ, i64_w, i32_w]; rfl)
    refine pure_ (i := 18) (N := some 94) (v := undef) (a' := ?_) #[true, true, true, true, true, true, true, true, true, true, true, true, true, true, true, true, true, true, true, false, false, false, false, false, false, false] rfl rfl (any_of HT_.out (by kernel_rfl)) (fun _ _ _ h => h) (Or.inr ⟨by rfl, rfl⟩) ?_ ?_
    rotate_left
    ·(simp only [Act.put, List.setIfInBounds_toArray, List.set_cons_zero, List.set_cons_succ, i64_w, i32_w]; rfl)
    refine pure_ (i := 19) (N := some 95) (v := undef) (a' := ?_) #[true, true, true, true, true, true, true, true, true, true, true, true, true, true, true, true, true, true, true, true, false, false, false, false, false, false] rfl rfl (any_of HT_.out (by kernel_rfl)) (fun _ _ _ h => h) (Or.inr ⟨by rfl, rfl⟩) ?_ ?_
    rotate_left
    ·(simp only [Act.put, List.setIfInBounds_toArray, List.set_cons_zero, List.set_cons_succ, i64_w, i32_w]; rfl)
    refine pure_ (i := 20) (N := some 96) (v := ?_) (a' := ?_) #[true, true, true, true, true, true, true, true, true, true, true, true, true, true, true, true, true, true, true, true, true, false, false, false, false, false] rfl rfl (any_of HT_.out (by kernel_rfl)) (fun _ _ _ h => h) (Or.inl ⟨by rfl, ?_⟩) ?_ ?_
    rotate_left
    ·(intro w'; go_simp; with_reducible rfl)
    rotate_left
    ·(simp only [Act.put, List.setIfInBounds_toArray, List.set_cons_zero, List.set_cons_succ, i64_w, i32_w]; rfl)
    refine pure_ (i := 21) (N := some 97) (v := ?_) (a' := ?_) #[true, true, true, true, true, true, true, true, true, true, true, true, true, true, true, true, true, true, true, true, true, true, false, false, false, false] rfl rfl (any_of HT_.out (by kernel_rfl)) (fun _ _ _ h => h) (Or.inl ⟨by rfl, ?_⟩) ?_ ?_
    rotate_left
    ·(intro w'; go_simp; with_reducible rfl)
    rotate_left
    ·(simp only [Act.put, List.setIfInBounds_toArray, List.set_cons_zero, List.set_cons_succ, i64_w, i32_w]; rfl)
    refine take_ (i := 22) (N := some 98) (v := ?_) (a' := ?_) #[true, true, true, true, true, true, true, true, true, true, true, true, true, true, true, true, true, true, true, true, true, true, true, false, false, false] rfl rfl (take_ofW HT_.out HW_.out (by kernel_rfl)) (fun _ _ _ h => h) (Or.inl ⟨by rfl, ?_⟩) hHeld ?_ ?_
    rotate_left
    ·(rintro w' ⟨s0, s1, s2, s3⟩; go_simp; with_reducible rfl)
    rotate_left
    ·(simp only [Act.put, List.setIfInBounds_toArray, List.set_cons_zero, List.set_cons_succ, i64_w, i32_w]; rfl)
    refine one_ (i := 23) (N := some 99) #[true, true, true, true, true, true, true, true, true, true, true, true, true, true, true, true, true, true, true, true, true, true, true, true, false, false] rfl rfl (one_of HT_.out (by kernel_rfl)) (by decide) (fun K hK => ?_)
    refine goes_ Tryd.func33 (by kernel_rfl) rfl #[.agg #[.int .i64 8, .int .i64 a1_1, .int .i64 a1_2, .slice A1_3 l1_3.length c1_3]] (by rfl) rfl rfl (by (try simp only [List.map_toArray, List.map_cons, List.map_nil]); first | done | rfl) ?_
    refine (HT.out _ HX5.out.bl).mono ?_
    rintro e w6 ⟨rfl, hb⟩
    have HX6 := Lib.hid (HX5.out.step hb)
    refine ⟨_, rfl, ?_⟩
    refine hK.out _ _ (hS6 _ HX6.out hb) (fun hHeld => ?_)
    clear hK K
    refine norm_ (a' := ?_) ?_ ?_
    rotate_left
    ·(show Act.put _ (some 99) _ = _; simp only [Act.put, List.setIfInBounds_toArray, List.set_cons_zero, List.set_cons_succ, i64_w, i32_w]; rfl)
    refine pure_ (i := 24) (N := some 100) (v := ?_) (a' := ?_) #[true, true, true, true, true, true, true, true, true, true, true, true, true, true, true, true, true, true, true, true, true, true, true, true, true, false] rfl rfl (any_of HT_.out (by kernel_rfl)) (fun _ _ _ h => h) (Or.inl ⟨by rfl, ?_⟩) ?_ ?_
    rotate_left
    ·(intro w'; go_simp; with_reducible rfl)
    rotate_left
    ·(simp only [Act.put, List.setIfInBounds_toArray, List.set_cons_zero, List.set_cons_succ, i64_w, i32_w]; rfl)
    refine pure_ (i := 25) (N := some 4) (v := ?_) (a' := ?_) #[true, true, true, true, true, true, true, true, true, true, true, true, true, true, true, true, true, true, true, true, true, true, true, true, true, true] rfl rfl (any_of HT_.out (by kernel_rfl)) (fun _ _ _ h => h) (Or.inl ⟨by rfl, ?_⟩) ?_ ?_
    rotate_left
    ·(intro w'; go_simp; with_reducible rfl)
    rotate_left
    ·(simp only [Act.put, List.setIfInBounds_toArray, List.set_cons_zero, List.set_cons_succ, i64_w, i32_w]; rfl)
    refine done_ (done_of HT_.out (by kernel_rfl)) ?_
    go_wp2_with fail
    go_ret
    exact ⟨rfl, HX6.out.bl⟩
   ·have d1 : ((l1_3.length : Int) == 1) = false := beq_eq_false_iff_ne.2 d
    rw [if_neg d] at h
    clear d
    by_cases t : (l1_3.length : Int) = 2
    ·have t1 : ((l1_3.length : Int) == 2) = true := beq_iff_eq.2 t
     rw [if_pos t, if_pos (show 0 < (l1_3.length : Int) by omega), if_pos (show 1 < (l1_3.length : Int) by omega)] at h
     obtain ⟨ad, e, hx0⟩ := Kd.at_int HR3.out 0 (by omega) (by omega)
     obtain ⟨ad', e', hx1⟩ := Kd.at_int HR3.out 1 (by omega) (by omega)
     subst e
     obtain rfl : ad = ad' := by injection e'
     have n0 : (0 : Int) ≤ 0 := by omega
     have n1 : (0 : Int) ≤ 1 := by omega
     have m0 : 0 < l1_3.length := by omega
     have m1 : 1 < l1_3.length := by omega
     have o0 : (0 : Int) < (l1_3.length : Int) := by omega
     have o1 : (1 : Int) < (l1_3.length : Int) := by omega
     (try rw [show ((0 : Int)).toNat = 0 from rfl] at hx0)
     (try rw [show 0 * 1 = 0 from rfl] at hx0)
     (try rw [Addr.add_zero'] at hx0)
     (try rw [show ((1 : Int)).toNat = 1 from rfl] at hx1)
     (try rw [show 1 * 1 = 1 from rfl] at hx1)
     (try simp only [Nat.reduceMul, Nat.reduceEqDiff, Go.Addr.add, ↓reduceIte] at hx1)
     by_cases q : rd l1_3 0 = rd l1_3 1
     ·have q1 : (rd l1_3 0 == rd l1_3 1) = true := beq_iff_eq.2 q
      rw [if_pos q] at h
      have HT := Lib.hid (fun W hW => hprt W hW (bind_id h))
      have hS6 : ∀ (W : World), Bx w W g g2 #[.slice A0_0 l0_0.length c0_0, .int .i64 a0_1, .int .i64 a0_2] #[.int .i64 8, .int .i64 a1_1, .int .i64 a1_2, .slice (some ad) l1_3.length c1_3] → (W.cell? ⟨g2, 0, none⟩ = some (.int .i64 8) ∧ W.cell? ⟨g2, 1, none⟩ = some (.int .i64 a1_1) ∧ W.cell? ⟨g2, 2, none⟩ = some (.int .i64 a1_2) ∧ W.cell? ⟨g2, 3, none⟩ = some (.slice (some ad) l1_3.length c1_3) ∧ W.cell? ad = some (.int .i32 (rd l1_3 0)) ∧ W.cell? ⟨ad.block, ad.off + 1, none⟩ = some (.int .i32 (rd l1_3 1))) := fun W b => ⟨b.cells.2.1, b.cells.2.2.1, b.cells.2.2.2.1, b.cells.2.2.2.2, (b.bl.cell (World.block_lt_of_cell? w _ hx0)).trans hx0, (b.bl.cell (World.block_lt_of_cell? w _ hx1)).trans hx1⟩
      clear h q hprt t hp0 hp1 hp2 hi0 hi1 hi2 hi3
      obtain ⟨⟨hp0, hp1, hp2⟩, hi0, hi1, hi2, hi3⟩ := HX2.out.cells
      go_upto_region 19 with (fail)
      refine start_ (n := 26) (S := fun w' => w'.cell? ⟨g2, 0, none⟩ = some (.int .i64 8) ∧ w'.cell? ⟨g2, 1, none⟩ = some (.int .i64 a1_1) ∧ w'.cell? ⟨g2, 2, none⟩ = some (.int .i64 a1_2) ∧ w'.cell? ⟨g2, 3, none⟩ = some (.slice (some ad) l1_3.length c1_3) ∧ w'.cell? ad = some (.int .i32 (rd l1_3 0)) ∧ w'.cell? ⟨ad.block, ad.off + 1, none⟩ = some (.int .i32 (rd l1_3 1))) (ds := []) #[false, false, false, false, false, false, false, false, false, false, false, false, false, false, false, false, false, false, false, false, false, false, false, false, false, false] (by kernel_rfl) rfl rfl (hS6 _ HX5.out) (fun hHeld => ?_); refine with_tabW spec_progInst.tab19 spec_progInst.bits19 (fun HT_ HW_ => ?_)
      generalize w2.drew = w5 at HX5 hHeld ⊢
      refine pure_ (i := 0) (N := some 76) (v := ?_) (a' := ?_) #[true, false, false, false, false, false, false, false, false, false, false, false, false, false, false, false, false, false, false, false, false, false, false, false, false, false] rfl rfl (any_of HT_.out (by kernel_rfl)) (fun _ _ _ h => h) (Or.inl ⟨by rfl, ?_⟩) ?_ ?_
      rotate_left
      ·(intro w'; go_simp; with_reducible rfl)
      rotate_left
      ·(simp only [Act.put, List.setIfInBounds_toArray, List.set_cons_zero, List.set_cons_succ, i64_w, i32_w]; rfl)
      refine take_ (i := 1) (N := some 77) (v := ?_) (a' := ?_) #[true, true, false, false, false, false, false, false, false, false, false, false, false, false, false, false, false, false, false, false, false, false, false, false, false, false] rfl rfl (take_ofW HT_.out HW_.out (by kernel_rfl)) (fun _ _ _ h => h) (Or.inl ⟨by rfl, ?_⟩) hHeld ?_ ?_
      rotate_left
      ·(rintro w' ⟨s0, s1, s2, s3, s4, s5⟩; go_simp; with_reducible rfl)
      rotate_left
      ·(simp only [Act.put, List.setIfInBounds_toArray, List.set_cons_zero, List.set_cons_succ, i64_w, i32_w]; rfl)
      refine pure_ (i := 2) (N := some 78) (v := ?_) (a' := ?_) #[true, true, true, false, false, false, false, false, false, false, false, false, false, false, false, false, false, false, false, false, false, false, false, false, false, false] rfl rfl (any_of HT_.out (by kernel_rfl)) (fun _ _ _ h => h) (Or.inl ⟨by rfl, ?_⟩) ?_ ?_
      rotate_left
      ·(intro w'; go_simp; with_reducible rfl)
      rotate_left
      ·(simp only [Act.put, List.setIfInBounds_toArray, List.set_cons_zero, List.set_cons_succ, i64_w, i32_w]; rfl)
      refine pure_ (i := 3) (N := some 79) (v := ?_) (a' := ?_) #[true, true, true, true, false, false, false, false, false, false, false, false, false, false, false, false, false, false, false, false, false, false, false, false, false, false] rfl rfl (any_of HT_.out (by kernel_rfl)) (fun _ _ _ h => h) (Or.inl ⟨by rfl, ?_⟩) ?_ ?_
      rotate_left
      ·(intro w'; go_simp; with_reducible rfl)
      rotate_left
      ·(simp only [Act.put, List.setIfInBounds_toArray, List.set_cons_zero, List.set_cons_succ, i64_w, i32_w]; rfl)
      refine pure_ (i := 4) (N := some 80) (v := ?_) (a' := ?_) #[true, true, true, true, true, false, false, false, false, false, false, false, false, false, false, false, false, false, false, false, false, false, false, false, false, false] rfl rfl (any_of HT_.out (by kernel_rfl)) (fun _ _ _ h => h) (Or.inl ⟨by rfl, ?_⟩) ?_ ?_
      rotate_left
      ·(intro w'; go_simp; with_reducible rfl)
      rotate_left
      ·(simp only [Act.put, List.setIfInBounds_toArray, List.set_cons_zero, List.set_cons_succ, i64_w, i32_w]; rfl)
      refine pure_ (i := 5) (N := some 81) (v := ?_) (a' := ?_) #[true, true, true, true, true, true, false, false, false, false, false, false, false, false, false, false, false, false, false, false, false, false, false, false, false, false] rfl rfl (any_of HT_.out (by kernel_rfl)) (fun _ _ _ h => h) (Or.inl ⟨by rfl, ?_⟩) ?_ ?_
      rotate_left
      ·(intro w'; go_simp; with_reducible rfl)
      rotate_left
      ·(simp only [Act.put, List.setIfInBounds_toArray, List.set_cons_zero, List.set_cons_succ, i64_w, i32_w]; rfl)
      refine take_ (i := 6) (N := some 82) (v := ?_) (a' := ?_) #[true, true, true, true, true, true, true, false, false, false, false, false, false, false, false, false, false, false, false, false, false, false, false, false, false, false] rfl rfl (take_ofW HT_.out HW_.out (by kernel_rfl)) (fun _ _ _ h => h) (Or.inl ⟨by rfl, ?_⟩) hHeld ?_ ?_
      rotate_left
      ·(rintro w' ⟨s0, s1, s2, s3, s4, s5⟩; go_simp; with_reducible rfl)
      rotate_left
      ·(simp only [Act.put, List.setIfInBounds_toArray, List.set_cons_zero, List.set_cons_succ, i64_w, i32_w]; rfl)
      refine pure_ (i := 7) (N := some 83) (v := ?_) (a' := ?_) #[true, true, true, true, true, true, true, true, false, false, false, false, false, false, false, false, false, false, false, false, false, false, false, false, false, false] rfl rfl (any_of HT_.out (by kernel_rfl)) (fun _ _ _ h => h) (Or.inl ⟨by rfl, ?_⟩) ?_ ?_
      rotate_left
      ·(intro w'; go_simp; with_reducible rfl)
      rotate_left
      ·(simp only [Act.put, List.setIfInBounds_toArray, List.set_cons_zero, List.set_cons_succ, i64_w, i32_w]; rfl)
      refine pure_ (i := 8) (N := some 84) (v := ?_) (a' := ?_) #[true, true, true, true, true, true, true, true, true, false, false, false, false, false, false, false, false, false, false, false, false, false, false, false, false, false] rfl rfl (any_of HT_.out (by kernel_rfl)) (fun _ _ _ h => h) (Or.inl ⟨by rfl, ?_⟩) ?_ ?_
      rotate_left
      ·(intro w'; go_simp; with_reducible rfl)
      rotate_left
      ·(simp only [Act.put, List.setIfInBounds_toArray, List.set_cons_zero, List.set_cons_succ, i64_w, i32_w]; rfl)
      refine pure_ (i := 9) (N := some 85) (v := ?_) (a' := ?_) #[true, true, true, true, true, true, true, true, true, true, false, false, false, false, false, false, false, false, false, false, false, false, false, false, false, false] rfl rfl (any_of HT_.out (by kernel_rfl)) (fun _ _ _ h => h) (Or.inl ⟨by rfl, ?_⟩) ?_ ?_
      rotate_left
      ·(intro w'; go_simp; with_reducible rfl)
      rotate_left
      ·(simp only [Act.put, List.setIfInBounds_toArray, List.set_cons_zero, List.set_cons_succ, i64_w, i32_w]; rfl)
      refine pure_ (i := 10) (N := some 86) (v := ?_) (a' := ?_) #[true, true, true, true, true, true, true, true, true, true, true, false, false, false, false, false, false, false, false, false, false, false, false, false, false, false] rfl rfl (any_of HT_.out (by kernel_rfl)) (fun _ _ _ h => h) (Or.inl ⟨by rfl, ?_⟩) ?_ ?_
      rotate_left
      ·(intro w'; go_simp; with_reducible rfl)
      rotate_left
      ·(simp only [Act.put, List.setIfInBounds_toArray, List.set_cons_zero, List.set_cons_succ, i64_w, i32_w]; rfl)
      refine pure_ (i := 14) (N := some 90) (v := ?_) (a' := ?_) #[true, true, true, true, true, true, true, true, true, true, true, false, false, false, true, false, false, false, false, false, false, false, false, false, false, false] rfl rfl (any_of HT_.out (by kernel_rfl)) (fun _ _ _ h => h) (Or.inl ⟨by rfl, ?_⟩) ?_ ?_
      rotate_left
      ·(intro w'; go_simp; with_reducible rfl)
      rotate_left
      ·(simp only [Act.put, List.setIfInBounds_toArray, List.set_cons_zero, List.set_cons_succ, i64_w, i32_w]; rfl)
      refine take_ (i := 11) (N := some 87) (v := ?_) (a' := ?_) #[true, true, true, true, true, true, true, true, true, true, true, true, false, false, true, false, false, false, false, false, false, false, false, false, false, false] rfl rfl (take_ofW HT_.out HW_.out (by kernel_rfl)) (fun _ _ _ h => h) (Or.inl ⟨by rfl, ?_⟩) hHeld ?_ ?_
      rotate_left
      ·(rintro w' ⟨s0, s1, s2, s3, s4, s5⟩; go_simp; with_reducible rfl)
      rotate_left
      ·(simp only [Act.put, List.setIfInBounds_toArray, List.set_cons_zero, List.set_cons_succ, i64_w, i32_w]; rfl)
      refine pure_ (i := 12) (N := some 88) (v := ?_) (a' := ?_) #[true, true, true, true, true, true, true, true, true, true, true, true, true, false, true, false, false, false, false, false, false, false, false, false, false, false] rfl rfl (any_of HT_.out (by kernel_rfl)) (fun _ _ _ h => h) (Or.inl ⟨by rfl, ?_⟩) ?_ ?_
      rotate_left
      ·(intro w'; go_simp; with_reducible rfl)
      rotate_left
      ·(simp only [Act.put, List.setIfInBounds_toArray, List.set_cons_zero, List.set_cons_succ, i64_w, i32_w]; rfl)
      refine take_ (i := 13) (N := some 89) (v := ?_) (a' := ?_) #[true, true, true, true, true, true, true, true, true, true, true, true, true, true, true, false, false, false, false, false, false, false, false, false, false, false] rfl rfl (take_ofW HT_.out HW_.out (by kernel_rfl)) (fun _ _ _ h => h) (Or.inl ⟨by rfl, ?_⟩) hHeld ?_ ?_
      rotate_left
      ·(rintro w' ⟨s0, s1, s2, s3, s4, s5⟩; go_simp; with_reducible rfl)
      rotate_left
      ·(simp only [Act.put, List.setIfInBounds_toArray, List.set_cons_zero, List.set_cons_succ, i64_w, i32_w]; rfl)
      refine take_ (i := 15) (N := some 91) (v := ?_) (a' := ?_) #[true, true, true, true, true, true, true, true, true, true, true, true, true, true, true, true, false, false, false, false, false, false, false, false, false, false] rfl rfl (take_ofW HT_.out HW_.out (by kernel_rfl)) (fun _ _ _ h => h) (Or.inl ⟨by rfl, ?_⟩) hHeld ?_ ?_
      rotate_left
      ·(rintro w' ⟨s0, s1, s2, s3, s4, s5⟩; go_simp; with_reducible rfl)
      rotate_left
      ·(simp only [Act.put, List.setIfInBounds_toArray, List.set_cons_zero, List.set_cons_succ, i64_w, i32_w]; rfl)
      refine pure_ (i := 16) (N := some 92) (v := ?_) (a' := ?_) #[true, true, true, true, true, true, true, true, true, true, true, true, true, true, true, true, true, false, false, false, false, false, false, false, false, false] rfl rfl (any_of HT_.out (by kernel_rfl)) (fun _ _ _ h => h) (Or.inl ⟨by rfl, ?_⟩) ?_ ?_
      rotate_left
      ·(intro w'; go_simp; with_reducible rfl)
      rotate_left
      ·(simp only [Act.put, List.setIfInBounds_toArray, List.set_cons_zero, List.set_cons_succ, i64_w, i32_w]; rfl)
      refine take_ (i := 17) (N := some 93) (v := ?_) (a' := ?_) #[true, true, true, true, true, true, true, true, true, true, true, true, true, true, true, true, true, true, false, false, false, false, false, false, false, false] rfl rfl (take_ofW HT_.out HW_.out (by kernel_rfl)) (fun _ _ _ h => h) (Or.inl ⟨by rfl, ?_⟩) hHeld ?_ ?_
      rotate_left
      ·(rintro w' ⟨s0, s1, s2, s3, s4, s5⟩; go_simp; with_reducible rfl)
      rotate_left
      ·(simp only [Act.put, List.setIfInBounds_toArray, List.set_cons_zero, List.set_cons_succ, i64_w, i32_w]; rfl)
      refine pure_ (i := 18) (N := some 94) (v := ?_) (a' := ?_) #[true, true, true, true, true, true, true, true, true, true, true, true, true, true, true, true, true, true, true, false, false, false, false, false, false, false] rfl rfl (any_of HT_.out (by kernel_rfl)) (fun _ _ _ h => h) (Or.inl ⟨by rfl, ?_⟩) ?_ ?_
      rotate_left
      ·(intro w'; go_simp; with_reducible rfl)
      rotate_left
      ·(simp only [Act.put, List.setIfInBounds_toArray, List.set_cons_zero, List.set_cons_succ, i64_w, i32_w]; rfl)
      refine pure_ (i := 19) (N := some 95) (v := ?_) (a' := ?_) #[true, true, true, true, true, true, true, true, true, true, true, true, true, true, true, true, true, true, true, true, false, false, false, false, false, false] rfl rfl (any_of HT_.out (by kernel_rfl)) (fun _ _ _ h => h) (Or.inl ⟨by rfl, ?_⟩) ?_ ?_
      rotate_left
      ·(intro w'; go_simp; with_reducible rfl)
      rotate_left
      ·(simp only [Act.put, List.setIfInBounds_toArray, List.set_cons_zero, List.set_cons_succ, i64_w, i32_w]; rfl)
      refine pure_ (i := 20) (N := some 96) (v := ?_) (a' := ?_) #[true, true, true, true, true, true, true, true, true, true, true, true, true, true, true, true, true, true, true, true, true, false, false, false, false, false] rfl rfl (any_of HT_.out (by kernel_rfl)) (fun _ _ _ h => h) (Or.inl ⟨by rfl, ?_⟩) ?_ ?_
      rotate_left
      ·(intro w'; go_simp; with_reducible rfl)
      rotate_left
      ·(simp only [Act.put, List.setIfInBounds_toArray, List.set_cons_zero, List.set_cons_succ, i64_w, i32_w]; rfl)
      refine pure_ (i := 21) (N := some 97) (v := ?_) (a' := ?_) #[true, true, true, true, true, true, true, true, true, true, true, true, true, true, true, true, true, true, true, true, true, true, false, false, false, false] rfl rfl (any_of HT_.out (by kernel_rfl)) (fun _ _ _ h => h) (Or.inl ⟨by rfl, ?_⟩) ?_ ?_
      rotate_left
      ·(intro w'; go_simp; with_reducible rfl)
      rotate_left
      ·(simp only [Act.put, List.setIfInBounds_toArray, List.set_cons_zero, List.set_cons_succ, i64_w, i32_w]; rfl)
      refine take_ (i := 22) (N := some 98) (v := ?_) (a' := ?_) #[true, true, true, true, true, true, true, true, true, true, true, true, true, true, true, true, true, true, true, true, true, true, true, false, false, false] rfl rfl (take_ofW HT_.out HW_.out (by kernel_rfl)) (fun _ _ _ h => h) (Or.inl ⟨by rfl, ?_⟩) hHeld ?_ ?_
      rotate_left
      ·(rintro w' ⟨s0, s1, s2, s3, s4, s5⟩; go_simp; with_reducible rfl)
      rotate_left
      ·(simp only [Act.put, List.setIfInBounds_toArray, List.set_cons_zero, List.set_cons_succ, i64_w, i32_w]; rfl)
      refine one_ (i := 23) (N := some 99) #[true, true, true, true, true, true, true, true, true, true, true, true, true, true, true, true, true, true, true, true, true, true, true, true, false, false] rfl rfl (one_of HT_.out (by kernel_rfl)) (by decide) (fun K hK => ?_)
      refine goes_ Tryd.func33 (by kernel_rfl) rfl #[.agg #[.int .i64 8, .int .i64 a1_1, .int .i64 a1_2, .slice (some ad) l1_3.length c1_3]] (by rfl) rfl rfl (by (try simp only [List.map_toArray, List.map_cons, List.map_nil]); first | done | rfl) ?_
      refine (HT.out _ HX5.out.bl).mono ?_
      rintro e w6 ⟨rfl, hb⟩
      have HX6 := Lib.hid (HX5.out.step hb)
      refine ⟨_, rfl, ?_⟩
      refine hK.out _ _ (hS6 _ HX6.out) (fun hHeld => ?_)
      clear hK K
      refine norm_ (a' := ?_) ?_ ?_
      rotate_left
      ·(show Act.put _ (some 99) _ = _; simp only [Act.put, List.setIfInBounds_toArray, List.set_cons_zero, List.set_cons_succ, i64_w, i32_w]; rfl)
      refine pure_ (i := 24) (N := some 100) (v := ?_) (a' := ?_) #[true, true, true, true, true, true, true, true, true, true, true, true, true, true, true, true, true, true, true, true, true, true, true, true, true, false] rfl rfl (any_of HT_.out (by kernel_rfl)) (fun _ _ _ h => h) (Or.inl ⟨by rfl, ?_⟩) ?_ ?_
      rotate_left
      ·(intro w'; go_simp; with_reducible rfl)
      rotate_left
      ·(simp only [Act.put, List.setIfInBounds_toArray, List.set_cons_zero, List.set_cons_succ, i64_w, i32_w]; rfl)
      refine pure_ (i := 25) (N := some 4) (v := ?_) (a' := ?_) #[true, true, true, true, true, true, true, true, true, true, true, true, true, true, true, true, true, true, true, true, true, true, true, true, true, true] rfl rfl (any_of HT_.out (by kernel_rfl)) (fun _ _ _ h => h) (Or.inl ⟨by rfl, ?_⟩) ?_ ?_
      rotate_left
      ·(intro w'; go_simp; with_reducible rfl)
      rotate_left
      ·(simp only [Act.put, List.setIfInBounds_toArray, List.set_cons_zero, List.set_cons_succ, i64_w, i32_w]; rfl)
      refine done_ (done_of HT_.out (by kernel_rfl)) ?_
      go_wp2_with fail
      go_ret
      exact ⟨rfl, HX6.out.bl⟩
     ·have q1 : (rd l1_3 0 == rd l1_3 1) = false := beq_eq_false_iff_ne.2 q
      rw [if_neg q] at h
      have HE := Lib.hid (Option.some.inj h)
      have hy0 := (HX2.out.bl.cell (World.block_lt_of_cell? w _ hx0)).trans hx0
      have hy1 := (HX2.out.bl.cell (World.block_lt_of_cell? w _ hx1)).trans hx1
      clear h q hprt t hx0 hx1
      go_upto_region 19 with (fail)
      go_quiet (fail)
      go_wp2_with fail
      go_ret
      exact ⟨by rw [← HE.out]; rfl, pw_below_drewN HX2.out.bl _⟩
    ·have t1 : ((l1_3.length : Int) == 2) = false := beq_eq_false_iff_ne.2 t
     rw [if_neg t] at h
     have HE := Lib.hid (Option.some.inj h)
     clear h t hprt
     go_upto_region 19 with (fail)
     go_quiet (fail)
     go_wp2_with fail
     go_ret
     exact ⟨by rw [← HE.out]; rfl, pw_below_drewN HX2.out.bl _⟩
  rw [if_neg c8] at h
  by_cases c7 : a1_0 = 7
  ·subst c7
   rw [if_pos rfl] at h
   by_cases d : a1_2 = 1
   ·have d1 : (a1_2 == 1) = true := beq_iff_eq.2 d
    have d2 : (a1_2 == 0) = false := beq_eq_false_iff_ne.2 (by omega)
    rw [if_pos d, if_neg (show ¬ a1_2 = 0 by omega)] at h
    by_cases q : (l1_3.length : Int) = 1
    ·have q1 : ((l1_3.length : Int) == 1) = true := beq_iff_eq.2 q
     rw [if_pos q] at h
     have h2 : spec_progRunes.f k 7 a1_1 a1_2 l1_3 = some r := by
      cases hq : spec_progRunes.f k 7 a1_1 a1_2 l1_3 with
      | none => rw [hq] at h; cases h
      | some t =>
       rw [hq, Option.bind_some] at h
       cases t with
       | true => exact h
       | false => exact h
     have HT := Lib.hid (spec_progRunes.calls k 7 a1_1 a1_2 A1_3 c1_3 l1_3 r w2 (Kd.C_below HR3.out HX2.out.bl) hc1_3 h2)
     clear h h2 q d
     go_wp2_with fail
     refine HT.out.mono ?_
     rintro e w3 ⟨rfl, hb3⟩
     have HX3 := Lib.hid (HX2.out.step hb3)
     clear hb3 hp0 hp1 hp2 hi0 hi1 hi2 hi3
     obtain ⟨⟨hp0, hp1, hp2⟩, hi0, hi1, hi2, hi3⟩ := HX3.out.cells
     cases r with
     | true =>
      go_wp2_with fail
      go_ret
      exact ⟨rfl, HX3.out.bl⟩
     | false =>
      go_wp2_with fail
      go_ret
      exact ⟨rfl, HX3.out.bl⟩
    ·have q1 : ((l1_3.length : Int) == 1) = false := beq_eq_false_iff_ne.2 q
     rw [if_neg q] at h
     have HE := Lib.hid (Option.some.inj h)
     clear h q d
     go_wp2_with fail
     go_ret
     exact ⟨by rw [← HE.out]; rfl, HX2.out.bl⟩
   ·have d1 : (a1_2 == 1) = false := beq_eq_false_iff_ne.2 d
    rw [if_neg d] at h
    by_cases z : a1_2 = 0
    ·have z1 : (a1_2 == 0) = true := beq_iff_eq.2 z
     rw [if_pos z] at h
     have HT := Lib.hid (spec_reClass.calls k A1_3 c1_3 l1_3 r w2 (Kd.C_below HR3.out HX2.out.bl) hc1_3 (bind_id h))
     clear h z d
     go_wp2_with fail
     refine HT.out.mono ?_
     rintro e w3 ⟨rfl, hd⟩
     go_wp2_with fail
     go_ret
     exact ⟨rfl, (HX2.out.step hd.below).bl⟩
    ·have z1 : (a1_2 == 0) = false := beq_eq_false_iff_ne.2 z
     rw [if_neg z] at h
     have HE := Lib.hid (Option.some.inj h)
     clear h z d
     go_wp2_with fail
     go_ret
     exact ⟨by rw [← HE.out]; rfl, HX2.out.bl⟩
  rw [if_neg c7] at h
  have HE := Lib.hid (Option.some.inj h)
  have f0 : (a1_0 == 0) = false := beq_eq_false_iff_ne.2 c0
  have f2 : (a1_0 == 2) = false := beq_eq_false_iff_ne.2 c2
  have f3 : (a1_0 == 3) = false := beq_eq_false_iff_ne.2 c3
  have f6 : (a1_0 == 6) = false := beq_eq_false_iff_ne.2 c6
  have f9 : (a1_0 == 9) = false := beq_eq_false_iff_ne.2 c9
  have f10 : (a1_0 == 10) = false := beq_eq_false_iff_ne.2 c10
  have f8 : (a1_0 == 8) = false := beq_eq_false_iff_ne.2 c8
  have f7 : (a1_0 == 7) = false := beq_eq_false_iff_ne.2 c7
  clear h c0 c2 c3 c6 c9 c10 c8 c7
  go_wp2_with fail
  go_ret
  exact ⟨by rw [← HE.out]; rfl, HX2.out.bl⟩
end Go.Proofs.YtmccgfjhmbioeaaDoor.PFnPgThreads
