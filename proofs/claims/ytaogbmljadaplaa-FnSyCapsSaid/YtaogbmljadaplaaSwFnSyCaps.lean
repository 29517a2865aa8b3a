/- The walk of spec.SyWalk, over any function that keeps its state in memory of its own. -/
import Derived.Test.YtaogbmljadaplaaMdFnSyCaps
namespace Go.Proofs.Ytaogbmljadaplaa.TrFnSyCaps
open Go.RowKit Go.Proofs.Ytaogbmljadaplaa.PFnSyCaps Go.Proofs.YtaogbmljadaplaaW.PrintWords Go.Proofs.YtaogbmljadaplaaW.PrintLast Go.Proofs.YtaogbmljadaplaaW.PrintMore

section
variable {σ : Type} (step : T → σ → σ)
mutual
def wk : T → σ → σ
  | ⟨a, b, c, d, e, f, g, l⟩, st => wkL l (step ⟨a, b, c, d, e, f, g, l⟩ st)
def wkL : List T → σ → σ
  | [], st => st
  | t :: r, st => wkL r (wk t st)
end
theorem wk_eq (t : T) (st : σ) : wk step t st = wkL step t.f7 (step t st) := by cases t; rw [wk]
theorem wkL_take (l : List T) (st : σ) (k : Nat) (h : k < l.length) : wkL step (l.take (k + 1)) st = wk step l[k] (wkL step (l.take k) st) := by
  induction l generalizing k st with
  | nil => simp at h
  | cons a l ih =>
    cases k with
    | zero => simp [wkL]
    | succ k =>
      simp only [List.take_succ_cons, wkL, List.getElem_cons_succ]
      exact ih _ k (by simpa using h)

/-- What each node of a tree is. -/
inductive AllT (p : T → Prop) : T → Prop
  | mk (t : T) (h : p t) (hs : ∀ s ∈ t.f7, AllT p s) : AllT p t

variable (I : σ → World → Prop) (p : T → Prop) (fn : Nat) (cv : Value) (R : Nat) (B0 : Nat)

abbrev StepSaid : Prop := ∀ (t : T) (st : σ) (W0 w : World) (cs : List Value), p t → W0.heap.size = B0 → k40.K W0 t cs → Below W0.heap.size W0 w → I st w →
    Calls Try.prog fn #[.agg cs.toArray, cv] w fun e w' => e = .returned (.tuple #[]) ∧ I (step t st) w' ∧ w.grownBy w' (some R)

abbrev WalkSaid (t : T) : Prop := AllT p t → ∀ (st : σ) (W0 w : World) (cs : List Value), W0.heap.size = B0 → k40.K W0 t cs → Below W0.heap.size W0 w → I st w →
    Calls Try.prog 42 #[.agg cs.toArray, .func (.func fn) #[] #[cv]] w fun e w' => e = .returned (.tuple #[]) ∧ I (wk step t st) w' ∧ w.grownBy w' (some R)

set_option maxRecDepth 100000 in
set_option maxHeartbeats 4000000 in
theorem walk_calls (hfn : fn = 43 ∨ fn = 44) (hR : B0 ≤ R) (hRl : ∀ st w, I st w → R < w.heap.size) (hI : ∀ st w w', I st w → Below w.heap.size w w' → I st w') (hstep : StepSaid step I p fn cv R B0) (t : T) : WalkSaid step I p fn cv R B0 t := by
  refine tree_ind (p := WalkSaid step I p fn cv R B0) ?_ t
  intro t ih hA st W0 w cs hW0 hK hW hi
  obtain ⟨A2, c2, A7, c7, rfl, l2, g2, l7, g7⟩ := k40_open hK
  obtain ⟨_, hp, hps⟩ := hA
  have hu40 := Try.underlying40
  have HIH := Lib.hid ih
  have HK := Lib.hid (k40_mk W0 t l2 g2 l7 g7)
  have HG7 := Lib.hid (And.intro l7 g7)
  have HW := Lib.hid hW
  have HI0 := Lib.hid hi
  have HP := Lib.hid hp
  have HPS := Lib.hid hps
  have HSt := Lib.hid hstep
  have HIB := Lib.hid hI
  have HRl := Lib.hid hRl
  have HW0 := Lib.hid hW0
  have hRW : W0.heap.size ≤ R := by omega
  clear ih l2 g2 l7 g7 hW hK hp hps hi hstep hI hRl hW0
  rcases hfn with rfl | rfl
  all_goals
    go_enter Try.func42, Try.ntmps42
    go_wp2_with (first | ((with_reducible refine gate_dst (N := 2) rfl ?_); refine box_event ?hg (N := 2) ?hd (cs := #[.int .i64 t.f0, .int .i64 t.f1, .slice A2 t.f2.length c2, .int .i64 t.f3, .int .i64 t.f4, .int .i64 t.f5, .string t.f6, .slice A7 t.f7.length c7]) (t := 40) ?hr ?_; (case hd => rfl); (case hg => rfl); (case hr => first | (go_simp; done) | (go_simp; rfl)); intro gb hg w1 hbox hb; have BK := Lib.hid hbox; have HB1 := Lib.hid hb; have GE : w.heap.size ≤ gb := (by omega); clear hg hbox hb; obtain ⟨hz0, hz1, hz2, hz3, hz4, hz5, hz6, hz7⟩ := blk8 BK.out))
    clear hz0 hz1 hz2 hz3 hz4 hz5 hz6 hz7
    refine (HSt.out t st W0 w1 _ HP.out HW0.out HK.out (HW.out.trans (HB1.out.mono HW.out.size)) (HIB.out _ _ _ HI0.out HB1.out)).mono ?_
    rintro e w2 ⟨rfl, hi2, hg2⟩
    have HI2 := Lib.hid hi2
    have BK2 := Lib.hid ((hg2.block gb (blk_lt BK.out) (fun e => by cases e; have := HRl.out _ _ HI0.out; omega)).trans BK.out)
    have HG2 := Lib.hid (grown_trans (grown_of_below HB1.out (some R)) hg2)
    clear hi2 hg2 BK
    have HBW : Hid (∀ w', w.grownBy w' (some R) → Below W0.heap.size W0 w') := Lib.hid fun _ hg => HW.out.grown hg HW.out.size (fun k hk => by cases hk; omega)
    obtain ⟨hz0, hz1, hz2, hz3, hz4, hz5, hz6, hz7⟩ := blk8 BK2.out
    have hf7 : t.f7.length ≤ 9223372036854775807 := HG7.out.2.2.1
    go_wp2_with fail
    clear hz0 hz1 hz2 hz3 hz4 hz5 hz6 hz7
    go_loopg [12] t.f7.length (fun gk s12 wr => ∃ (k : Nat), Hid (gk + k = t.f7.length ∧ I (wkL step (t.f7.take k) (step t st)) wr ∧ w.grownBy wr (some R)) ∧ k ≤ t.f7.length ∧ s12 = .int .i64 k)
    case atStart => exact ⟨0, ⟨by omega, by rw [List.take_zero, wkL]; exact HI2.out, HG2.out⟩, Nat.zero_le _, rfl⟩
    case round =>
      obtain ⟨k, HI, hk, rfl⟩ := hrel
      by_cases hlt : k < t.f7.length
      · obtain ⟨ad, A2', c2', A7', c7', e, hx0, hx1, hx2, hx3, hx4, hx5, hx6, hx7, hK'⟩ := sub_at HG7.out.2 (HBW.out _ HI.out.2.2) k hlt
        cases e
        have HKK := Lib.hid hK'
        clear hK'
        go_wp2_with (first | ((with_reducible refine gate_dst (N := 5) rfl ?_); refine box_event ?hg (N := 5) ?hd (cs := #[.int .i64 0, .int .i64 0, .slice none 0 0, .int .i64 0, .int .i64 0, .int .i64 0, .string (⟨#[]⟩ : ByteArray), .slice none 0 0]) (t := 40) ?hr ?_; (case hd => rfl); (case hg => rfl); (case hr => first | (go_simp; done) | (go_simp; rfl)); intro gc hg w4 hbox hb; have BC := Lib.hid hbox; have HB4 := Lib.hid hb; have GC : wr.heap.size ≤ gc := (by omega); clear hg hbox hb; obtain ⟨hz0, hz1, hz2, hz3, hz4, hz5, hz6, hz7⟩ := blk8 BC.out; have hq0 := blk_frozen BC.out 0; have hq1 := blk_frozen BC.out 1; have hq2 := blk_frozen BC.out 2; have hq3 := blk_frozen BC.out 3; have hq4 := blk_frozen BC.out 4; have hq5 := blk_frozen BC.out 5; have hq6 := blk_frozen BC.out 6; have hq7 := blk_frozen BC.out 7))
        clear hz0 hz1 hz2 hz3 hz4 hz5 hz6 hz7 hq0 hq1 hq2 hq3 hq4 hq5 hq6 hq7 hx0 hx1 hx2 hx3 hx4 hx5 hx6 hx7
        have HB5 := Lib.hid (set8_below HB4.out GC (.int .i64 t.f7[k].f0) (.int .i64 t.f7[k].f1) (.slice A2' t.f7[k].f2.length c2') (.int .i64 t.f7[k].f3) (.int .i64 t.f7[k].f4) (.int .i64 t.f7[k].f5) (.string t.f7[k].f6) (.slice A7' t.f7[k].f7.length c7'))
        generalize hw5 : set8 w4 gc (.int .i64 t.f7[k].f0) (.int .i64 t.f7[k].f1) (.slice A2' t.f7[k].f2.length c2') (.int .i64 t.f7[k].f3) (.int .i64 t.f7[k].f4) (.int .i64 t.f7[k].f5) (.string t.f7[k].f6) (.slice A7' t.f7[k].f7.length c7') = w5 at *
        simp only [set8] at hw5
        rw [hw5]
        clear hw5
        have HG5 := Lib.hid (grown_trans HI.out.2.2 (grown_of_below HB5.out (some R)))
        refine (HIH.out t.f7[k] (List.getElem_mem hlt) (HPS.out _ (List.getElem_mem hlt)) _ W0 w5 _ HW0.out HKK.out (HBW.out _ HG5.out) (HIB.out _ _ _ HI.out.2.1 HB5.out)).mono ?_
        rintro e w6 ⟨rfl, hi6, hg6⟩
        have HI6 := Lib.hid hi6
        have HG6 := Lib.hid (grown_trans HG5.out hg6)
        clear hi6 hg6 HB5 HB4 BC
        go_wp2_with fail
        go_roundg (gk - 1)
        case measure => have := HI.out.1; omega
        case rel => exact ⟨k + 1, ⟨by have := HI.out.1; omega, by rw [wkL_take step t.f7 (step t st) k hlt]; exact HI6.out, HG6.out⟩, by omega, by go_num⟩
      · have hke : k = t.f7.length := by omega
        subst hke
        go_wp2_with fail
        go_end0
        exact ⟨rfl, by rw [wk_eq]; have := HI.out.2.1; rwa [List.take_length] at this, HI.out.2.2⟩
end
end Go.Proofs.Ytaogbmljadaplaa.TrFnSyCaps
