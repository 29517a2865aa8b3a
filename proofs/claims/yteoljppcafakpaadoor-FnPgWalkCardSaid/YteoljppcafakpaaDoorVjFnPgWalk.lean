import Derived.Test.YteoljppcafakpaaDoorViFnPgWalk
import Derived.Test.YteoljppcafakpaaDoorVhFnPgWalk
namespace Go.Proofs.YteoljppcafakpaaDoor.PgFnPgWalk
open Go.RowKit Go.Proofs.YteoljppcafakpaaDoor.EvN Go.Proofs.YteoljppcafakpaaDoor.Row Go.Proofs.YteoljppcafakpaaDoor.PFnPgWalk Go.Proofs.YteoljppcafakpaaDoorW.PrintWords Go.Proofs.YteoljppcafakpaaDoorW.PrintLast Go.Proofs.YteoljppcafakpaaDoorW.PrintMore
set_option linter.unusedSimpArgs false
set_option linter.unusedVariables false
def mNew (rb p : Nat) : Nat → Value
  | 0 => .pointer (some ⟨rb, 0, none⟩)
  | 1 => .pointer (some ⟨p, 0, none⟩)
  | 7 => .bool false
  | 10 => .string ⟨#[]⟩
  | 11 => .nilIface
  | 12 => .bool false
  | 13 => .int .i64 0
  | _ => .slice none 0 0
theorem get_way1 {w wa : World} {mb rb p nc : Nat} (hma : wa.heap[mb]? = some (mach (mNew rb p))) (hba : Below w.heap.size w wa) (hmb : w.heap.size ≤ mb) :
    ∃ mcb, ((wa.alloc (.cells (Array.replicate nc (.int .i64 0)) 3)).setCell ⟨mb, 8, none⟩ (.slice (some ⟨wa.heap.size, 0, none⟩) nc nc)).heap[mb]? = some (mach (up (mNew rb p) 8 (.slice (some ⟨mcb, 0, none⟩) nc nc))) ∧
      ((wa.alloc (.cells (Array.replicate nc (.int .i64 0)) 3)).setCell ⟨mb, 8, none⟩ (.slice (some ⟨wa.heap.size, 0, none⟩) nc nc)).heap[mcb]? = some (.cells ((List.replicate nc 0).map (Value.int .i64)).toArray 3 (0, 0)) ∧ w.heap.size ≤ mcb ∧
      Below w.heap.size w ((wa.alloc (.cells (Array.replicate nc (.int .i64 0)) 3)).setCell ⟨mb, 8, none⟩ (.slice (some ⟨wa.heap.size, 0, none⟩) nc nc)) := by
  have hl := blk_lt hma
  have hs := hba.size
  refine ⟨wa.heap.size, mach_set (blk_alloc hma _) 8 (by omega) _, ?_, hs, below_set (below_alloc hba _) hmb⟩
  refine (Below.heap_setCell _ _ _ _ (by show wa.heap.size ≠ mb; omega)).trans ((heap_alloc_new wa _).trans ?_)
  simp
def Q2 (w w' : World) (mb qo z : Nat) (mc : Nat → Value) (w0 : World) : Prop :=
  ∃ sp de, w'.heap[mb]? = some (mach (up (up mc qo (.slice (some ⟨sp, 0, none⟩) z z)) (qo + 1) (.slice (some ⟨de, 0, none⟩) 0 z))) ∧ w'.heap[sp]? = some (.cells (madeCells #[.int .u32 0] z) 54 (0, 0)) ∧ w'.heap[de]? = some (.cells (madeCells #[.int .u32 0, .pointer none] (z * 2)) 158 (0, 0)) ∧
    w0.heap.size ≤ sp ∧ w0.heap.size ≤ de ∧ Fr (fun i => i = mb) w0 w' ∧ Below w.heap.size w w'
theorem q2_way {w wr : World} {mb qo q1 : Nat} {mc : Nat → Value} {X Y : Array Value} {tx ty : TypeId} {a b : Value} (hm : wr.heap[mb]? = some (mach mc)) (hq : qo + 1 < 14) (h1 : q1 = qo + 1) (hb : Below w.heap.size w wr) (hl : w.heap.size ≤ mb) :
    ((((wr.setCell ⟨mb, qo, none⟩ a).setCell ⟨mb, q1, none⟩ b).alloc (.cells X tx)).alloc (.cells Y ty)).drew.heap[mb]? = some (mach (up (up mc qo a) (qo + 1) b)) ∧ ((((wr.setCell ⟨mb, qo, none⟩ a).setCell ⟨mb, q1, none⟩ b).alloc (.cells X tx)).alloc (.cells Y ty)).drew.heap[wr.heap.size]? = some (.cells X tx (0, 0)) ∧ ((((wr.setCell ⟨mb, qo, none⟩ a).setCell ⟨mb, q1, none⟩ b).alloc (.cells X tx)).alloc (.cells Y ty)).drew.heap[wr.heap.size + 1]? = some (.cells Y ty (0, 0)) ∧
      Fr (fun i => i = mb) wr ((((wr.setCell ⟨mb, qo, none⟩ a).setCell ⟨mb, q1, none⟩ b).alloc (.cells X tx)).alloc (.cells Y ty)).drew ∧ Below w.heap.size w ((((wr.setCell ⟨mb, qo, none⟩ a).setCell ⟨mb, q1, none⟩ b).alloc (.cells X tx)).alloc (.cells Y ty)).drew := by
  subst h1
  have h1 := mach_set (mach_set hm qo (by omega) a) (qo + 1) (by omega) b
  have hs : ((wr.setCell ⟨mb, qo, none⟩ a).setCell ⟨mb, qo + 1, none⟩ b).heap.size = wr.heap.size := by simp [World.setCell]
  have hf : Fr (fun i => i = mb) wr ((wr.setCell ⟨mb, qo, none⟩ a).setCell ⟨mb, qo + 1, none⟩ b) := ((Fr.refl (fun i => i = mb) wr).set _ rfl).set _ rfl
  have hb2 : Below w.heap.size w ((wr.setCell ⟨mb, qo, none⟩ a).setCell ⟨mb, qo + 1, none⟩ b) := below_set (below_set hb hl) hl
  generalize (wr.setCell ⟨mb, qo, none⟩ a).setCell ⟨mb, qo + 1, none⟩ b = W1 at *
  have h2 := heap_alloc_new W1 (.cells X tx)
  have h3 := heap_alloc_new (W1.alloc (.cells X tx)) (.cells Y ty)
  rw [hs] at h2
  rw [show (W1.alloc (.cells X tx)).heap.size = wr.heap.size + 1 by simp [hs]] at h3
  exact ⟨blk_drew (blk_alloc (blk_alloc h1 _) _), blk_drew (blk_alloc h2 _), blk_drew h3, ((hf.alloc _).alloc _).drewN 1, below_drew (below_alloc (below_alloc hb2 _) _)⟩
theorem q2_w1 {w wr : World} {mb qo q1 z : Nat} {mc : Nat → Value} (hm : wr.heap[mb]? = some (mach mc)) (hq : qo + 1 < 14) (h1 : q1 = qo + 1) (hb : Below w.heap.size w wr) (hl : w.heap.size ≤ mb) :
    Q2 w ((((wr.setCell ⟨mb, qo, none⟩ (.slice (some ⟨wr.heap.size, 0, none⟩) z z)).setCell ⟨mb, q1, none⟩ (.slice (some ⟨wr.heap.size + 1, 0, none⟩) 0 z)).alloc (.cells (madeCells #[.int .u32 0] z) 54)).alloc (.cells (madeCells #[.int .u32 0, .pointer none] (z * 2)) 158)).drew mb qo z mc wr := by
  obtain ⟨a1, a2, a3, a4, a5⟩ := q2_way (X := madeCells #[.int .u32 0] z) (Y := madeCells #[.int .u32 0, .pointer none] (z * 2)) (tx := 54) (ty := 158) (a := .slice (some ⟨wr.heap.size, 0, none⟩) z z) (b := .slice (some ⟨wr.heap.size + 1, 0, none⟩) 0 z) hm hq h1 hb hl
  exact ⟨_, _, a1, a2, a3, Nat.le_refl _, Nat.le_succ _, a4, a5⟩
theorem q2_w2 {w wr : World} {mb qo q1 z : Nat} {mc : Nat → Value} (hm : wr.heap[mb]? = some (mach mc)) (hq : qo + 1 < 14) (h1 : q1 = qo + 1) (hb : Below w.heap.size w wr) (hl : w.heap.size ≤ mb) :
    Q2 w ((((wr.setCell ⟨mb, qo, none⟩ (.slice (some ⟨wr.heap.size + 1, 0, none⟩) z z)).setCell ⟨mb, q1, none⟩ (.slice (some ⟨wr.heap.size, 0, none⟩) 0 z)).alloc (.cells (madeCells #[.int .u32 0, .pointer none] (z * 2)) 158)).alloc (.cells (madeCells #[.int .u32 0] z) 54)).drew mb qo z mc wr := by
  obtain ⟨a1, a2, a3, a4, a5⟩ := q2_way (Y := madeCells #[.int .u32 0] z) (X := madeCells #[.int .u32 0, .pointer none] (z * 2)) (ty := 54) (tx := 158) (a := .slice (some ⟨wr.heap.size + 1, 0, none⟩) z z) (b := .slice (some ⟨wr.heap.size, 0, none⟩) 0 z) hm hq h1 hb hl
  exact ⟨_, _, a1, a3, a2, Nat.le_succ _, Nat.le_refl _, a4, a5⟩
set_option maxRecDepth 100000 in
set_option maxHeartbeats 4000000 in
theorem get_calls (w : World) (rb p mp nc z : Nat) (hre : ReAt w rb p mp nc) (hn : 2 ≤ nc ∧ nc ≤ 100000) (hS : w.cell? ⟨0, mp, none⟩ = some (.int .i64 (z : Int))) (hmp : mp < 5) (hz : 0 < z ∧ z ≤ 1000000) :
    Calls Tryd.prog 58 #[.pointer (some ⟨rb, 0, none⟩)] w fun e w' => ∃ mb sp de sp1 de1 mcb mc, e = .returned (.pointer (some ⟨mb, 0, none⟩)) ∧ New0 w w' rb mb sp de sp1 de1 mcb p z nc mc (.slice (some ⟨mcb, 0, none⟩) nc nc) := by
  obtain ⟨v0, v2, v3, v4, v5, v6, v7, v8, v9, v12, v13, v14, v15, hre⟩ := hre
  have hr1 : w.cell? ⟨rb, 1, none⟩ = some (.pointer (some ⟨p, 0, none⟩)) := (blk_cell hre 1).trans rfl
  have hr10 : w.cell? ⟨rb, 10, none⟩ = some (.int .i64 (mp : Int)) := (blk_cell hre 10).trans rfl
  have hr11 : w.cell? ⟨rb, 11, none⟩ = some (.int .i64 (nc : Int)) := (blk_cell hre 11).trans rfl
  have lrb := blk_lt hre
  have hne1 : rb ≠ w.heap.size := by omega
  have hne2 : w.heap.size ≠ rb := by omega
  have HRE := Lib.hid hre
  clear hre
  go_enter Tryd.func58, Tryd.ntmps58
  go_upto_region 4 with (fail)
  have hma : (w.alloc (.cells #[.pointer (some ⟨rb, 0, none⟩), .pointer (some ⟨p, 0, none⟩), .slice none 0 0, .slice none 0 0, .slice none 0 0, .slice none 0 0, .slice none 0 0, .bool false, .slice none 0 0, .slice none 0 0, .string ⟨#[]⟩, .nilIface, .bool false, .int .i64 0] 115)).heap[w.heap.size]? = some (mach (mNew rb p)) := heap_alloc_new w _
  have hba : Below w.heap.size w (w.alloc (.cells #[.pointer (some ⟨rb, 0, none⟩), .pointer (some ⟨p, 0, none⟩), .slice none 0 0, .slice none 0 0, .slice none 0 0, .slice none 0 0, .slice none 0 0, .bool false, .slice none 0 0, .slice none 0 0, .string ⟨#[]⟩, .nilIface, .bool false, .int .i64 0] 115)) := below_alloc (Below.refl _ w) _
  generalize (w.alloc (.cells #[.pointer (some ⟨rb, 0, none⟩), .pointer (some ⟨p, 0, none⟩), .slice none 0 0, .slice none 0 0, .slice none 0 0, .slice none 0 0, .slice none 0 0, .bool false, .slice none 0 0, .slice none 0 0, .string ⟨#[]⟩, .nilIface, .bool false, .int .i64 0] 115)) = wa at *
  have hc8 : wa.cell? ⟨w.heap.size, 8, none⟩ = some (.slice none 0 0) := mach_cell hma 8 (by omega)
  have hf8 := blk_frozen hma 8
  have ha11 : wa.cell? ⟨rb, 11, none⟩ = some (.int .i64 (nc : Int)) := (hba.cell lrb).trans hr11
  have hd1 : decide (0 < nc) = true := decide_eq_true (by omega)
  have hmk := make_ints nc nc (Nat.le_refl _) (by omega)
  have HMA := Lib.hid hma
  have HBA := Lib.hid hba
  have lma := blk_lt hma
  clear hma hba
  go_quiet (fail)
  go_upto_region 5 with (fail)
  have hwn : (wa.drewN nq).heap.size = wa.heap.size := rfl
  have hfz : ∀ o, ((wa.drewN nq).alloc o).frozen? ⟨w.heap.size, 8, none⟩ = false := fun o => blk_frozen (blk_alloc (blk_drewN HMA.out nq) o) 8
  have hcz : ∀ o, ((wa.drewN nq).alloc o).cell? ⟨w.heap.size, 8, none⟩ = some (.slice none 0 0) := fun o => mach_cell (mc := mNew rb p) (blk_alloc (blk_drewN HMA.out nq) o) 8 (by omega)
  clear hc8 hf8
  go_cut [3] (fun v wc => v = .pointer (some ⟨w.heap.size, 0, none⟩) ∧ Hid (∃ mcb, wc.heap[w.heap.size]? = some (mach (up (mNew rb p) 8 (.slice (some ⟨mcb, 0, none⟩) nc nc))) ∧ wc.heap[mcb]? = some (.cells ((List.replicate nc 0).map (Value.int .i64)).toArray 3 (0, 0)) ∧ w.heap.size ≤ mcb ∧ Below w.heap.size w wc))
  case first =>
    go_wp2_with fail
    go_meet
    exact ⟨rfl, Lib.hid (get_way1 (blk_drewN HMA.out nq) (pw_below_drewN HBA.out nq) (Nat.le_refl _))⟩
  case rest =>
    obtain ⟨rfl, HI⟩ := hcut
    clear hfz hcz hwn hd1 hmk ha11 HMA HBA lma
    obtain ⟨mcb, h1, h2, h3, h4⟩ := HI.out
    have H1 := Lib.hid h1
    have H2 := Lib.hid h2
    have H4 := Lib.hid h4
    have hc6 : wc.cell? ⟨w.heap.size, 6, none⟩ = some (.slice none 0 0) := mach_cell h1 6 (by omega)
    have hc2 : wc.cell? ⟨w.heap.size, 2, none⟩ = some (.slice none 0 0) := mach_cell h1 2 (by omega)
    have ha10 : wc.cell? ⟨rb, 10, none⟩ = some (.int .i64 (mp : Int)) := (h4.cell lrb).trans hr10
    have haS : wc.cell? ⟨0, mp, none⟩ = some (.int .i64 (z : Int)) := (h4.cell (World.block_lt_of_cell? w _ hS)).trans hS
    have hz1 : ((z : Int) == 0) = false := by rw [beq_eq_false_iff_ne]; omega
    have hz2 : decide (0 < z) = true := decide_eq_true hz.1
    clear h1 h2 h4 HI
    go_wp2_with fail
    go_loopg [42] 0 (fun gk s42 wr => wr = wc ∧ s42 = .int .i64 0)
    case atStart => exact ⟨rfl, rfl⟩
    case round =>
      obtain ⟨rfl, rfl⟩ := hrel
      go_upto_region 15 with (fail)
      clear hc6 hc2 ha10 haS hz1 hz2
      have hm1 := make_u32 z hz.2
      have hm2 := make_ent z hz.2
      have lma := blk_lt H1.out
      have hcA : wr.cell? ⟨w.heap.size, 2, none⟩ = some (.slice none 0 0) := mach_cell H1.out 2 (by omega)
      have hcB : wr.cell? ⟨w.heap.size, 3, none⟩ = some (.slice none 0 0) := mach_cell H1.out 3 (by omega)
      have hfA : wr.frozen? ⟨w.heap.size, 2, none⟩ = false := blk_frozen H1.out 2
      have hfB : wr.frozen? ⟨w.heap.size, 3, none⟩ = false := blk_frozen H1.out 3
      go_cut [3, 6] (fun v v6 wc => (v = .pointer (some ⟨w.heap.size, 0, none⟩) ∧ v6 = .int .i64 (z : Int)) ∧ Hid (Q2 w wc w.heap.size 2 z (up (mNew rb p) 8 (.slice (some ⟨mcb, 0, none⟩) nc nc)) wr))
      case first =>
        go_region
        all_goals
          go_wp2_with fail
          go_meet
          first
            | exact ⟨⟨rfl, rfl⟩, Lib.hid (by with_reducible exact q2_w1 H1.out (by omega) rfl H4.out (Nat.le_refl _))⟩
            | exact ⟨⟨rfl, rfl⟩, Lib.hid (by with_reducible exact q2_w2 H1.out (by omega) rfl H4.out (Nat.le_refl _))⟩
      case rest =>
        obtain ⟨⟨rfl, rfl⟩, HQ⟩ := hcut
        clear hm1 hm2 hcA hcB hfA hfB
        obtain ⟨sp, de, q1, q2, q3, q4, q5, q6, q7⟩ := HQ.out
        have Q1 := Lib.hid q1
        have QB := Lib.hid q7
        have QR := Lib.hid (And.intro q2 (And.intro q3 (And.intro q4 (And.intro q5 q6))))
        clear q1 q2 q3 q4 q5 q6 q7 HQ
        have hm1 := make_u32 z hz.2
        have hm2 := make_ent z hz.2
        have lmc := blk_lt Q1.out
        have hcA : wc.cell? ⟨w.heap.size, 4, none⟩ = some (.slice none 0 0) := mach_cell Q1.out 4 (by omega)
        have hcB : wc.cell? ⟨w.heap.size, 5, none⟩ = some (.slice none 0 0) := mach_cell Q1.out 5 (by omega)
        have hfA : wc.frozen? ⟨w.heap.size, 4, none⟩ = false := blk_frozen Q1.out 4
        have hfB : wc.frozen? ⟨w.heap.size, 5, none⟩ = false := blk_frozen Q1.out 5
        go_upto_region 16 with (fail)
        go_cut [3] (fun v wd => v = .pointer (some ⟨w.heap.size, 0, none⟩) ∧ Hid (Q2 w wd w.heap.size 4 z (up (up (up (mNew rb p) 8 (.slice (some ⟨mcb, 0, none⟩) nc nc)) 2 (.slice (some ⟨sp, 0, none⟩) z z)) 3 (.slice (some ⟨de, 0, none⟩) 0 z)) wc))
        case first =>
          go_region
          all_goals
            go_wp2_with fail
            go_meet
            first
              | exact ⟨rfl, Lib.hid (by with_reducible exact q2_w1 Q1.out (by omega) rfl QB.out (Nat.le_refl _))⟩
              | exact ⟨rfl, Lib.hid (by with_reducible exact q2_w2 Q1.out (by omega) rfl QB.out (Nat.le_refl _))⟩
        case rest =>
          obtain ⟨rfl, HQ⟩ := hcut
          clear hm1 hm2 hcA hcB hfA hfB
          go_wp2_with fail
          go_ret
          obtain ⟨sp1, de1, a1, a2, a3, a4, a5, a6, a7⟩ := HQ.out
          obtain ⟨b2, b3, b4, b5, b6⟩ := QR.out
          have k1 := blk_lt b2
          have k2 := blk_lt b3
          have k3 := blk_lt H2.out
          have hs := H4.out.size
          have n1 : mcb ≠ w.heap.size := by
            intro e
            have := H1.out
            rw [← e] at this
            exact blk_ne H2.out this (by decide) rfl
          have n2 : sp ≠ w.heap.size := blk_ne b2 Q1.out (by decide)
          have n3 : de ≠ w.heap.size := blk_ne b3 Q1.out (by decide)
          refine ⟨_, sp, de, sp1, de1, mcb, _, rfl, a1, rfl, rfl, rfl, rfl, rfl, rfl, rfl, rfl, (a6.block sp k1 n2).trans b2, (a6.block de k2 n3).trans b3, a2, a3, (a6.block mcb (Nat.lt_of_lt_of_le k3 b6.size) n1).trans ((b6.block mcb k3 n1).trans H2.out), ⟨Nat.le_refl _, by omega, by omega, h3, ?_, ?_⟩, ⟨?_, ?_⟩, a7⟩
          · have := b6.size; omega
          · have := b6.size; omega
          · omega
          · omega
end Go.Proofs.YteoljppcafakpaaDoor.PgFnPgWalk
