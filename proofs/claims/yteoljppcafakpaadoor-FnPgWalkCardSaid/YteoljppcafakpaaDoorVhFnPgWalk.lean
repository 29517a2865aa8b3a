import Derived.Test.YteoljppcafakpaaDoorVgFnPgWalk
import Derived.StillTailTactics
namespace Go.Proofs.YteoljppcafakpaaDoor.PgFnPgWalk
open Go.RowKit Go.Proofs.YteoljppcafakpaaDoor.EvN Go.Proofs.YteoljppcafakpaaDoor.Row Go.Proofs.YteoljppcafakpaaDoor.PFnPgWalk Go.Proofs.YteoljppcafakpaaDoorW.PrintWords Go.Proofs.YteoljppcafakpaaDoorW.PrintLast Go.Proofs.YteoljppcafakpaaDoorW.PrintMore
set_option linter.unusedSimpArgs false
set_option linter.unusedVariables false
def msz : List Int := [128, 512, 2048, 16384, 0]
def Sizes (w : World) : Prop := ∀ r, r < 5 → w.cell? ⟨0, r, none⟩ = some (.int .i64 (msz.getD r 0))
def ReAt (w : World) (rb p mp : Nat) (mcv : Int) : Prop :=
  ∃ v0 v2 v3 v4 v5 v6 v7 v8 v9 v12 v13 v14 v15, w.heap[rb]? = some (.cells #[v0, .pointer (some ⟨p, 0, none⟩), v2, v3, v4, v5, v6, v7, v8, v9, .int .i64 (mp : Int), .int .i64 mcv, v12, v13, v14, v15] 155 (0, 0))
def ReX (w : World) (rb : Nat) (cv : Int) (long : Bool) : Prop := w.cell? ⟨rb, 6, none⟩ = some (.string ⟨#[]⟩) ∧ w.cell? ⟨rb, 13, none⟩ = some (.int .u8 cv) ∧ w.cell? ⟨rb, 15, none⟩ = some (.bool long)
theorem ReX.blk {w w' : World} {rb : Nat} {cv : Int} {long : Bool} {v0 v1 v2 v3 v4 v5 v6 v7 v8 v9 v10 v11 v12 v13 v14 v15 u10 : Value} {t : TypeId} (h : ReX w rb cv long) (hb : w.heap[rb]? = some (.cells #[v0, v1, v2, v3, v4, v5, v6, v7, v8, v9, v10, v11, v12, v13, v14, v15] t (0, 0)))
    (hb' : w'.heap[rb]? = some (.cells #[v0, v1, v2, v3, v4, v5, v6, v7, v8, v9, u10, v11, v12, v13, v14, v15] t (0, 0))) : ReX w' rb cv long := by
  obtain ⟨h1, h2, h3⟩ := h
  refine ⟨?_, ?_, ?_⟩
  · rw [← h1, blk_cell hb' 6, blk_cell hb 6]; rfl
  · rw [← h2, blk_cell hb' 13, blk_cell hb 13]; rfl
  · rw [← h3, blk_cell hb' 15, blk_cell hb 15]; rfl
theorem ReX.below {w w' : World} {rb : Nat} {cv : Int} {long : Bool} (h : ReX w rb cv long) (hb : Below w.heap.size w w') : ReX w' rb cv long :=
  ⟨(hb.cell (World.block_lt_of_cell? w _ h.1)).trans h.1, (hb.cell (World.block_lt_of_cell? w _ h.2.1)).trans h.2.1, (hb.cell (World.block_lt_of_cell? w _ h.2.2)).trans h.2.2⟩
def mpool (n : Nat) : Nat := if n ≤ 128 then 0 else if n ≤ 512 then 1 else 2
theorem size_way (N m : Nat) (hN : N ≤ 2000) (h1 : m ≤ mpool N) : ∃ z : Int, msz.getD m 0 = z ∧ (z ≠ 0 ∧ 0 < z) ∧ m ≤ 2 ∧ (z < (N : Int) → m + 1 ≤ mpool N) ∧ (¬ z < (N : Int) → m = mpool N) := by
  have e : mpool N = (if N ≤ 128 then 0 else if N ≤ 512 then 1 else 2) := rfl
  generalize mpool N = q at *
  have hq : (N ≤ 128 ∧ q = 0) ∨ (128 < N ∧ N ≤ 512 ∧ q = 1) ∨ (512 < N ∧ q = 2) := by
    by_cases a : N ≤ 128
    · rw [if_pos a] at e; omega
    · rw [if_neg a] at e
      by_cases b : N ≤ 512
      · rw [if_pos b] at e; omega
      · rw [if_neg b] at e; omega
  clear e
  have h3 : m = 0 ∨ m = 1 ∨ m = 2 := by omega
  rcases h3 with rfl | rfl | rfl
  · exact ⟨128, rfl, by omega, by omega, by omega, by omega⟩
  · exact ⟨512, rfl, by omega, by omega, by omega, by omega⟩
  · exact ⟨2048, rfl, by omega, by omega, by omega, by omega⟩
set_option maxRecDepth 100000 in
set_option maxHeartbeats 4000000 in
theorem of_calls {L : List I} {st nc most : Int} (h : PSound L st nc most) (hm : L.length ≤ 2000) (hop : ∀ pc, pc < L.length → 0 ≤ (ins L pc).f0 ∧ (ins L pc).f0 ≤ 10 ∧ (ins L pc).f0 ≠ 1) (p : Nat) (w : World) (hP : ProgAt w p L st nc) (hS : Sizes w) (A : Option Addr) (c : Nat) (long : Bool) :
    Calls Tryd.prog 57 #[.pointer (some ⟨p, 0, none⟩), .slice A 1 c, .bool long] w fun e w' => ∃ rb mcv, e = .returned (.pointer (some ⟨rb, 0, none⟩)) ∧ (mcv = nc ∨ mcv = 2) ∧ 2 ≤ mcv ∧ w.heap.size ≤ rb ∧ ReAt w' rb p (mpool L.length) mcv ∧ Below w.heap.size w w' ∧ ReX w' rb (scF L L.length st.toNat 0) long := by
  obtain ⟨ad, cap, hb, hc, h63, hI⟩ := pinst_at hP h.pos
  obtain ⟨hz0, hz1, hz2⟩ := blk3 hb
  have HS := Lib.hid h
  have hst := start_calls h hm hop p w.drew (hP.below (below_drew (Below.refl _ w)))
  obtain ⟨mv, hmx⟩ := max_calls (blk_drew hb) hm h.pos
  go_enter Tryd.func57, Tryd.ntmps57
  go_upto_region 1 with (fail)
  go_cut [7] (fun v wc => ∃ (rb : Nat) (mcv : Int), v = .pointer (some ⟨rb, 0, none⟩) ∧ Hid (((mcv = nc ∨ mcv = 2) ∧ 2 ≤ mcv) ∧ w.heap.size ≤ rb ∧ ReAt wc rb p 0 mcv ∧ Below w.heap.size w wc ∧ ReX wc rb (scF L L.length st.toNat 0) long))
  case first =>
    go_still_tail 16, (by kernel_rfl)
    still_call hst
    repeat still_step
    still_call hmx
    repeat still_step
    refine wpStill_nil ?_
    go_wp2_with fail
    all_goals
      go_meet
      first
        | exact ⟨_, nc, rfl, Lib.hid ⟨⟨.inl rfl, by omega⟩, Nat.le_refl _, ⟨_, _, _, _, _, _, _, _, _, _, _, _, _, heap_alloc_new w _⟩, below_drew (below_alloc (Below.refl _ w) _), ⟨(blk_cell (heap_alloc_new w _) 6).trans rfl, (blk_cell (heap_alloc_new w _) 13).trans rfl, (blk_cell (heap_alloc_new w _) 15).trans rfl⟩⟩⟩
        | exact ⟨_, 2, rfl, Lib.hid ⟨⟨.inr rfl, by omega⟩, Nat.le_refl _, ⟨_, _, _, _, _, _, _, _, _, _, _, _, _, heap_alloc_new w _⟩, below_drew (below_alloc (Below.refl _ w) _), ⟨(blk_cell (heap_alloc_new w _) 6).trans rfl, (blk_cell (heap_alloc_new w _) 13).trans rfl, (blk_cell (heap_alloc_new w _) 15).trans rfl⟩⟩⟩
  case rest =>
    obtain ⟨rb, mcv, rfl, HI0⟩ := hcut
    have HSZ := Lib.hid hS
    have HB0 := Lib.hid hb
    clear hst hmx hz0 hz1 hz2 hI hS hb hP
    go_wp2_with fail
    go_loopg [] 3 (fun gk wr => ∃ (m : Nat), Hid (gk + m = 3 ∧ m ≤ mpool L.length ∧ w.heap.size ≤ rb ∧ ReAt wr rb p m mcv ∧ Below w.heap.size w wr ∧ ReX wr rb (scF L L.length st.toNat 0) long))
    case atStart => exact ⟨0, ⟨by omega, by omega, HI0.out.2⟩⟩
    case round =>
      obtain ⟨m, HI⟩ := hrel
      have hgo : ∃ z : Int, msz.getD m 0 = z ∧ (z ≠ 0 ∧ 0 < z) ∧ m ≤ 2 ∧ (z < (L.length : Int) → m + 1 ≤ mpool L.length) ∧ (¬ z < (L.length : Int) → m = mpool L.length) := by
        have h1 := HI.out.2.1
        exact size_way L.length m (by omega) h1
      obtain ⟨z, hz, ⟨hz0, hz9⟩, hm2, hz1, hz2⟩ := hgo
      obtain ⟨v0, v2, v3, v4, v5, v6, v7, v8, v9, v12, v13, v14, v15, hre⟩ := HI.out.2.2.2.1
      have hc10 : wr.cell? ⟨rb, 10, none⟩ = some (.int .i64 (m : Int)) := (blk_cell hre 10).trans rfl
      have hfr := blk_frozen hre 10
      have hsc : wr.cell? ⟨0, m, none⟩ = some (.int .i64 z) := by
        have := HSZ.out m (by omega)
        rw [hz] at this
        exact (HI.out.2.2.2.2.1.cell (World.block_lt_of_cell? w _ this)).trans this
      have hpw : wr.cell? ⟨p, 0, none⟩ = some (.slice (some ad) L.length cap) := (blk3 (blk_below HB0.out HI.out.2.2.2.2.1)).1
      have hzz : (z != 0) = true := by simpa using hz0
      have HRE := Lib.hid hre
      clear hre
      by_cases hzl : z < (L.length : Int)
      · have hd : decide (z < (L.length : Int)) = true := decide_eq_true hzl
        go_wp2_with fail
        go_quiet (fail)
        go_wp2_with fail
        go_roundg (gk - 1)
        case measure => have := HI.out.1; omega
        case rel =>
          refine ⟨m + 1, Lib.hid ⟨by have := HI.out.1; omega, hz1 hzl, HI.out.2.2.1, ⟨v0, v2, v3, v4, v5, v6, v7, v8, v9, v12, v13, v14, v15, ?_⟩, below_set (pw_below_drewN HI.out.2.2.2.2.1 _) HI.out.2.2.1, HI.out.2.2.2.2.2.blk (u10 := .int .i64 ((m : Int) + 1)) HRE.out ?_⟩⟩
          · exact (blk_set (blk_drewN HRE.out nq) 10 _).trans rfl
          · exact (blk_set (blk_drewN HRE.out nq) 10 _).trans rfl
      · have hd : decide (z < (L.length : Int)) = false := decide_eq_false hzl
        have HZ := Lib.hid hzl
        clear hzl hz1 hz2
        go_wp2_with fail
        go_quiet (fail)
        go_wp2_with fail
        go_ret
        have hmq := size_way L.length m hm HI.out.2.1
        obtain ⟨z', hz', _, _, _, hz2⟩ := hmq
        have he : m = mpool L.length := hz2 (by rw [← hz', hz]; have := HZ.out; omega)
        subst he
        exact ⟨rb, mcv, rfl, HI0.out.1.1, HI0.out.1.2, HI.out.2.2.1, ⟨v0, v2, v3, v4, v5, v6, v7, v8, v9, v12, v13, v14, v15, blk_drewN HRE.out nq⟩, pw_below_drewN HI.out.2.2.2.2.1 _, HI.out.2.2.2.2.2.blk HRE.out (blk_drewN HRE.out nq)⟩
end Go.Proofs.YteoljppcafakpaaDoor.PgFnPgWalk
