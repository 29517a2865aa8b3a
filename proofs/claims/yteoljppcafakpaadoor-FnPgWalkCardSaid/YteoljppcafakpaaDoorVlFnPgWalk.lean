import Derived.Test.YteoljppcafakpaaDoorVjFnPgWalk
import Derived.Test.YteoljppcafakpaaDoorWaFnPgWalk
import Derived.Test.YteoljppcafakpaaDoorFiFnPgWalk
import Derived.Test.YteoljppcafakpaaDoorVfFnPgWalk
import Derived.StillTailTactics
namespace Go.Proofs.YteoljppcafakpaaDoor.PgFnPgWalk
open Go.RowKit Go.Proofs.YteoljppcafakpaaDoor.EvN Go.Proofs.YteoljppcafakpaaDoor.Row Go.Proofs.YteoljppcafakpaaDoor.PFnPgWalk Go.Proofs.YteoljppcafakpaaDoorW.PrintWords Go.Proofs.YteoljppcafakpaaDoorW.PrintLast Go.Proofs.YteoljppcafakpaaDoorW.PrintMore
set_option linter.unusedSimpArgs false
set_option linter.unusedVariables false
set_option maxRecDepth 100000 in
theorem init_calls (w : World) (mb mcb n cc c : Nat) (mc : Nat → Value) (hm : w.heap[mb]? = some (mach mc)) (h6 : mc 6 = .slice none 0 0) (h8 : mc 8 = .slice (some ⟨mcb, 0, none⟩) n cc) (hc : c ≤ cc) :
    Calls Tryd.prog 60 #[.pointer (some ⟨mb, 0, none⟩), .int .i64 (c : Int)] w fun e w' => e = .returned (.tuple #[]) ∧ w' = w.setCell ⟨mb, 8, none⟩ (.slice (some ⟨mcb, 0, none⟩) c cc) := by
  have hc6 : w.cell? ⟨mb, 6, none⟩ = some (.slice none 0 0) := by rw [← h6]; exact mach_cell hm 6 (by omega)
  have hc8 : w.cell? ⟨mb, 8, none⟩ = some (.slice (some ⟨mcb, 0, none⟩) n cc) := by rw [← h8]; exact mach_cell hm 8 (by omega)
  have hf8 := (blk_frozen hm 8 : w.frozen? ⟨mb, 8, none⟩ = false)
  clear hm
  go_enter Tryd.func60, Tryd.ntmps60
  go_wp2_with fail
  go_loopg [11] 0 (fun gk s11 wr => wr = w ∧ s11 = .int .i64 0)
  case atStart => exact ⟨rfl, rfl⟩
  case round =>
    obtain ⟨rfl, rfl⟩ := hrel
    go_wp2_with fail
    go_end0
    exact ⟨rfl, rfl⟩
theorem mpool_way (N : Nat) (h : N ≤ 2000) : ∃ z : Nat, msz.getD (mpool N) 0 = (z : Int) ∧ N ≤ z ∧ 0 < z ∧ z ≤ 1000000 ∧ mpool N < 5 := by
  unfold mpool
  by_cases a : N ≤ 128
  · rw [if_pos a]; exact ⟨128, rfl, by omega, by omega, by omega, by omega⟩
  · rw [if_neg a]
    by_cases b : N ≤ 512
    · rw [if_pos b]; exact ⟨512, rfl, by omega, by omega, by omega, by omega⟩
    · rw [if_neg b]; exact ⟨2048, rfl, by omega, by omega, by omega, by omega⟩
theorem New0.cut {w w1 : World} {rb mb sp de sp1 de1 mcb p S nc : Nat} {mc : Nat → Value} {m8 v : Value} (h : New0 w w1 rb mb sp de sp1 de1 mcb p S nc mc m8) : New0 w (w1.setCell ⟨mb, 8, none⟩ v) rb mb sp de sp1 de1 mcb p S nc (up mc 8 v) v := by
  have k : ∀ {g : Nat} {cs : Array Value} {t : TypeId}, w1.heap[g]? = some (.cells cs t (0, 0)) → t ≠ 115 → (w1.setCell ⟨mb, 8, none⟩ v).heap[g]? = some (.cells cs t (0, 0)) := fun hg ht => (Below.heap_setCell _ _ _ _ (blk_ne hg h.ma ht)).trans hg
  exact ⟨mach_set h.ma 8 (by omega) v, h.m0, h.m1, h.m6, up_same _ _ _, h.q2, h.q3, h.q4, h.q5, k h.sa (by decide), k h.da (by decide), k h.sb (by decide), k h.db (by decide), k h.cb (by decide), h.lo, h.ne, below_set h.bl h.lo.1⟩
theorem Sizes.below {w w' : World} (h : Sizes w) (hb : Below w.heap.size w w') : Sizes w' := fun r hr => (hb.cell (World.block_lt_of_cell? w _ (h r hr))).trans (h r hr)
structure Put0 (L : List I) (cond F : Int) (pcs : List Nat) (p mb : Nat) (cv : Int) (long : Bool) (w w' : World) : Prop where
  ex : ∃ (W0 : World) (rb sp de sp1 de1 lf z cc : Nat) (mc : Nat → Value) (E : List En) (ad : Addr), Below w.heap.size w W0 ∧ Prg W0 L p ad ∧ MS L.length W0 w' p mb 2 sp de lf z 0 cc F mc E [] [] ∧ Rel w' ad 0 cc E (aFl L cond 0 [] [] pcs) ∧
    mc 0 = .pointer (some ⟨rb, 0, none⟩) ∧ mc 4 = .slice (some ⟨sp1, 0, none⟩) z z ∧ mc 5 = .slice (some ⟨de1, 0, none⟩) 0 z ∧
    w'.heap[sp1]? = some (.cells (madeCells #[.int .u32 0] z) 54 (0, 0)) ∧ w'.heap[de1]? = some (.cells (madeCells #[.int .u32 0, .pointer none] (z * 2)) 158 (0, 0)) ∧ sp1 ≠ sp ∧ de1 ≠ de ∧ W0.heap.size ≤ sp1 ∧ W0.heap.size ≤ de1 ∧ ReX W0 rb cv long ∧ ∃ mcb, mc 8 = .slice (some ⟨mcb, 0, none⟩) 0 cc ∧ CapAt w' 0 cc mcb [] ∧ W0.heap.size ≤ mcb ∧ ∀ x ∈ thr E, x.2 ≠ mcb
set_option maxRecDepth 100000 in
set_option maxHeartbeats 4000000 in
theorem machine_calls {L : List I} {st nc : Int} (h : PSound L st nc 2000) (p : Nat) (w : World) (hP : ProgAt w p L st nc) (hS : Sizes w) (pcs : List Nat) (Ap : Option Addr) (cp : Nat) (hp : ∀ pc ∈ pcs, pc < L.length) (hPC : Kd.C (Kd.int .u32) w Ap (pcs.map fun (x : Nat) => (x : Int)).length (pcs.map fun (x : Nat) => (x : Int)))
    (b a F cond : Int) (hF : regexp_newLazyFlag.f b a = some F) (hmatch : ∀ a, 0 < a → a < 64 → ∃ k, regexp_lazyFlag_match.f k F a = some (holds cond a)) (long : Bool) :
    Calls Tryd.prog 53 #[.pointer (some ⟨p, 0, none⟩), .slice Ap pcs.length cp, .int .i32 b, .int .i32 a, .bool long] w fun e w' => ∃ mb, e = .returned (.pointer (some ⟨mb, 0, none⟩)) ∧ Put0 L cond F pcs p mb (scF L L.length st.toNat 0) long w w' := by
  have hm : L.length ≤ 2000 := by have := h.most; omega
  have hnc0 := h.nc0
  have hnc1 := h.nc1
  have HS := Lib.hid h
  have HP := Lib.hid hP
  have HSZ := Lib.hid hS
  have HPP := Lib.hid hp
  have HPC := Lib.hid hPC
  have HF := Lib.hid hF
  have HMT := Lib.hid hmatch
  clear h hP hS hp hPC hF hmatch
  obtain ⟨z, hz1, hz2, hz3, hz4, hz5⟩ := mpool_way L.length hm
  go_enter Tryd.func53, Tryd.ntmps53
  go_wp2_with fail
  have hb1 : Below w.heap.size w (w.alloc (.cells #[.string ⟨#[]⟩] 9)) := below_alloc (Below.refl _ w) _
  generalize w.alloc (.cells #[.string ⟨#[]⟩] 9) = w1 at *
  refine (of_calls HS.out hm HS.out.op p w1 (HP.out.below hb1) (HSZ.out.below hb1) _ 1 long).mono ?_
  rintro e w2 ⟨rb, mcv, rfl, hmc, hmc2, hrb, hre, hb2, hrx⟩
  have HRX := Lib.hid hrx
  clear hrx
  obtain ⟨ncn, rfl⟩ : ∃ n : Nat, mcv = (n : Int) := ⟨mcv.toNat, by omega⟩
  have hb12 := Lib.hid (below_step hb1 hb2)
  have HRE := Lib.hid hre
  have hnn : ncn ≤ 100000 := by omega
  clear hb1 hb2 hre hmc
  go_wp2_with fail
  have hsz := (HSZ.out.below hb12.out) (mpool L.length) hz5
  rw [hz1] at hsz
  refine (get_calls w2 rb p (mpool L.length) ncn z HRE.out ⟨by omega, hnn⟩ hsz hz5 ⟨hz3, hz4⟩).mono ?_
  rintro e w3 ⟨mb, sp, de, sp1, de1, mcb, mc, rfl, hnew⟩
  have HN := Lib.hid hnew
  clear hnew hsz
  go_wp2_with fail
  refine (init_calls w3 mb mcb ncn ncn 0 mc HN.out.ma HN.out.m6 HN.out.m8 (Nat.zero_le _)).mono ?_
  rintro e w4 ⟨rfl, hw4⟩
  have hnw := HN.out.cut (v := .slice (some ⟨mcb, 0, none⟩) 0 ncn)
  rw [← hw4] at hnw
  have HN4 := Lib.hid hnw
  clear hnw hw4 HN
  go_wp2_with fail
  refine (regexp_newLazyFlag.calls b a F w4 HF.out).mono ?_
  rintro e w5 ⟨rfl, hd⟩
  go_wp2_with fail
  have hlf : (w5.alloc (.cells #[.int .u64 F] 117)).heap[w5.heap.size]? = some (.cells #[.int .u64 F] 117 (0, 0)) := heap_alloc_new w5 _
  have hb6 : Below w4.heap.size w4 (w5.alloc (.cells #[.int .u64 F] 117)) := below_alloc hd.below _
  obtain ⟨lf, hlfe⟩ : ∃ lf, lf = w5.heap.size := ⟨_, rfl⟩
  rw [← hlfe] at hlf ⊢
  generalize w5.alloc (.cells #[.int .u64 F] 117) = w6 at *
  have hn6 := HN4.out.keep hb6
  obtain ⟨hms, hcap⟩ := hn6.ms hlf hz2 hz4 hnn
  obtain ⟨ad, hprg⟩ := (HP.out.below hb12.out).prg HS.out.pos
  have HN6 := Lib.hid hn6
  have HMS := Lib.hid hms
  have HCP := Lib.hid hcap
  have HPG := Lib.hid hprg
  have HMC := hn6.lo.2.2.2.1
  obtain ⟨mc6, hmc6⟩ : ∃ m : Nat → Value, m = up mc 8 (.slice (some ⟨mcb, 0, none⟩) 0 ncn) := ⟨_, rfl⟩
  rw [← hmc6] at HN6 HMS
  have h86 : mc6 8 = .slice (some ⟨mcb, 0, none⟩) 0 ncn := by rw [hmc6, up_same]
  have H86 := Lib.hid h86
  have HLN := Lib.hid (show (pcs.map fun (x : Nat) => (x : Int)).length = pcs.length by simp)
  have hpl : pcs.length ≤ 9223372036854775807 := by have := HPC.out.2.1; rw [HLN.out] at this; exact this
  clear hn6 hms hcap hprg HN4 hlf hb6 hd hlfe hmc6
  go_loopg [27] pcs.length (fun gk s27 wr => ∃ (k : Nat) (mr : Nat → Value) (E : List En), Hid (gk + k = pcs.length ∧ AR L.length w2 p mb 2 sp de lf z 0 ncn F ad (aFl L cond 0 [] [] (pcs.take k)) w6 mc6 [] [] none [] wr mr E [] none ∧ CapAt wr 0 ncn mcb []) ∧ k ≤ pcs.length ∧ s27 = .int .i64 k)
  case atStart => exact ⟨0, mc6, [], ⟨by omega, AR.refl (by simpa using HMS.out), HCP.out⟩, Nat.zero_le _, rfl⟩
  case round =>
    obtain ⟨k, mr, E, HI, hk, rfl⟩ := hrel
    by_cases hlt : k < pcs.length
    · have hpk := HPP.out _ (List.getElem_mem hlt)
      have hbw : Below w.heap.size w wr := below_step hb12.out HI.out.2.1.ms.bl
      obtain ⟨adp, e, hx⟩ := kd_cell HPC.out hbw k (by rw [HLN.out]; exact hlt)
      cases e
      rw [List.getElem_map] at hx
      have hc8 : wr.cell? ⟨mb, 8, none⟩ = some (.slice (some ⟨mcb, 0, none⟩) 0 ncn) := by
        rw [mach_cell HI.out.2.1.ms.ma 8 (by omega), HI.out.2.1.mm 8 (by omega) (by omega), h86]
      clear hbw
      have hle : E.length ≤ L.length := by have := HI.out.2.1.ms.len; simpa using this
      have hcall := madd_calls HS.out.leads hm HS.out.op HS.out.arg3 (fun pc hpc h2 => by have := HS.out.arg2 pc hpc h2; omega) cond F HMT.out w2 p ad HPG.out mb 2 sp de lf z 0 ncn mcb HMC 0 (L.length + 1) wr.drew mr E [] [] none pcs[k] [] (HI.out.2.1.ms.drewN 1) (HI.out.2.2.keep rfl) (fun x hx => by cases hx) (fun x hx => by cases hx) hpk (by omega)
      have HCALL := Lib.hid hcall
      clear hcall
      go_upto_region 7 with (fail)
      go_still_tail 9, (by kernel_rfl)
      change wpList _ _ _ _ _ wr.drew
      go_wp2_with fail
      refine HCALL.out.mono ?_
      rintro e w7 ⟨mc7, new, pool7, t7, rfl, har⟩
      have hp7 : pool7 = [] := by
        obtain ⟨r, hr⟩ := har.pp
        simpa using (List.append_eq_nil_iff.1 hr.symm).1
      have ht7 : t7 = none := by rcases har.tt with e | e <;> exact e
      subst hp7
      subst ht7
      have hca := AR.capAt (HI.out.2.1.ms.drewN 1) (HI.out.2.2.keep (w' := wr.drew) rfl) (fun x hx => by cases hx) har
      have HAR := Lib.hid (AR.trans (HI.out.2.1.drewN 1) har)
      have HCA := Lib.hid hca
      clear har hca
      go_wp2_with fail
      go_roundg (gk - 1)
      case measure => have := HI.out.1; omega
      case rel =>
        have e1 := HI.out.2.1.rel.fst
        refine ⟨k + 1, mc7, E ++ new, ⟨by have := HI.out.1; omega, ?_, HCA.out⟩, by omega, by go_num⟩
        rw [aFl_take L cond 0 [] [] pcs k hlt, ← e1]
        exact HAR.out
    · have hke : k = pcs.length := by omega
      subst hke
      rw [List.take_length] at HI
      go_wp2_with fail
      go_ret
      have har := HI.out.2.1
      have hu : ∀ {g : Nat} {cs : Array Value} {t : TypeId}, w6.heap[g]? = some (.cells cs t (0, 0)) → t ≠ 115 → g ≠ sp → g ≠ de → wr.heap[g]? = some (.cells cs t (0, 0)) := fun {g cs t} hg ht h1 h2 => by
        refine (har.fr.block g (blk_lt hg) ?_).trans hg
        rintro (a | a | a | ⟨y, hy1, a⟩ | ⟨y, hy1, a⟩)
        · exact blk_ne hg HN6.out.ma ht a
        · exact h1 a
        · exact h2 a
        · cases hy1
        · cases hy1
      exact ⟨mb, rfl, ⟨w2, rb, sp, de, sp1, de1, lf, z, ncn, mr, E, ad, hb12.out, HPG.out, by simpa using har.ms, har.rel, (har.mm 0 (by omega) (by omega)).trans HN6.out.m0, (har.mm 4 (by omega) (by omega)).trans HN6.out.q4, (har.mm 5 (by omega) (by omega)).trans HN6.out.q5,
        hu HN6.out.sb (by decide) HN6.out.ne.1 (blk_ne HN6.out.sb HN6.out.da (by decide)), hu HN6.out.db (by decide) (blk_ne HN6.out.db HN6.out.sa (by decide)) HN6.out.ne.2, HN6.out.ne.1, HN6.out.ne.2, HN6.out.lo.2.2.2.2.1, HN6.out.lo.2.2.2.2.2, HRX.out, mcb, (har.mm 8 (by omega) (by omega)).trans H86.out, HI.out.2.2, HN6.out.lo.2.2.2.1, fun x hx e => match har.nt x hx with | .inl h => by cases h | .inr (.inl h) => by cases h | .inr (.inr ⟨_, h⟩) => by (have := HCP.out.lt; omega)⟩⟩
end Go.Proofs.YteoljppcafakpaaDoor.PgFnPgWalk
