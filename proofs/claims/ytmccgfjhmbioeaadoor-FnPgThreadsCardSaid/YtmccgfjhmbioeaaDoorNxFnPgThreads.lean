import Derived.Test.YtmccgfjhmbioeaaDoorPxFnPgThreads
import Derived.WalkMore
import Derived.ScopeJumps
namespace Go.Proofs.YtmccgfjhmbioeaaDoor.PgFnPgThreads
open Go.RowKit Go.Proofs.YtmccgfjhmbioeaaDoor.EvN Go.Proofs.YtmccgfjhmbioeaaDoor.Row Go.Proofs.YtmccgfjhmbioeaaDoor.PFnPgThreads Go.Proofs.YtmccgfjhmbioeaaDoorW.PrintWords Go.Proofs.YtmccgfjhmbioeaaDoorW.PrintLast Go.Proofs.YtmccgfjhmbioeaaDoorW.PrintMore
def holds (cond arg : Int) : Bool := Go.bits .and .i64 cond arg == arg
def rF (L : List I) (cond : Int) : Nat → List Nat → Nat → List Nat
  | 0, D, _ => D
  | n + 1, D, pc =>
    if pc = 0 ∨ pc ∈ D then D
    else if (ins L pc).f0 = 0 then rF L cond n (rF L cond n (D ++ [pc]) (ins L pc).f1.toNat) (ins L pc).f2.toNat
    else if (ins L pc).f0 = 2 ∨ (ins L pc).f0 = 6 then rF L cond n (D ++ [pc]) (ins L pc).f1.toNat
    else if (ins L pc).f0 = 3 then (if holds cond (ins L pc).f2 = true then rF L cond n (D ++ [pc]) (ins L pc).f1.toNat else D ++ [pc])
    else D ++ [pc]
structure Fine (N : Nat) (D : List Nat) : Prop where
  nd : D.Nodup
  lt : ∀ x ∈ D, x < N
theorem Fine.len {N : Nat} {D : List Nat} (h : Fine N D) : D.length ≤ N := by
  induction N generalizing D with
  | zero =>
    cases D with
    | nil => simp
    | cons a l => exact absurd (h.lt a (by simp)) (by omega)
  | succ N ih =>
    have h1 : Fine N (D.erase N) := ⟨h.nd.erase N, fun x hx => by
      have := (h.nd.mem_erase_iff).1 hx
      have := h.lt x this.2
      omega⟩
    have := ih h1
    rw [List.length_erase] at this
    split at this <;> omega
theorem Fine.add {N : Nat} {D : List Nat} (h : Fine N D) {pc : Nat} (hp : pc < N) (hn : pc ∉ D) : Fine N (D ++ [pc]) := by
  refine ⟨?_, fun x hx => ?_⟩
  · rw [List.nodup_append]
    refine ⟨h.nd, by simp, fun a ha b hb => ?_⟩
    simp only [List.mem_singleton] at hb
    subst hb
    intro e; subst e; exact hn ha
  · rcases List.mem_append.1 hx with hx | hx
    · exact h.lt x hx
    · simp only [List.mem_singleton] at hx; omega
structure Leads (L : List I) : Prop where
  out : OutIn L
  arg : ∀ pc, pc < L.length → (ins L pc).f0 = 0 → 0 ≤ (ins L pc).f2 ∧ (ins L pc).f2 < (L.length : Int)
theorem PSound.leads {L : List I} {st nc most : Int} (h : PSound L st nc most) : Leads L := by
  refine ⟨h.outIn, fun pc hpc h0 => ?_⟩
  have h1 := h.inst pc hpc
  have h2 := h.outIn pc hpc (by omega)
  unfold instB at h1
  rw [if_neg (by omega), if_neg (fun e => e h2), if_pos h0, Bool.and_eq_true, decide_eq_true_eq, decide_eq_true_eq] at h1
  exact h1
theorem rF_fine {L : List I} {cond : Int} (hl : Leads L) : ∀ (n : Nat) (D : List Nat) (pc : Nat), Fine L.length D → pc < L.length → Fine L.length (rF L cond n D pc) ∧ D.length ≤ (rF L cond n D pc).length := by
  intro n
  induction n with
  | zero => intro D pc h _; exact ⟨h, Nat.le_refl _⟩
  | succ n ih =>
    intro D pc h hp
    rw [rF]
    by_cases h0 : pc = 0 ∨ pc ∈ D
    · rw [if_pos h0]; exact ⟨h, Nat.le_refl _⟩
    · rw [if_neg h0]
      have h1 := h.add hp (fun e => h0 (.inr e))
      have hlen : D.length ≤ (D ++ [pc]).length := by simp
      by_cases g0 : (ins L pc).f0 = 0
      · rw [if_pos g0]
        obtain ⟨o1, o2⟩ := hl.out pc hp (by omega)
        obtain ⟨a1, a2⟩ := hl.arg pc hp g0
        obtain ⟨i1, i2⟩ := ih _ (ins L pc).f1.toNat h1 (by omega)
        obtain ⟨j1, j2⟩ := ih _ (ins L pc).f2.toNat i1 (by omega)
        exact ⟨j1, by omega⟩
      · rw [if_neg g0]
        by_cases g26 : (ins L pc).f0 = 2 ∨ (ins L pc).f0 = 6
        · rw [if_pos g26]
          obtain ⟨o1, o2⟩ := hl.out pc hp (by omega)
          obtain ⟨i1, i2⟩ := ih _ (ins L pc).f1.toNat h1 (by omega)
          exact ⟨i1, by omega⟩
        · rw [if_neg g26]
          by_cases g3 : (ins L pc).f0 = 3
          · rw [if_pos g3]
            obtain ⟨o1, o2⟩ := hl.out pc hp (by omega)
            obtain ⟨i1, i2⟩ := ih _ (ins L pc).f1.toNat h1 (by omega)
            split
            · exact ⟨i1, by omega⟩
            · exact ⟨h1, hlen⟩
          · rw [if_neg g3]; exact ⟨h1, hlen⟩
end Go.Proofs.YtmccgfjhmbioeaaDoor.PgFnPgThreads
namespace Go.Proofs.YtmccgfjhmbioeaaDoor.PgFnPgThreads
open Go.RowKit Go.Proofs.YtmccgfjhmbioeaaDoor.EvN Go.Proofs.YtmccgfjhmbioeaaDoor.Row Go.Proofs.YtmccgfjhmbioeaaDoor.PFnPgThreads Go.Proofs.YtmccgfjhmbioeaaDoorW.PrintWords Go.Proofs.YtmccgfjhmbioeaaDoorW.PrintLast Go.Proofs.YtmccgfjhmbioeaaDoorW.PrintMore
theorem iint : (Tryd.prog.info? 3).map (fun i => (i.zero, i.size, i.bytes)) = some (some (.int .i64 0), 1, 8) := by kernel_rfl
end Go.Proofs.YtmccgfjhmbioeaaDoor.PgFnPgThreads
namespace Go.Proofs.YtmccgfjhmbioeaaDoor.PgFnPgThreads
open Go.RowKit Go.Proofs.YtmccgfjhmbioeaaDoor.EvN Go.Proofs.YtmccgfjhmbioeaaDoor.Row Go.Proofs.YtmccgfjhmbioeaaDoor.PFnPgThreads Go.Proofs.YtmccgfjhmbioeaaDoorW.PrintWords Go.Proofs.YtmccgfjhmbioeaaDoorW.PrintLast Go.Proofs.YtmccgfjhmbioeaaDoorW.PrintMore
attribute [local go_sem ↓] Go.wp_at_zero Go.wp_at_succ
def reachA (L : List I) (cond : Int) (D : List Nat) (pcs : List Nat) : List Nat := pcs.foldl (fun D pc => rF L cond (L.length + 1) D pc) D
def waitsB (i : I) : Bool := !(decide (i.f0 = 0) || decide (i.f0 = 2) || decide (i.f0 = 6) || decide (i.f0 = 3) || decide (i.f0 = 5))
theorem ibool : (Tryd.prog.info? 4).map (fun i => (i.zero, i.size, i.bytes)) = some (some (.bool false), 1, 1) := by kernel_rfl
end Go.Proofs.YtmccgfjhmbioeaaDoor.PgFnPgThreads
namespace Go.Proofs.YtmccgfjhmbioeaaDoor.PgFnPgThreads
open Go.RowKit Go.Proofs.YtmccgfjhmbioeaaDoor.EvN Go.Proofs.YtmccgfjhmbioeaaDoor.Row Go.Proofs.YtmccgfjhmbioeaaDoor.PFnPgThreads Go.Proofs.YtmccgfjhmbioeaaDoorW.PrintWords Go.Proofs.YtmccgfjhmbioeaaDoorW.PrintLast Go.Proofs.YtmccgfjhmbioeaaDoorW.PrintMore
theorem pinst_at {w : World} {p : Nat} {L : List I} {st nc : Int} (h : ProgAt w p L st nc) (h1 : 1 ≤ L.length) : ∃ ad cap, w.heap[p]? = some (.cells #[.slice (some ad) L.length cap, .int .i64 st, .int .i64 nc] 93 (0, 0)) ∧ L.length ≤ cap ∧ L.length ≤ 9223372036854775807 ∧
    ∀ k, k < L.length → ∃ A3 c3, w.cell? (ad.add (k * 4)) = some (.int .u8 (pin (ins L k)).f0) ∧ w.cell? ⟨(ad.add (k * 4)).block, (ad.add (k * 4)).off + 1, none⟩ = some (.int .u32 (pin (ins L k)).f1) ∧ w.cell? ⟨(ad.add (k * 4)).block, (ad.add (k * 4)).off + 2, none⟩ = some (.int .u32 (pin (ins L k)).f2) ∧ w.cell? ⟨(ad.add (k * 4)).block, (ad.add (k * 4)).off + 3, none⟩ = some (.slice A3 (pin (ins L k)).f3.length c3) ∧
      (pin (ins L k)).f3.length ≤ c3 ∧ Kd.C (Kd.int .i32) w A3 (pin (ins L k)).f3.length (pin (ins L k)).f3 := by
  obtain ⟨A, cap, hb, hc, hK⟩ := h
  have hlen : (L.map pin).length = L.length := by simp
  have hK' : Kd.C k98 w A (L.map pin).length (L.map pin) := by rw [hlen]; exact hK
  obtain ⟨ad, _, _, e, _⟩ := at_T98 hK' 0 (by omega) (by omega)
  subst e
  refine ⟨ad, cap, hb, hc, hK.2.1, fun k hk => ?_⟩
  obtain ⟨ad', A3, c3, e, x0, x1, x2, x3, l3, g3⟩ := at_T98 hK' (k : Int) (by omega) (by omega)
  cases e
  have er : rd_T98 (L.map pin) (k : Int) = pin (ins L k) := by
    unfold rd_T98
    rw [List.getD_eq_getElem?_getD, Int.toNat_natCast, List.getElem?_map, List.getElem?_eq_getElem hk, ins_lt L k hk]; rfl
  rw [er] at x0 x1 x2 x3 l3 g3
  rw [Int.toNat_natCast] at x0 x1 x2 x3
  exact ⟨A3, c3, x0, x1, x2, x3, l3, g3⟩
theorem pin_op (i : I) : (pin i).f0 = i.f0 := by unfold pin; split <;> rfl
theorem pin_out {i : I} (h : ¬ (i.f0 = 4 ∨ i.f0 = 5)) : (pin i).f1 = i.f1 := by unfold pin; rw [if_neg h]
theorem pin_arg {i : I} (h : ¬ (i.f0 = 4 ∨ i.f0 = 5)) : (pin i).f2 = IntKind.u32.wrap i.f2 := by unfold pin; rw [if_neg h]
theorem dF_le (L : List I) : ∀ n pc, dF L n pc ≤ n := by
  intro n
  induction n with
  | zero => intro pc; exact Nat.le_refl _
  | succ n ih => intro pc; have := ih (ins L pc).f1.toNat; rw [dF]; split <;> omega
theorem PSound.arg3 {L : List I} {st nc most : Int} (h : PSound L st nc most) (pc : Nat) (hpc : pc < L.length) (h3 : (ins L pc).f0 = 3) : 0 < (ins L pc).f2 ∧ (ins L pc).f2 < 64 := by
  have h1 := h.inst pc hpc
  have h2 := h.outIn pc hpc (by omega)
  unfold instB at h1
  rw [if_neg (by omega), if_neg (fun e => e h2), if_neg (by omega), if_neg (by omega), if_pos h3, Bool.and_eq_true, decide_eq_true_eq, decide_eq_true_eq] at h1
  exact h1
end Go.Proofs.YtmccgfjhmbioeaaDoor.PgFnPgThreads
namespace Go.Proofs.YtmccgfjhmbioeaaDoor.PgFnPgThreads
open Go.RowKit Go.Proofs.YtmccgfjhmbioeaaDoor.EvN Go.Proofs.YtmccgfjhmbioeaaDoor.Row Go.Proofs.YtmccgfjhmbioeaaDoor.PFnPgThreads Go.Proofs.YtmccgfjhmbioeaaDoorW.PrintWords Go.Proofs.YtmccgfjhmbioeaaDoorW.PrintLast Go.Proofs.YtmccgfjhmbioeaaDoorW.PrintMore
def scF (L : List I) : Nat → Nat → Int → Int
  | 0, _, f => f
  | n + 1, pc, f =>
    if (ins L pc).f0 = 3 then scF L n (ins L pc).f1.toNat (Go.bits .or .u8 f (ins L pc).f2)
    else if (ins L pc).f0 = 5 then 255
    else if (ins L pc).f0 = 2 ∨ (ins L pc).f0 = 6 then scF L n (ins L pc).f1.toNat f
    else f
set_option maxRecDepth 100000 in
set_option maxHeartbeats 4000000 in
theorem start_calls {L : List I} {st nc most : Int} (h : PSound L st nc most) (hm : L.length ≤ 2000) (hop : ∀ pc, pc < L.length → 0 ≤ (ins L pc).f0 ∧ (ins L pc).f0 ≤ 10 ∧ (ins L pc).f0 ≠ 1) (p : Nat) (w : World) (hP : ProgAt w p L st nc) :
    Calls Tryd.prog 38 #[.pointer (some ⟨p, 0, none⟩)] w fun e w' => e = .returned (.int .u8 (scF L L.length st.toNat 0)) ∧ w' = w := by
  obtain ⟨ad, cap, hb, hc, h63, hI⟩ := pinst_at hP h.pos
  obtain ⟨s, hs⟩ : ∃ s : Nat, st = (s : Int) := ⟨st.toNat, by have := h.st0; omega⟩
  subst hs
  have hs1 : s < L.length := by have := h.st1; omega
  have HS := Lib.hid h
  have HI := Lib.hid hI
  have HB := Lib.hid hb
  have HOP := Lib.hid hop
  obtain ⟨hz0, hz1, hz2⟩ := blk3 hb
  rw [Int.toNat_natCast]
  clear h hI hb hop hP
  go_enter Tryd.func38, Tryd.ntmps38
  go_wp2_with fail
  go_step3
  go_wp2_with fail
  go_step3
  go_wp2_with fail
  clear hz0 hz1 hz2
  obtain ⟨R, hR⟩ : ∃ R, R = scF L L.length s 0 := ⟨_, rfl⟩
  have HR := Lib.hid hR
  clear hR
  go_loopg [3, 4, 5] L.length (fun gk s3 s4 s5 wr => ∃ (k : Nat) (f : Int), Hid (dF L L.length k ≤ gk ∧ R = scF L gk k f ∧ w = wr) ∧ k < L.length ∧ s3 = .int .u8 f ∧ s4 = .int .u32 k ∧ s5 = .pointer (some (ad.add (k * 4))))
  case atStart => exact ⟨s, 0, ⟨dF_le _ _ _, HR.out, rfl⟩, hs1, rfl, rfl, rfl⟩
  case round =>
    obtain ⟨k, f, HK, hk, rfl, rfl, rfl⟩ := hrel
    obtain rfl := HK.out.2.2
    obtain ⟨A3, c3, hx0, hx1, hx2, hx3, -, -⟩ := HI.out k hk
    obtain ⟨g, hg⟩ : ∃ g, gk = g + 1 := ⟨gk - 1, by have := @dF_pos L L.length k (by omega); have := HK.out.1; omega⟩
    subst hg
    have HST := Lib.hid (dF_step HS.out k hk)
    have HOUT := Lib.hid (HS.out.outIn k hk)
    have HARG := Lib.hid (HS.out.arg3 k hk)
    obtain ⟨hz0, hz1, hz2⟩ := blk3 HB.out
    obtain ⟨op0, op1, op2⟩ := HOP.out k hk
    have HP1 := Lib.hid (And.intro (pin_op (ins L k)) (And.intro (@pin_out (ins L k)) (@pin_arg (ins L k))))
    have HV := Lib.hid (show scF L (g + 1) k f = _ by rw [scF])
    rw [HP1.out.1] at hx0
    have hcase : (ins L k).f0 = 3 ∨ (ins L k).f0 = 5 ∨ ((ins L k).f0 = 2 ∨ (ins L k).f0 = 6) ∨ ((ins L k).f0 = 0 ∨ (ins L k).f0 = 4 ∨ (ins L k).f0 = 7 ∨ (ins L k).f0 = 8 ∨ (ins L k).f0 = 9 ∨ (ins L k).f0 = 10) := by omega
    rcases hcase with hc3 | hc5 | hc26 | hco
    · rw [HP1.out.2.1 (by omega)] at hx1
      obtain ⟨o, ho⟩ : ∃ o : Nat, (ins L k).f1 = (o : Int) := ⟨(ins L k).f1.toNat, by have := (HOUT.out (by omega)).1; omega⟩
      have ho2 : o < L.length := by have := (HOUT.out (by omega)).2; omega
      have HD : Hid (dF L L.length k = 1 + dF L L.length o) := Lib.hid (by have := HST.out (by unfold term; omega); rwa [ho, Int.toNat_natCast] at this)
      rw [ho] at hx1
      obtain ⟨a1, a2⟩ := HARG.out hc3
      rw [HP1.out.2.2 (by omega), wrap_u32 (by omega) (by omega)] at hx2
      rw [hc3] at hx0
      have HN : Hid (scF L (g + 1) k f = scF L g o (Go.bits .or .u8 f (ins L k).f2)) := Lib.hid (by rw [HV.out, if_pos hc3, ho, Int.toNat_natCast])
      generalize (ins L k).f2 = arg at *
      clear HV ho hc3
      go_wp2_with fail
      go_roundg g
      case measure => omega
      case rel => exact ⟨o, _, ⟨by have := HD.out; have := HK.out.1; omega, by rw [← HN.out]; exact HK.out.2.1, rfl⟩, ho2, rfl, rfl, rfl⟩
    · have HN : Hid (scF L (g + 1) k f = 255) := Lib.hid (by rw [HV.out, if_neg (by omega), if_pos hc5])
      rw [hc5] at hx0
      clear HV hc5
      go_wp2_with fail
      (first | rw [Exit.noGoto_ret] | skip)
      go_ret
      exact ⟨by rw [← HR.out, HK.out.2.1, HN.out]; rfl, rfl⟩
    · rw [HP1.out.2.1 (by omega)] at hx1
      obtain ⟨o, ho⟩ : ∃ o : Nat, (ins L k).f1 = (o : Int) := ⟨(ins L k).f1.toNat, by have := (HOUT.out (by omega)).1; omega⟩
      have ho2 : o < L.length := by have := (HOUT.out (by omega)).2; omega
      have HD : Hid (dF L L.length k = 1 + dF L L.length o) := Lib.hid (by have := HST.out (by unfold term; omega); rwa [ho, Int.toNat_natCast] at this)
      rw [ho] at hx1
      have HN : Hid (scF L (g + 1) k f = scF L g o f) := Lib.hid (by rw [HV.out, if_neg (by omega), if_neg (by omega), if_pos hc26, ho, Int.toNat_natCast])
      rcases hc26 with hc | hc
      all_goals
        rw [hc] at hx0
        clear HV ho hc
        go_wp2_with fail
        go_roundg g
        case measure => omega
        case rel => exact ⟨o, _, ⟨by have := HD.out; have := HK.out.1; omega, by rw [← HN.out]; exact HK.out.2.1, rfl⟩, ho2, rfl, rfl, rfl⟩
    · have HN : Hid (scF L (g + 1) k f = f) := Lib.hid (by rw [HV.out, if_neg (by omega), if_neg (by omega), if_neg (by omega)])
      rcases hco with hc | hc | hc | hc | hc | hc
      all_goals
        rw [hc] at hx0
        clear HV hc
        go_wp2_with fail
        (first | rw [Exit.noGoto_ret] | skip)
        go_ret
        exact ⟨by rw [← HR.out, HK.out.2.1, HN.out]; rfl, rfl⟩
end Go.Proofs.YtmccgfjhmbioeaaDoor.PgFnPgThreads
