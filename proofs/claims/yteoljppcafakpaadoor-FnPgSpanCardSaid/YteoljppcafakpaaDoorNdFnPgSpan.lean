import Derived.Test.YteoljppcafakpaaDoorPiFnPgSpan
import Derived.WalkMore
import Derived.ScopeJumps
namespace Go.Proofs.YteoljppcafakpaaDoor.PgFnPgSpan
open Go.RowKit Go.Proofs.YteoljppcafakpaaDoor.EvN Go.Proofs.YteoljppcafakpaaDoor.Row Go.Proofs.YteoljppcafakpaaDoor.PFnPgSpan Go.Proofs.YteoljppcafakpaaDoorW.PrintWords Go.Proofs.YteoljppcafakpaaDoorW.PrintLast Go.Proofs.YteoljppcafakpaaDoorW.PrintMore
def scF (L : List I) : Nat → Nat → Int → Int
  | 0, _, f => f
  | n + 1, pc, f =>
    if (ins L pc).f0 = 3 then scF L n (ins L pc).f1.toNat (Go.bits .or .u8 f (ins L pc).f2)
    else if (ins L pc).f0 = 5 then 255
    else if (ins L pc).f0 = 2 ∨ (ins L pc).f0 = 6 then scF L n (ins L pc).f1.toNat f
    else f
set_option maxRecDepth 100000 in
set_option maxHeartbeats 4000000 in
theorem start_calls {L : List I} {st nc most : Int} (h : PSound L st nc most) (hm : L.length ≤ 2000) (hop : ∀ pc, pc < L.length → 0 ≤ (ins L pc).f0 ∧ (ins L pc).f0 ≤ 10 ∧ (ins L pc).f0 ≠ 1) (p : Nat) (w : World) (hP : ProgAt w p L st nc) :
    Calls Tryd.prog 76 #[.pointer (some ⟨p, 0, none⟩)] w fun e w' => e = .returned (.int .u8 (scF L L.length st.toNat 0)) ∧ w' = w := by
  obtain ⟨ad, cap, hb, hc, h63, hI⟩ := pinst_at hP h.pos
  obtain ⟨s, hs⟩ : ∃ s : Nat, st = (s : Int) := ⟨st.toNat, by have := h.st0; omega⟩
  subst hs
  have hs1 : s < L.length := by have := h.st1; omega
  have HS := Lib.hid h
  have HI := Lib.hid hI
  have HB := Lib.hid hb
  have HOP := Lib.hid hop
  obtain ⟨hz0, hz1, hz2⟩ := blk3 hb
  rw [Int.toNat_natCast]
  clear h hI hb hop hP
  go_enter Tryd.func76, Tryd.ntmps76
  go_wp2_with fail
  go_step3
  go_wp2_with fail
  go_step3
  go_wp2_with fail
  clear hz0 hz1 hz2
  obtain ⟨R, hR⟩ : ∃ R, R = scF L L.length s 0 := ⟨_, rfl⟩
  have HR := Lib.hid hR
  clear hR
  go_loopg [3, 4, 5] L.length (fun gk s3 s4 s5 wr => ∃ (k : Nat) (f : Int), Hid (dF L L.length k ≤ gk ∧ R = scF L gk k f ∧ w = wr) ∧ k < L.length ∧ s3 = .int .u8 f ∧ s4 = .int .u32 k ∧ s5 = .pointer (some (ad.add (k * 4))))
  case atStart => exact ⟨s, 0, ⟨dF_le _ _ _, HR.out, rfl⟩, hs1, rfl, rfl, rfl⟩
  case round =>
    obtain ⟨k, f, HK, hk, rfl, rfl, rfl⟩ := hrel
    obtain rfl := HK.out.2.2
    obtain ⟨A3, c3, hx0, hx1, hx2, hx3, -, -⟩ := HI.out k hk
    obtain ⟨g, hg⟩ : ∃ g, gk = g + 1 := ⟨gk - 1, by have := @dF_pos L L.length k (by omega); have := HK.out.1; omega⟩
    subst hg
    have HST := Lib.hid (dF_step HS.out k hk)
    have HOUT := Lib.hid (HS.out.outIn k hk)
    have HARG := Lib.hid (HS.out.arg3 k hk)
    obtain ⟨hz0, hz1, hz2⟩ := blk3 HB.out
    obtain ⟨op0, op1, op2⟩ := HOP.out k hk
    have HP1 := Lib.hid (And.intro (pin_op (ins L k)) (And.intro (@pin_out (ins L k)) (@pin_arg (ins L k))))
    have HV := Lib.hid (show scF L (g + 1) k f = _ by rw [scF])
    rw [HP1.out.1] at hx0
    have hcase : (ins L k).f0 = 3 ∨ (ins L k).f0 = 5 ∨ ((ins L k).f0 = 2 ∨ (ins L k).f0 = 6) ∨ ((ins L k).f0 = 0 ∨ (ins L k).f0 = 4 ∨ (ins L k).f0 = 7 ∨ (ins L k).f0 = 8 ∨ (ins L k).f0 = 9 ∨ (ins L k).f0 = 10) := by omega
    rcases hcase with hc3 | hc5 | hc26 | hco
    · rw [HP1.out.2.1 (by omega)] at hx1
      obtain ⟨o, ho⟩ : ∃ o : Nat, (ins L k).f1 = (o : Int) := ⟨(ins L k).f1.toNat, by have := (HOUT.out (by omega)).1; omega⟩
      have ho2 : o < L.length := by have := (HOUT.out (by omega)).2; omega
      have HD : Hid (dF L L.length k = 1 + dF L L.length o) := Lib.hid (by have := HST.out (by unfold term; omega); rwa [ho, Int.toNat_natCast] at this)
      rw [ho] at hx1
      obtain ⟨a1, a2⟩ := HARG.out hc3
      rw [HP1.out.2.2 (by omega), wrap_u32 (by omega) (by omega)] at hx2
      rw [hc3] at hx0
      have HN : Hid (scF L (g + 1) k f = scF L g o (Go.bits .or .u8 f (ins L k).f2)) := Lib.hid (by rw [HV.out, if_pos hc3, ho, Int.toNat_natCast])
      generalize (ins L k).f2 = arg at *
      clear HV ho hc3
      go_wp2_with fail
      go_roundg g
      case measure => omega
      case rel => exact ⟨o, _, ⟨by have := HD.out; have := HK.out.1; omega, by rw [← HN.out]; exact HK.out.2.1, rfl⟩, ho2, rfl, rfl, rfl⟩
    · have HN : Hid (scF L (g + 1) k f = 255) := Lib.hid (by rw [HV.out, if_neg (by omega), if_pos hc5])
      rw [hc5] at hx0
      clear HV hc5
      go_wp2_with fail
      (first | rw [Exit.noGoto_ret] | skip)
      go_ret
      exact ⟨by rw [← HR.out, HK.out.2.1, HN.out]; rfl, rfl⟩
    · rw [HP1.out.2.1 (by omega)] at hx1
      obtain ⟨o, ho⟩ : ∃ o : Nat, (ins L k).f1 = (o : Int) := ⟨(ins L k).f1.toNat, by have := (HOUT.out (by omega)).1; omega⟩
      have ho2 : o < L.length := by have := (HOUT.out (by omega)).2; omega
      have HD : Hid (dF L L.length k = 1 + dF L L.length o) := Lib.hid (by have := HST.out (by unfold term; omega); rwa [ho, Int.toNat_natCast] at this)
      rw [ho] at hx1
      have HN : Hid (scF L (g + 1) k f = scF L g o f) := Lib.hid (by rw [HV.out, if_neg (by omega), if_neg (by omega), if_pos hc26, ho, Int.toNat_natCast])
      rcases hc26 with hc | hc
      all_goals
        rw [hc] at hx0
        clear HV ho hc
        go_wp2_with fail
        go_roundg g
        case measure => omega
        case rel => exact ⟨o, _, ⟨by have := HD.out; have := HK.out.1; omega, by rw [← HN.out]; exact HK.out.2.1, rfl⟩, ho2, rfl, rfl, rfl⟩
    · have HN : Hid (scF L (g + 1) k f = f) := Lib.hid (by rw [HV.out, if_neg (by omega), if_neg (by omega), if_neg (by omega)])
      rcases hco with hc | hc | hc | hc | hc | hc
      all_goals
        rw [hc] at hx0
        clear HV hc
        go_wp2_with fail
        (first | rw [Exit.noGoto_ret] | skip)
        go_ret
        exact ⟨by rw [← HR.out, HK.out.2.1, HN.out]; rfl, rfl⟩
end Go.Proofs.YteoljppcafakpaaDoor.PgFnPgSpan
