/- The walk of onePassPrefix: the literal prefix of an anchored program. -/
import Derived.Test.YteoljppcafakpaaDoorUbFnPgOnePrefix
import Derived.Test.YteoljppcafakpaaDoorFiFnPgOnePrefix
import Derived.Test.YteoljppcafakpaaDoorBd
import Derived.WalkMore
import Derived.OwnWalk
namespace Go.Proofs.YteoljppcafakpaaDoor.PgFnPgOnePrefix
open Go.RowKit Go.Proofs.YteoljppcafakpaaDoor.EvN Go.Proofs.YteoljppcafakpaaDoor.Row Go.Proofs.YteoljppcafakpaaDoor.Sf Go.Proofs.YteoljppcafakpaaDoor.Bd Go.Proofs.YteoljppcafakpaaDoor.PFnPgOnePrefix Go.Proofs.YteoljppcafakpaaDoorW.PrintWords Go.Proofs.YteoljppcafakpaaDoorW.PrintLast Go.Proofs.YteoljppcafakpaaDoorW.PrintMore
set_option linter.unusedSimpArgs false
set_option linter.unusedVariables false

def iopF (o : Int) : Int := if o = 8 ∨ o = 9 ∨ o = 10 then 7 else o
set_option maxRecDepth 100000 in
theorem iop_calls (ad : Addr) (o : Int) (h0 : 0 ≤ o ∧ o ≤ 10) (w : World) (hx : w.cell? ad = some (.int .u8 o)) :
    Calls Tryd.prog 68 #[.pointer (some ad)] w fun e w' => e = .returned (.int .u8 (iopF o)) ∧ w' = w := by
  unfold iopF
  have hcase : o = 8 ∨ o = 9 ∨ o = 10 ∨ (o ≠ 8 ∧ o ≠ 9 ∧ o ≠ 10) := by omega
  rcases hcase with rfl | rfl | rfl | ⟨n8, n9, n10⟩
  · rw [if_pos (by decide)]
    go_enter Tryd.func68, Tryd.ntmps68
    go_wp2_with fail
    go_ret
    exact ⟨rfl, rfl⟩
  · rw [if_pos (by decide)]
    go_enter Tryd.func68, Tryd.ntmps68
    go_wp2_with fail
    go_ret
    exact ⟨rfl, rfl⟩
  · rw [if_pos (by decide)]
    go_enter Tryd.func68, Tryd.ntmps68
    go_wp2_with fail
    go_ret
    exact ⟨rfl, rfl⟩
  · rw [if_neg (by omega)]
    have e8 : (o == 8) = false := by rw [beq_eq_false_iff_ne]; exact n8
    have e9 : (o == 9) = false := by rw [beq_eq_false_iff_ne]; exact n9
    have e10 : (o == 10) = false := by rw [beq_eq_false_iff_ne]; exact n10
    go_enter Tryd.func68, Tryd.ntmps68
    go_wp2_with fail
    go_ret
    exact ⟨rfl, rfl⟩

theorem nopF_stop (L : List I) (n k : Nat) (h : (ins L k).f0 ≠ 6) : nopF L n k = k := by
  cases n with
  | zero => rfl
  | succ n => rw [nopF, if_neg h]
theorem litF_stop (L : List I) (n k : Nat) (h : ¬ isLit (ins L k) = true) : litF L n k = ([], k) := by
  cases n with
  | zero => rfl
  | succ n => rw [litF, if_neg h]
theorem encs_snoc (a : List Int) (c : Int) : encs (a ++ [c]) = encs a ++ Lib.encodeRune c := by unfold encs; simp
theorem encs_le (a : List Int) : (encs a).length ≤ 4 * a.length := by
  induction a with
  | nil => simp [encs]
  | cons c a ih =>
    have : (Lib.encodeRune c).length ≤ 4 := by rw [← Lib.runeCells_length]; exact (Lib.runeCells_le c).2
    simp only [encs, List.flatMap_cons, List.length_append, List.length_cons] at ih ⊢
    omega
theorem add_00 (a : Addr) : a.add 0 = a := by unfold Addr.add; split <;> simp_all
theorem cell_below {w w' : World} (hb : Below w.heap.size w w') {a : Addr} {v : Value} (h : w.cell? a = some v) : w'.cell? a = some v := (hb.cell (World.block_lt_of_cell? w _ h)).trans h
theorem below_drewN {b : Nat} {w w' : World} (h : Below b w w') (q : Nat) : Below b w (w'.drewN q) := ⟨h.os, h.tape, h.output, h.size, h.block⟩

set_option maxRecDepth 100000 in
set_option maxHeartbeats 4000000 in
theorem opp_calls {L : List I} {st nc most : Int} (h : PSound L st nc most) (hm : L.length ≤ 2000) (p : Nat) (w : World) (hP : ProgAt w p L st nc) (t : Nat) (ht : st = (t : Int)) (h3 : (ins L t).f0 = 3) (h4 : (Go.bits .and .u8 (ins L t).f2 4 == 0) = false) :
    Calls Tryd.prog 46 #[.pointer (some ⟨p, 0, none⟩)] w fun e w' => e = .returned (.tuple #[.string ⟨(encs (opF L t).1).toArray⟩, .bool (opF L t).2.1, .int .u32 ((opF L t).2.2 : Nat)]) ∧ Below w.heap.size w w' := by
  obtain ⟨ad, cap, hb, hc, h63, hI⟩ := pinst_at hP h.pos
  subst ht
  have hs1 : t < L.length := by have := h.st1; omega
  have HOP := Lib.hid h.op
  have HS := Lib.hid h
  have HI := Lib.hid hI
  have HB := Lib.hid hb
  obtain ⟨hz0, hz1, hz2⟩ := blk3 hb
  obtain ⟨A3, c3, hx0, hx1, hx2, hx3, -, -⟩ := hI t hs1
  obtain ⟨a1, a2⟩ := h.arg3 t hs1 h3
  obtain ⟨o1, o2⟩ := h.outIn t hs1 (by omega)
  obtain ⟨o, ho⟩ : ∃ o : Nat, (ins L t).f1 = (o : Int) := ⟨(ins L t).f1.toNat, by omega⟩
  rw [pin_op, h3] at hx0
  rw [pin_out (by omega), ho] at hx1
  rw [pin_arg (by omega), wrap_u32 (by omega) (by omega)] at hx2
  have ho2 : o < L.length := by omega
  obtain ⟨R, hR⟩ : ∃ R, R = nopF L L.length o := ⟨_, rfl⟩
  have hopf : opF L t = if isRu (ins L R) = true then ((litF L L.length R).1, endB L (litF L L.length R).2, (litF L L.length R).2) else ([], decide ((ins L R).f0 = 4), t) := by
    unfold opF; rw [ho, Int.toNat_natCast, ← hR]
  obtain ⟨X, hX⟩ : ∃ X, X = opF L t := ⟨_, rfl⟩
  rw [← hX]
  have HX := Lib.hid (hX.trans hopf)
  have HR := Lib.hid hR
  generalize (ins L t).f2 = arg at *
  clear h hI hb hP h3 hopf hR ho hX
  go_enter Tryd.func46, Tryd.ntmps46
  go_wp2_with fail
  go_quiet (fail)
  go_wp2_with fail
  clear hz0 hz1 hz2 hx0 hx1 hx2 hx3
  have fwd : ∀ k, k < L.length → (ins L k).f0 = 6 → ∃ o : Nat, (ins L k).f1 = (o : Int) ∧ o < L.length ∧ dF L L.length k = 1 + dF L L.length o := fun k hk h6 => by
    obtain ⟨o1, o2⟩ := HS.out.outIn k hk (by omega)
    have hd := dF_step HS.out k hk (by unfold term; omega)
    exact ⟨(ins L k).f1.toNat, by omega, by omega, hd⟩
  have FWD := Lib.hid fwd
  clear fwd
  go_loopg [4, 5] L.length (fun gk s4 s5 wr => ∃ (k : Nat), Hid (dF L L.length k ≤ gk ∧ R = nopF L gk k ∧ Below w.heap.size w wr) ∧ k < L.length ∧ s4 = .int .u32 k ∧ s5 = .pointer (some (ad.add (k * 4))))
  case atStart => exact ⟨o, ⟨dF_le _ _ _, HR.out, below_drewN (Below.refl _ w) _⟩, ho2, rfl, rfl⟩
  case round =>
    obtain ⟨k, HK, hk, rfl, rfl⟩ := hrel
    obtain ⟨A3, c3, hx0, hx1, hx2, hx3, l3, g3⟩ := HI.out k hk
    have HG3 := Lib.hid (And.intro l3 g3)
    clear l3 g3
    obtain ⟨op0, op1, op2⟩ := HOP.out k hk
    obtain ⟨hz0, hz1, hz2⟩ := blk3 (blk_below HB.out HK.out.2.2)
    rw [pin_op] at hx0
    replace hx0 := cell_below HK.out.2.2 hx0
    replace hx1 := cell_below HK.out.2.2 hx1
    replace hx2 := cell_below HK.out.2.2 hx2
    replace hx3 := cell_below HK.out.2.2 hx3
    by_cases h6 : (ins L k).f0 = 6
    · obtain ⟨g, hg⟩ : ∃ g, gk = g + 1 := ⟨gk - 1, by have := @dF_pos L L.length k (by omega); have := HK.out.1; omega⟩
      subst hg
      obtain ⟨o', ho', ho2', hd'⟩ := FWD.out k hk h6
      rw [pin_out (by omega), ho'] at hx1
      have HN : Hid (nopF L (g + 1) k = nopF L g o') := Lib.hid (by rw [nopF, if_pos h6, ho', Int.toNat_natCast])
      rw [h6] at hx0
      have HD := Lib.hid hd'
      clear h6 ho' hd'
      go_wp2_with fail
      go_roundg g
      case measure => omega
      case rel => exact ⟨o', ⟨by have := HD.out; have := HK.out.1; omega, by rw [← HN.out]; exact HK.out.2.1, HK.out.2.2⟩, ho2', rfl, rfl⟩
    · have hRk : R = k := by rw [HK.out.2.1, nopF_stop L gk k h6]
      subst hRk
      have e6 : ((ins L R).f0 == 6) = false := by rw [beq_eq_false_iff_ne]; exact h6
      have HBr := Lib.hid HK.out.2.2
      have HCs := Lib.hid (And.intro hx1 (And.intro hx2 hx3))
      clear HK hz0 hz1 hz2 hx1 hx2
      go_wp2_with fail
      refine (iop_calls _ _ ⟨op0, op1⟩ _ hx0).mono ?_
      rintro e w1 ⟨rfl, rfl⟩
      by_cases hru : isRu (ins L R) = true
      · have HX1 := Lib.hid (HX.out.trans (if_pos hru))
        have hr2 : 7 ≤ (ins L R).f0 ∧ (ins L R).f3.length = 1 := by unfold isRu at hru; simpa using hru
        have hio : iopF (ins L R).f0 = 7 := by unfold iopF; split <;> omega
        have hpl : (pin (ins L R)).f3.length = 1 := by unfold pin; rw [if_neg (by omega)]; exact hr2.2
        rw [hio]
        rw [hpl] at hx3
        go_wp2_with fail
        obtain ⟨gb, hgb⟩ : ∃ gb, gb = w1.heap.size := ⟨_, rfl⟩
        have HBI := Lib.hid (Lib.fresh_isBuilder bT bE w1)
        have HBA := Lib.hid (below_alloc (Below.refl w1.heap.size w1) (.cells #[.pointer none, .slice none 0 0] bT))
        have HAS := Lib.hid (show (w1.alloc (.cells #[.pointer none, .slice none 0 0] bT)).heap.size = w1.heap.size + 1 by simp)
        rw [← hgb] at HBI HBA HAS ⊢
        have HGB := Lib.hid hgb
        have HB1 := Lib.hid (show Below w.heap.size w (w1.alloc (.cells #[.pointer none, .slice none 0 0] bT)) from below_alloc HBr.out _)
        have HLE := Lib.hid (show w.heap.size ≤ gb by rw [hgb]; exact HBr.out.size)
        clear hgb hx0 hx3 HCs HG3 HBr hr2 hio hpl e6
        generalize hw2 : w1.alloc (.cells #[.pointer none, .slice none 0 0] bT) = w2 at *
        clear hw2
        go_loopg [4, 5] L.length (fun gk s4 s5 wr => ∃ (k : Nat) (acc : List Int), Hid (dF L L.length k ≤ gk ∧ acc.length + gk = L.length ∧ litF L L.length R = (acc ++ (litF L gk k).1, (litF L gk k).2) ∧ Lib.IsBuilder bT bE gb gb (Lib.byteCells (encs acc)) wr ∧ Below gb w2 wr ∧ w2.heap.size ≤ wr.heap.size) ∧ k < L.length ∧ s4 = .int .u32 k ∧ s5 = .pointer (some (ad.add (k * 4))))
        case atStart => exact ⟨R, [], ⟨dF_le _ _ _, by simp, rfl, HBI.out, Below.refl _ _, Nat.le_refl _⟩, hk, rfl, rfl⟩
        case round =>
          obtain ⟨k, acc, HQ, hk, rfl, rfl⟩ := hrel
          have HBw := Lib.hid (show Below w.heap.size w wr from HB1.out.trans (HQ.out.2.2.2.2.1.mono HLE.out))
          obtain ⟨A3, c3, hx0, hx1, hx2, hx3, l3, g3⟩ := HI.out k hk
          have HG3 := Lib.hid (And.intro l3 g3)
          clear l3 g3
          obtain ⟨op0, op1, op2⟩ := HOP.out k hk
          rw [pin_op] at hx0
          replace hx0 := cell_below HBw.out hx0
          replace hx1 := cell_below HBw.out hx1
          replace hx2 := cell_below HBw.out hx2
          replace hx3 := cell_below HBw.out hx3
          by_cases hl : isLit (ins L k) = true
          · obtain ⟨h8, h1, c0, c1, c2⟩ := lit_says HS.out k hk hl
            have hfz : Go.bits .and .u16 (IntKind.u16.wrap (IntKind.u32.wrap (ins L k).f2)) 1 = 0 := by
              unfold isLit foldZ at hl
              simp only [Bool.and_eq_true] at hl
              exact eq_of_beq hl.1.2
            have hpn : pin (ins L k) = ⟨(ins L k).f0, (ins L k).f1, IntKind.u32.wrap (ins L k).f2, (ins L k).f3⟩ := by unfold pin; rw [if_neg (by omega)]
            obtain ⟨cc, hcc⟩ : ∃ cc, (ins L k).f3 = [cc] := List.length_eq_one_iff.1 h1
            rw [hpn, hcc] at HG3
            rw [hpn] at hx1 hx2 hx3
            simp only [hcc, List.length_cons, List.length_nil, Nat.zero_add] at hx3
            rw [hcc] at c0 c1 c2
            simp only [List.getD_cons_zero] at c0 c1 c2
            simp only at hx1 hx2
            rw [h8] at hx0
            obtain ⟨g, hg⟩ : ∃ g, gk = g + 1 := ⟨gk - 1, by have := @dF_pos L L.length k (by omega); have := HQ.out.1; omega⟩
            subst hg
            obtain ⟨o1', o2'⟩ := HS.out.outIn k hk (by omega)
            obtain ⟨o', ho'⟩ : ∃ o' : Nat, (ins L k).f1 = (o' : Int) := ⟨(ins L k).f1.toNat, by omega⟩
            rw [ho'] at hx1
            have hn2 : o' < L.length := by omega
            have hstep : litF L (g + 1) k = (cc :: (litF L g o').1, (litF L g o').2) := by rw [litF, if_pos hl, hcc, ho', Int.toNat_natCast]; rfl
            have HST := Lib.hid hstep
            have HD := Lib.hid (show dF L L.length k = 1 + dF L L.length o' by
              by_cases ht : term (ins L k)
              · unfold term at ht; omega
              · have := dF_step HS.out k hk ht; rwa [ho', Int.toNat_natCast] at this)
            obtain ⟨ad3, rfl, hrc⟩ : ∃ ad3, A3 = some ad3 ∧ wr.cell? ad3 = some (.int .i32 cc) := by
              obtain ⟨ad3, e, hc3⟩ := kd_cell (show Kd.C (Kd.int .i32) w A3 [cc].length [cc] from HG3.out.2) (Below.refl _ w) 0 (by simp)
              rw [add_00] at hc3
              exact ⟨ad3, e, cell_below HBw.out hc3⟩
            have hne : (cc != 65533) = true := by rw [bne_iff_ne]; exact c2
            clear hl h1 hpn hcc hstep
            generalize IntKind.u32.wrap (ins L k).f2 = a2 at *
            go_wp2_with fail
            refine (iop_calls _ _ ⟨by decide, by decide⟩ _ hx0).mono ?_
            rintro e w3 ⟨rfl, rfl⟩
            rw [show iopF 8 = 7 from rfl]
            go_wp2_with fail
            have hal : acc.length ≤ 2000 := by have := HQ.out.2.1; omega
            have hbl := encs_le acc
            refine (write_calls gb gb _ cc (by omega) (by omega) _ HQ.out.2.2.2.1 (by rw [Lib.byteCells_length]; omega) (by have := HQ.out.2.2.2.2.2; have := HAS.out; omega)).mono ?_
            rintro e w4 ⟨rfl, hbd, hb4⟩
            have HQ4 := Lib.hid (show Lib.IsBuilder bT bE gb gb (Lib.byteCells (encs (acc ++ [cc]))) w4 by
              rw [encs_snoc, Lib.byteCells_append, Lib.byteCells_encodeRune]; exact .inr hbd)
            have HB4 := Lib.hid hb4
            have HBw4 := Lib.hid (HBw.out.trans (hb4.mono HLE.out))
            clear hbd hb4 hx0 hx1 hx2 hx3 hrc hbl
            obtain ⟨A3', c3', hx0, hx1, hx2, hx3, -, -⟩ := HI.out k hk
            rw [pin_out (by omega), ho'] at hx1
            replace hx1 := cell_below HBw4.out hx1
            obtain ⟨hz0, hz1, hz2⟩ := blk3 (blk_below HB.out HBw4.out)
            clear hx0 hx2 hx3
            go_wp2_with fail
            go_quiet (fail)
            go_wp2_with fail
            go_roundg g
            case measure => omega
            case rel => exact ⟨o', acc ++ [cc], ⟨by have := HD.out; have := HQ.out.1; omega, by rw [List.length_append]; have := HQ.out.2.1; simp; omega, by rw [HQ.out.2.2.1, HST.out]; simp, HQ4.out, below_drewN (HQ.out.2.2.2.2.1.trans HB4.out) _, Nat.le_trans HQ.out.2.2.2.2.2 (by have := HB4.out.size; exact this)⟩, hn2, rfl, rfl⟩
          · have hst := litF_stop L gk k hl
            have hX : X = (acc, endB L k, k) := by
              have := HQ.out.2.2.1
              rw [hst] at this
              rw [HX1.out, this]
              simp
            have HXX := Lib.hid hX
            have hbl := encs_le acc
            have hal : acc.length ≤ 2000 := by have := HQ.out.2.1; omega
            have hrun : ((iopF (ins L k).f0 == 7) = false) ∨ (iopF (ins L k).f0 = 7 ∧ ¬ ((ins L k).f0 = 4 ∨ (ins L k).f0 = 5) ∧ ((¬ (ins L k).f3.length = 1) ∨ ((ins L k).f3.length = 1 ∧ (¬ Go.bits .and .u16 (IntKind.u16.wrap (IntKind.u32.wrap (ins L k).f2)) 1 = 0 ∨ (Go.bits .and .u16 (IntKind.u16.wrap (IntKind.u32.wrap (ins L k).f2)) 1 = 0 ∧ (ins L k).f3.getD 0 0 = 65533))))) := by
              by_cases h7 : 7 ≤ (ins L k).f0
              · right
                refine ⟨by unfold iopF; split <;> omega, by omega, ?_⟩
                by_cases h1 : (ins L k).f3.length = 1
                · right
                  refine ⟨h1, ?_⟩
                  by_cases hf : Go.bits .and .u16 (IntKind.u16.wrap (IntKind.u32.wrap (ins L k).f2)) 1 = 0
                  · right
                    refine ⟨hf, ?_⟩
                    by_cases hc : (ins L k).f3.getD 0 0 = 65533
                    · exact hc
                    · exfalso
                      apply hl
                      unfold isLit isRu foldZ
                      rw [hf, decide_eq_true h7, decide_eq_true h1]
                      simpa using hc
                  · exact .inl hf
                · exact .inl h1
              · left; rw [beq_eq_false_iff_ne]; unfold iopF; split <;> omega
            have HEX := Lib.hid (show (ins L k).f0 = 3 → (IntKind.u8.wrap (IntKind.u32.wrap (ins L k).f2) = (ins L k).f2 ∧ 0 < (ins L k).f2 ∧ (ins L k).f2 < 64) ∧ ∃ o' : Nat, (ins L k).f1 = (o' : Int) ∧ o' < L.length from fun h3 => by
              obtain ⟨x1, x2⟩ := HS.out.arg3 k hk h3
              obtain ⟨y1, y2⟩ := HS.out.outIn k hk (by omega)
              exact ⟨⟨by rw [wrap_u32 (by omega) (by omega), wrap_u8 (by omega) (by omega)], x1, x2⟩, (ins L k).f1.toNat, by omega, by omega⟩)
            clear hl hst hX
            by_cases g3 : (ins L k).f0 = 3
            · obtain ⟨⟨e8, x1, x2⟩, o', ho', hn2⟩ := HEX.out g3
              obtain ⟨A4, c4, hy0, -, -, -, -, -⟩ := HI.out o' hn2
              rw [pin_op] at hy0
              replace hy0 := cell_below HBw.out hy0
              rw [g3] at hx0
              rw [pin_out (by omega), ho'] at hx1
              rw [pin_arg (by omega), wrap_u32 (by omega) (by omega)] at hx2
              have HEB := Lib.hid (show endB L k = ((Go.bits .and .u8 (ins L k).f2 8 != 0) && decide ((ins L o').f0 = 4)) by
                unfold endB
                rw [decide_eq_true g3, Bool.true_and, e8, ho', Int.toNat_natCast])
              obtain ⟨p0, p1, _⟩ := HOP.out o' hn2
              obtain ⟨hz0, hz1, hz2⟩ := blk3 (blk_below HB.out HBw.out)
              clear hx3 hrun HG3 g3 ho' e8
              generalize (ins L k).f2 = a2 at *
              generalize (ins L o').f0 = q2 at *
              go_wp2_with fail
              refine (iop_calls _ _ ⟨by decide, by decide⟩ _ hx0).mono ?_
              rintro e w3 ⟨rfl, rfl⟩
              rw [show iopF 3 = 3 from rfl]
              go_wp2_with fail
              have hthree : ((Go.bits .and .u8 a2 8 != 0) = false) ∨ ((Go.bits .and .u8 a2 8 != 0) = true ∧ (q2 == 4) = false) ∨ ((Go.bits .and .u8 a2 8 != 0) = true ∧ (q2 == 4) = true) := by
                cases Go.bits .and .u8 a2 8 != 0 <;> cases q2 == 4 <;> simp
              rcases hthree with h8 | ⟨h8, h4⟩ | ⟨h8, h4⟩
              · have HE := Lib.hid (show endB L k = false by rw [HEB.out, h8, Bool.false_and])
                go_quiet (fail)
                go_wp2_with fail
                refine (Tryd.Builder_String_any gb gb (encs acc) (w3.drewN nq) (show Lib.IsBuilder bT bE gb gb (Lib.byteCells (encs acc)) (w3.drewN nq) from HQ.out.2.2.2.1) (by have h1 := HQ.out.2.2.2.2.2; have h2 := HAS.out; show gb ≤ w3.heap.size; omega)).mono ?_
                rintro e w5 ⟨rfl, hb5⟩
                go_wp2_with fail
                go_ret3
                exact ⟨by rw [HXX.out, HE.out]; rfl, (below_drewN HBw.out _).trans (hb5.mono HLE.out)⟩
              · have HE := Lib.hid (show endB L k = false by rw [HEB.out, h8, Bool.true_and, decide_eq_false (beq_eq_false_iff_ne.1 h4)])
                go_quiet (fail)
                go_wp2_with fail
                refine (Tryd.Builder_String_any gb gb (encs acc) (w3.drewN nq) (show Lib.IsBuilder bT bE gb gb (Lib.byteCells (encs acc)) (w3.drewN nq) from HQ.out.2.2.2.1) (by have h1 := HQ.out.2.2.2.2.2; have h2 := HAS.out; show gb ≤ w3.heap.size; omega)).mono ?_
                rintro e w5 ⟨rfl, hb5⟩
                go_wp2_with fail
                go_ret3
                exact ⟨by rw [HXX.out, HE.out]; rfl, (below_drewN HBw.out _).trans (hb5.mono HLE.out)⟩
              · have HE := Lib.hid (show endB L k = true by rw [HEB.out, h8, Bool.true_and, decide_eq_true (eq_of_beq h4)])
                go_quiet (fail)
                go_wp2_with fail
                refine (Tryd.Builder_String_any gb gb (encs acc) (w3.drewN nq) (show Lib.IsBuilder bT bE gb gb (Lib.byteCells (encs acc)) (w3.drewN nq) from HQ.out.2.2.2.1) (by have h1 := HQ.out.2.2.2.2.2; have h2 := HAS.out; show gb ≤ w3.heap.size; omega)).mono ?_
                rintro e w5 ⟨rfl, hb5⟩
                go_wp2_with fail
                go_ret3
                exact ⟨by rw [HXX.out, HE.out]; rfl, (below_drewN HBw.out _).trans (hb5.mono HLE.out)⟩
            · have HE := Lib.hid (show endB L k = false by unfold endB; rw [decide_eq_false g3, Bool.false_and, Bool.false_and])
              have e3 : ((ins L k).f0 == 3) = false := by rw [beq_eq_false_iff_ne]; exact g3
              obtain ⟨hz0, hz1, hz2⟩ := blk3 (blk_below HB.out HBw.out)
              rcases hrun with h7 | ⟨h7, h45, hrun⟩
              · clear hx1 hx2 hx3 HG3 HEX g3
                generalize (ins L k).f0 = q0 at *
                go_wp2_with fail
                refine (iop_calls _ _ ⟨op0, op1⟩ _ hx0).mono ?_
                rintro e w3 ⟨rfl, rfl⟩
                go_wp2_with fail
                go_quiet (fail)
                go_wp2_with fail
                refine (Tryd.Builder_String_any gb gb (encs acc) (w3.drewN nq) (show Lib.IsBuilder bT bE gb gb (Lib.byteCells (encs acc)) (w3.drewN nq) from HQ.out.2.2.2.1) (by have h1 := HQ.out.2.2.2.2.2; have h2 := HAS.out; show gb ≤ w3.heap.size; omega)).mono ?_
                rintro e w5 ⟨rfl, hb5⟩
                go_wp2_with fail
                go_ret3
                exact ⟨by rw [HXX.out, HE.out]; rfl, (below_drewN HBw.out _).trans (hb5.mono HLE.out)⟩
              · have hpn : pin (ins L k) = ⟨(ins L k).f0, (ins L k).f1, IntKind.u32.wrap (ins L k).f2, (ins L k).f3⟩ := by unfold pin; rw [if_neg h45]
                rw [hpn] at HG3 hx1 hx2 hx3
                simp only at hx1 hx2 hx3 HG3
                rcases hrun with hlen | ⟨hlen, hrun⟩
                · clear hx1 hx2 HG3 HEX g3 h45 hpn
                  generalize (ins L k).f3.length = len at *
                  go_wp2_with fail
                  refine (iop_calls _ _ ⟨op0, op1⟩ _ hx0).mono ?_
                  rintro e w3 ⟨rfl, rfl⟩
                  rw [h7]
                  go_wp2_with fail
                  go_quiet (fail)
                  go_wp2_with fail
                  refine (Tryd.Builder_String_any gb gb (encs acc) (w3.drewN nq) (show Lib.IsBuilder bT bE gb gb (Lib.byteCells (encs acc)) (w3.drewN nq) from HQ.out.2.2.2.1) (by have h1 := HQ.out.2.2.2.2.2; have h2 := HAS.out; show gb ≤ w3.heap.size; omega)).mono ?_
                  rintro e w5 ⟨rfl, hb5⟩
                  go_wp2_with fail
                  go_ret3
                  exact ⟨by rw [HXX.out, HE.out]; rfl, (below_drewN HBw.out _).trans (hb5.mono HLE.out)⟩
                · obtain ⟨cc, hcc⟩ : ∃ cc, (ins L k).f3 = [cc] := List.length_eq_one_iff.1 hlen
                  rw [hcc] at HG3 hrun
                  simp only [hcc, List.length_cons, List.length_nil, Nat.zero_add] at hx3
                  simp only [List.getD_cons_zero] at hrun
                  obtain ⟨ad3, rfl, hrc⟩ : ∃ ad3, A3 = some ad3 ∧ wr.cell? ad3 = some (.int .i32 cc) := by
                    obtain ⟨ad3, e, hc3⟩ := kd_cell (show Kd.C (Kd.int .i32) w A3 [cc].length [cc] from HG3.out.2) (Below.refl _ w) 0 (by simp)
                    rw [add_00] at hc3
                    exact ⟨ad3, e, cell_below HBw.out hc3⟩
                  clear hx1 HG3 HEX g3 h45 hpn hlen hcc
                  generalize IntKind.u32.wrap (ins L k).f2 = a2 at *
                  rcases hrun with hf | ⟨hf, rfl⟩
                  · go_wp2_with fail
                    refine (iop_calls _ _ ⟨op0, op1⟩ _ hx0).mono ?_
                    rintro e w3 ⟨rfl, rfl⟩
                    rw [h7]
                    go_wp2_with fail
                    go_quiet (fail)
                    go_wp2_with fail
                    refine (Tryd.Builder_String_any gb gb (encs acc) (w3.drewN nq) (show Lib.IsBuilder bT bE gb gb (Lib.byteCells (encs acc)) (w3.drewN nq) from HQ.out.2.2.2.1) (by have h1 := HQ.out.2.2.2.2.2; have h2 := HAS.out; show gb ≤ w3.heap.size; omega)).mono ?_
                    rintro e w5 ⟨rfl, hb5⟩
                    go_wp2_with fail
                    go_ret3
                    exact ⟨by rw [HXX.out, HE.out]; rfl, (below_drewN HBw.out _).trans (hb5.mono HLE.out)⟩
                  · go_wp2_with fail
                    refine (iop_calls _ _ ⟨op0, op1⟩ _ hx0).mono ?_
                    rintro e w3 ⟨rfl, rfl⟩
                    rw [h7]
                    go_wp2_with fail
                    go_quiet (fail)
                    go_wp2_with fail
                    refine (Tryd.Builder_String_any gb gb (encs acc) (w3.drewN nq) (show Lib.IsBuilder bT bE gb gb (Lib.byteCells (encs acc)) (w3.drewN nq) from HQ.out.2.2.2.1) (by have h1 := HQ.out.2.2.2.2.2; have h2 := HAS.out; show gb ≤ w3.heap.size; omega)).mono ?_
                    rintro e w5 ⟨rfl, hb5⟩
                    go_wp2_with fail
                    go_ret3
                    exact ⟨by rw [HXX.out, HE.out]; rfl, (below_drewN HBw.out _).trans (hb5.mono HLE.out)⟩
      · have HX1 := Lib.hid (HX.out.trans (if_neg hru))
        by_cases h7 : 7 ≤ (ins L R).f0
        · have hio : iopF (ins L R).f0 = 7 := by unfold iopF; split <;> omega
          have hpl : ((pin (ins L R)).f3.length == 1) = false := by
            have : (pin (ins L R)).f3 = (ins L R).f3 := by unfold pin; rw [if_neg (by omega)]
            rw [this, beq_eq_false_iff_ne]
            unfold isRu at hru
            simp only [Bool.and_eq_true, decide_eq_true_eq, not_and] at hru
            exact hru h7
          have e4 : ((ins L R).f0 == 4) = false := by rw [beq_eq_false_iff_ne]; omega
          obtain ⟨hz0, hz1, hz2⟩ := blk3 (blk_below HB.out HBr.out)
          rw [hio]
          go_wp2_with fail
          go_quiet (fail)
          go_wp2_with fail
          go_ret3
          exact ⟨by rw [HX1.out, decide_eq_false (show ¬ (ins L R).f0 = 4 by omega)]; rfl, below_drewN HBr.out _⟩
        · have hio : (iopF (ins L R).f0 == 7) = false := by rw [beq_eq_false_iff_ne]; unfold iopF; split <;> omega
          obtain ⟨hz0, hz1, hz2⟩ := blk3 (blk_below HB.out HBr.out)
          go_wp2_with fail
          go_quiet (fail)
          go_wp2_with fail
          go_ret3
          refine ⟨?_, below_drewN HBr.out _⟩
          rw [HX1.out]
          by_cases g4 : (ins L R).f0 = 4
          · rw [decide_eq_true g4, g4]; rfl
          · have : ((ins L R).f0 == 4) = false := by rw [beq_eq_false_iff_ne]; exact g4
            rw [decide_eq_false g4, this]; rfl
end Go.Proofs.YteoljppcafakpaaDoor.PgFnPgOnePrefix
