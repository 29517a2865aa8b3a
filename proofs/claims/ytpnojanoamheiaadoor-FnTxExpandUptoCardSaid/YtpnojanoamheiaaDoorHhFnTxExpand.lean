/- FnTxExpand: Expand and ExpandString, the thin package's TxExpand, the law: the walks. -/
import Derived.Test.YtpnojanoamheiaaDoorHfFnTxExpand
import Derived.Test.YtpnojanoamheiaaDoorHgFnTxExpand
namespace Go.Proofs.YtpnojanoamheiaaDoor.XxFnTxExpand
open Go.Proofs.YtpnojanoamheiaaDoorW.PrintWords hiding nums nums_length
open Go.RowKit Go.Proofs.YtpnojanoamheiaaDoor.EvN Go.Proofs.YtpnojanoamheiaaDoor.My Go.Proofs.YtpnojanoamheiaaDoor.PFnTxExpand Go.Proofs.YtpnojanoamheiaaDoorW.PrintLast Go.Proofs.YtpnojanoamheiaaDoorW.PrintMore
set_option linter.unusedSimpArgs false
set_option linter.unusedVariables false

theorem Own.lower {B B' : Nat} {w : World} {v : Value} {L : List Int} (h : Own B w v L) (hb : B' ≤ B) : Own B' w v L := by
  obtain ⟨h1, h2⟩ := h
  refine ⟨h1, h2.imp id ?_⟩
  rintro ⟨g, cap, cur, e, hg, r⟩
  exact ⟨g, cap, cur, e, Nat.le_trans hb hg, r⟩
theorem istr : (Tryd.prog.info? 9).map (fun i => (i.zero, i.size, i.bytes)) = some (some (.string ByteArray.empty), 1, 16) := by kernel_rfl

theorem app_strs {ops : Array Oper} {rest : List Oper} {o : Oper} {a : Act} {Q : Exit → Act → World → Prop} {w : World} (hgd : o.guard = none) (s x : Operand) (ho : o.op = .call { callee := .builtin .append, args := #[s, x], argTypes := #[22, 22] })
    (hs : a.eval s = .slice none 0 0) (ad : Addr) (c : Nat) (l : List ByteArray) (hx : a.eval x = .slice (some ad) l.length c) (hc : Hid (∀ j (hj : j < l.length), w.cell? (ad.add j) = some (.string l[j]))) (hn : l.length ≤ 1048576)
    (hK : ∀ A' c' w', Hid (l.length ≤ c' ∧ Kd.C Kd.string w' A' l.length l ∧ Below w.heap.size w w') → wpList Tryd.prog ops Q rest (a.put o.dst (.slice A' l.length c')) w') : wpList Tryd.prog ops Q (o :: rest) a w := by
  obtain ⟨istr0, hi0, hi1, hi2, hi3⟩ := info_parts istr
  refine wpList_append_own w hgd s x 22 ho w.heap.size 9 istr0 (.string ByteArray.empty) 1 16 Tryd.underlying22 hi0 hi1 hi2 hi3 rfl (by decide) (.slice none 0 0) 0 [] hs (World.ownsRow_nil _ _ _ _) ad l.length c (l.map Value.string) hx (by rw [List.length_map, Nat.mul_one]) (fun j u hj => ?_) (fun u hu => ?_) (by unfold maxLen; omega) (by omega) (Nat.le_refl _) (fun v2 w2 hown2 hgr2 _ => ?_)
  · obtain ⟨hjl, e⟩ := List.getElem?_eq_some_iff.1 hj
    rw [List.length_map] at hjl
    rw [hc.out j hjl, ← e, List.getElem_map]
  · obtain ⟨z, _, rfl⟩ := List.mem_map.1 hu
    rfl
  · rw [Nat.zero_add, List.nil_append] at hown2
    obtain ⟨A2, c2, rfl, hc2, hC2⟩ := own_strs hown2
    exact hK A2 c2 w2 (Lib.hid ⟨hc2, hC2, ⟨hgr2.os, hgr2.tape, hgr2.output, hgr2.size, fun i hi => hgr2.block i hi (by simp [Value.ownBlock])⟩⟩)

section
variable (src : ByteArray) (m : List Int) (names : List ByteArray)
/-- What expand and its two doors leave. -/
abbrev XQ (w0 : World) (D : List Int) (T : ByteArray) (e : Ending) (w' : World) : Prop := (∃ v', e = .returned v' ∧ Own w0.heap.size w' v' (D ++ EE src m names T)) ∧ Below w0.heap.size w0 w'
set_option maxRecDepth 100000 in
theorem estr_calls (T : ByteArray) (p v0 : Value) (Am : Option Addr) (cm : Nat) (D : List Int) (w0 w : World)
    (h : Calls Tryd.prog 15 #[p, v0, .string T, .slice none 0 0, .string src, .slice Am m.length cm] w (XQ src m names w0 D T)) :
    Calls Tryd.prog 10 #[p, v0, .string T, .string src, .slice Am m.length cm] w (XQ src m names w0 D T) := by
  have H := Lib.hid h
  clear h
  go_enter Tryd.func10, Tryd.ntmps10
  go_wp2_with fail
  refine H.out.mono ?_
  rintro e w1 ⟨⟨v', rfl, h1⟩, h2⟩
  have H1 := Lib.hid (And.intro h1 h2)
  clear h1 h2 H
  go_wp2_with fail
  go_ret
  exact ⟨⟨v', rfl, H1.out.1⟩, H1.out.2⟩
set_option maxRecDepth 100000 in
theorem ebytes_calls (T : ByteArray) (p v0 bt' bv : Value) (Am : Option Addr) (cm : Nat) (D : List Int) (w0 w : World) (hcv : (convert 23 9 bt').run Tryd.prog w = .ok (.string T) w)
    (h : Calls Tryd.prog 15 #[p, v0, .string T, bv, .string ⟨#[]⟩, .slice Am m.length cm] w (XQ src m names w0 D T)) :
    Calls Tryd.prog 11 #[p, v0, bt', bv, .slice Am m.length cm] w (XQ src m names w0 D T) := by
  have H := Lib.hid h
  clear h
  go_enter Tryd.func11, Tryd.ntmps11
  go_wp2_with fail
  refine H.out.mono ?_
  rintro e w1 ⟨⟨v', rfl, h1⟩, h2⟩
  have H1 := Lib.hid (And.intro h1 h2)
  clear h1 h2 H
  go_wp2_with fail
  go_ret
  exact ⟨⟨v', rfl, H1.out.1⟩, H1.out.2⟩

set_option maxRecDepth 100000 in
set_option maxHeartbeats 4000000 in
theorem impl_calls (T : ByteArray) (hT : T.size ≤ 1048576) (hsrc : src.size ≤ 1048576) (hp : Pairs m src.size) (hm : m.length ≤ 1048576) (hn0 : 0 < names.length) (hnl : names.length ≤ 1048576) (D : List Int) (hD : D.length ≤ 1048576) (w0 w : World) (hw0 : Below w0.heap.size w0 w) (hE : Env w)
    (Am : Option Addr) (cm : Nat) (hCm : Kd.C (Kd.int .i64) w0 Am m.length m) (hcm : m.length ≤ cm) (An : Option Addr) (cn : Nat) (hCn : Kd.C Kd.string w0 An names.length names) (hcn : names.length ≤ cn)
    (Ad : Option Addr) (cd : Nat) (hCd : Kd.C (Kd.int .u8) w0 Ad D.length D) (hcd : D.length ≤ cd) (hnil : Ad = none → cd = 0) (how : Int) (hhow : how = 0 ∨ how = 1) :
    Calls Tryd.prog 6 #[.slice An names.length cn, .slice Ad D.length cd, .string T, .string src, .slice Am m.length cm, .int .i64 how] w fun e w' => (∃ v', e = .returned (.tuple #[v', .bool true]) ∧ Own w.heap.size w' v' (D ++ EE src m names T)) ∧ Below w.heap.size w w' := by
  obtain ⟨kp, hkp⟩ := ev_placed m src.size (by omega) hp
  have HPL := Lib.hid (fun wr (hb : Below w.heap.size w wr) => impl_placed.calls kp Am cm m (src.size : Int) true wr (Kd.C_below hCm (hw0.trans (hb.mono hw0.size))) hcm hkp)
  have HE := Lib.hid hE
  have HCM := Lib.hid hCm
  have HCN := Lib.hid hCn
  have HCD := Lib.hid hCd
  have HW := Lib.hid hw0
  have HP := Lib.hid hp
  obtain ⟨ad, hAn, -⟩ := ks_cell hCn (Below.refl _ _) 0 hn0
  subst hAn
  have hmk := make_run 0 D.length (Nat.zero_le _) (by omega)
  have hnb : ((names.length : Int) == 0) = false := beq_f (by omega)
  clear hE hCm hCn hCd hw0 hp hkp
  go_enter Tryd.func6, Tryd.ntmps6
  go_wp2_with fail
  refine (HPL.out w (Below.refl _ _)).mono ?_
  rintro e w1 ⟨rfl, hb1⟩
  have HB1 := Lib.hid hb1.below
  clear hb1 HPL
  have HNC := Lib.hid (show ∀ j (hj : j < names.length), w1.cell? (ad.add j) = some (.string names[j]) from fun j hj => by
    obtain ⟨ad', e2, hc⟩ := ks_cell HCN.out (HW.out.trans (HB1.out.mono HW.out.size)) j hj
    cases e2
    exact hc)
  go_wp2_with (at_builtin; refine app_strs rfl (.const (.slice none 0 0)) (.tmp 26) rfl rfl ad cn names rfl HNC hnl ?_; intro A2 c2 w2 hx2)
  have HC2 := Lib.hid (And.intro hx2.out.1 hx2.out.2.1)
  have HB2 := Lib.hid (below_step HB1.out hx2.out.2.2)
  clear hx2 HNC
  refine (named_calls A2 names.length c2 hnl w2).mono ?_
  rintro e w3 ⟨gr, rfl, hcell, hb3⟩
  have HB3 := Lib.hid (below_step HB2.out hb3)
  have HC3 := Lib.hid (And.intro hcell (Kd.C_below HC2.out.2 hb3))
  clear hcell hb3
  have HMADE := Lib.hid (show Own w3.heap.size (w3.alloc (.cells (madeCells #[.int .u8 0] D.length) 5)) (.slice (some ⟨w3.heap.size, 0, none⟩) 0 D.length) [] from ⟨by simp [bvals], .inr ⟨w3.heap.size, D.length, madeCells #[.int .u8 0] D.length, rfl, Nat.le_refl _, heap_alloc_new w3 _, Nat.zero_le _, by unfold maxLen; omega, by rw [Nat.mul_one]; exact size_madeCells _ _, by simp [bvals]⟩⟩)
  have HBA := Lib.hid (below_alloc (Below.refl w3.heap.size w3) (.cells (madeCells #[.int .u8 0] D.length) 5))
  have hfin : ∀ (v4 : Value) (w4 : World), Hid (Own w3.heap.size w4 v4 D) → Hid (Below w3.heap.size w3 w4) → Calls Tryd.prog 15 #[.pointer (some ⟨gr, 0, none⟩), v4, .string T, .slice none 0 0, .string src, .slice Am m.length cm] w4 (XQ src m names w3 D T) := fun v4 w4 h1 h2 =>
    expand_calls src m names T hT hsrc HP.out hm hnl D hD w3 w4 h2.out (HE.out.below HB3.out) Am cm (Kd.C_below HCM.out (HW.out.trans (HB3.out.mono HW.out.size))) hcm A2 c2 HC3.out.2 HC2.out.1 gr HC3.out.1 _ _ v4 h1.out (.inl ⟨rfl, rfl⟩)
  have hfin2 : ∀ (v4 : Value) (w4 w5 : World) (cs : Nat), Hid (Own w3.heap.size w4 v4 D) → Hid (Below w3.heap.size w3 w4) → Hid (Below w4.heap.size w4 w5) → ∀ w6, Hid (Below w5.heap.size w5 w6) → Hid (src.size ≤ cs ∧ w5.heap.size < w6.heap.size ∧ ∀ j : Nat, j < src.size → w6.cell? ⟨w5.heap.size, j, none⟩ = some (.int .u8 (bt src (j : Int)))) → Calls Tryd.prog 15 #[.pointer (some ⟨gr, 0, none⟩), v4, .string T, .slice (some ⟨w5.heap.size, 0, none⟩) src.size cs, .string ⟨#[]⟩, .slice Am m.length cm] w6 (XQ src m names w3 D T) := fun v4 w4 w5 cs h1 h2 h3 w6 h4 h5 =>
    expand_calls src m names T hT hsrc HP.out hm hnl D hD w3 w6 (below_step (below_step h2.out h3.out) h4.out) (HE.out.below HB3.out) Am cm (Kd.C_below HCM.out (HW.out.trans (HB3.out.mono HW.out.size))) hcm A2 c2 HC3.out.2 HC2.out.1 gr HC3.out.1 _ _ v4 ((h1.out.below h3.out).below h4.out) (.inr ⟨w5.heap.size, cs, _, rfl, h5.out.1, rfl, h5.out.2.1, fun e => by have := (World.ownsRow.lt h1.out _ e).2; have := h3.out.size; omega, h5.out.2.2⟩)
  have HF := Lib.hid hfin
  have HF2 := Lib.hid hfin2
  clear hfin hfin2
  have hmk3 := hmk w3
  clear hmk
  simp only [Int.natCast_zero] at hmk3
  go_upto_region 4 with (fail)
  go_cut [15] (fun v15 wx => Hid (Own w3.heap.size wx v15 D ∧ Below w3.heap.size w3 wx))
  case first =>
    cases Ad with
    | none =>
      have hD0 : D = [] := by
        cases hl : D with
        | nil => rfl
        | cons x l =>
          obtain ⟨_, e, _⟩ := k8_cell HCD.out (Below.refl _ _) 0 (by rw [hl]; simp)
          cases e
      obtain rfl := hnil rfl
      subst hD0
      obtain ⟨i8, hi0, hi1, hi2, hi3⟩ := info_parts info_u8
      simp only [List.length_nil, Int.natCast_zero] at hmk3 HMADE HBA ⊢
      go_wp2_with (at_builtin; refine wpList_append_own_none rfl (.tmp 31) (.tmp 32) 23 rfl w3.heap.size 5 i8 1 Tryd.underlying23 hi0 _ 0 [] rfl HMADE.out rfl ?_)
      go_meet
      exact Lib.hid ⟨HMADE.out, HBA.out⟩
    | some da =>
      have HDC := Lib.hid (show ∀ j (hj : j < D.length), (w3.alloc (.cells (madeCells #[.int .u8 0] D.length) 5)).cell? (da.add j) = some (.int .u8 D[j]) from fun j hj => by
        obtain ⟨ad', e2, hc⟩ := k8_cell HCD.out (HW.out.trans ((below_step HB3.out HBA.out).mono HW.out.size)) j hj
        cases e2
        exact hc)
      go_wp2_with (at_builtin; refine app_row rfl (.tmp 31) (.tmp 32) rfl rfl HMADE.out da cd D rfl HDC.out (by simp only [List.length_nil]; omega) HBA.out.size ?_; intro v4 w4 hown hgr haw)
      go_meet
      exact Lib.hid ⟨hown.out, grown_b HMADE.out HBA.out (Nat.le_refl _) hgr.out⟩
  case rest =>
    have HO4 := Lib.hid hcut.out.1
    have HB4 := Lib.hid hcut.out.2
    clear hcut hmk3
    generalize u15 = v4 at *
    rcases hhow with rfl | rfl
    · go_wp2_with fail
      refine (estr_calls src m names T _ v4 Am cm D w3 wc (HF.out v4 wc HO4 HB4)).mono ?_
      rintro e w5 ⟨⟨v5, rfl, h1⟩, h2⟩
      have H5 := Lib.hid (And.intro h1 h2)
      clear h1 h2
      go_wp2_with fail
      go_ret2
      exact ⟨⟨v5, rfl, H5.out.1.lower HB3.out.size⟩, HB3.out.trans (H5.out.2.mono HB3.out.size)⟩
    · obtain ⟨c5, w5, hr5, hc5, hd5, hb5, hs5⟩ := bytes_run T wc
      obtain ⟨c6, w6, hr6, hc6, hd6, hb6, hs6⟩ := bytes_run src w5
      have HX5 := Lib.hid (And.intro hc5 (And.intro hd5 hb5))
      have HX6 := Lib.hid (And.intro hc6 (And.intro hd6 (And.intro hb6 hs6)))
      have hcv := run_convert_bytes_arg w6 _ _ Tryd.underlying23 Tryd.underlying5 wc.heap.size 0 T.size c5 (My.nums T) (My.nums_length T) (fun i hi => by
        rw [Nat.zero_add, hb6.cell (p := ⟨wc.heap.size, i, none⟩) hs5, hd5 i hi, List.getD_eq_getElem?_getD, List.getElem?_eq_getElem (by rw [My.nums_length]; exact hi), Option.getD_some, My.nums_get T i hi, bt_nat T i hi]) _ Tryd.underlying9
      rw [str_nums] at hcv
      have HCV := Lib.hid hcv
      clear hc5 hd5 hb5 hs5 hc6 hd6 hb6 hs6 hcv
      go_wp2_with fail
      refine (ebytes_calls src m names T _ v4 _ _ Am cm D w3 w6 HCV.out (HF2.out v4 wc w5 c6 HO4 HB4 (Lib.hid HX5.out.2.2) w6 (Lib.hid HX6.out.2.2.1) (Lib.hid ⟨HX6.out.1, HX6.out.2.2.2, HX6.out.2.1⟩))).mono ?_
      rintro e w7 ⟨⟨v7, rfl, h1⟩, h2⟩
      have H5 := Lib.hid (And.intro h1 h2)
      clear h1 h2
      go_wp2_with fail
      go_ret2
      exact ⟨⟨v7, rfl, H5.out.1.lower HB3.out.size⟩, HB3.out.trans (H5.out.2.mono HB3.out.size)⟩
end
end Go.Proofs.YtpnojanoamheiaaDoor.XxFnTxExpand
