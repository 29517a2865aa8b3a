import Derived.Test.YteoljppcafakpaaDoorTaFnPgSpan
import Derived.Test.YteoljppcafakpaaDoorShelf
namespace Go.Proofs.YteoljppcafakpaaDoor.PgFnPgSpan
open Go.RowKit Go.Proofs.YteoljppcafakpaaDoor.EvN Go.Proofs.YteoljppcafakpaaDoor.Row Go.Proofs.YteoljppcafakpaaDoor.Sf Go.Proofs.YteoljppcafakpaaDoor.PFnPgSpan Go.Proofs.YteoljppcafakpaaDoorW.PrintWords Go.Proofs.YteoljppcafakpaaDoorW.PrintLast Go.Proofs.YteoljppcafakpaaDoorW.PrintMore
set_option linter.unusedSimpArgs false
set_option linter.unusedVariables false
abbrev Tabs (w : World) : Prop := Lib.Utf8Tabs 1 2 w
set_option maxRecDepth 100000 in
theorem next_calls (s : ByteArray) (i : Nat) (w : World) (hi : i ≤ s.size) (hs : s.size ≤ 4611686018427387904) (hT : Tabs w) :
    Calls Tryd.prog 26 #[.string s, .int .i64 (i : Int)] w fun e w' => e = .returned (.tuple #[.int .i32 (dec s i).1, .int .i64 ((dec s i).2 : Nat)]) ∧ Below w.heap.size w w' := by
  unfold dec
  by_cases h : s.size ≤ i
  · rw [if_pos h]
    have hd : decide (s.size ≤ i) = true := decide_eq_true h
    go_enter Tryd.func26, Tryd.ntmps26
    go_wp2_with fail
    go_ret2
    exact ⟨rfl, Below.refl _ w⟩
  · rw [if_neg h]
    have hd : decide (s.size ≤ i) = false := decide_eq_false h
    have hc := Tryd.utf8_DecodeRuneInString (s.extract i s.size) w hT
    rw [decode_tail s i (by omega)] at hc
    go_enter Tryd.func26, Tryd.ntmps26
    go_wp2_with fail
    refine hc.mono ?_
    rintro e w1 ⟨rfl, hb⟩
    go_wp2_with fail
    go_ret2
    exact ⟨rfl, hb⟩
set_option maxRecDepth 100000 in
theorem last_calls (s : ByteArray) (i : Nat) (w : World) (hi : i ≤ s.size) (hs : s.size ≤ 4611686018427387904) (hT : Tabs w) :
    Calls Tryd.prog 25 #[.string s, .int .i64 (i : Int)] w fun e w' => e = .returned (.int .i32 (lastR s i)) ∧ Below w.heap.size w w' := by
  unfold lastR
  by_cases h : i = 0
  · subst h
    rw [if_pos rfl]
    go_enter Tryd.func25, Tryd.ntmps25
    go_wp2_with fail
    go_ret
    exact ⟨rfl, Below.refl _ w⟩
  · rw [if_neg h]
    have hd : decide (i ≤ 0) = false := decide_eq_false (by omega)
    have hz : (s.extract 0 i).size ≤ 9223372036854775807 := by have : (s.extract 0 i).size = min i s.size := by simp
                                                               omega
    have hc := Tryd.utf8_DecodeLastRuneInString (s.extract 0 i) w hz hT
    rw [show (s.extract 0 i).data.toList = s.data.toList.take i by simp] at hc
    go_enter Tryd.func25, Tryd.ntmps25
    go_wp2_with fail
    refine hc.mono ?_
    rintro e w1 ⟨rfl, hb⟩
    go_wp2_with fail
    go_ret
    exact ⟨rfl, hb⟩
structure Tak (i : I) : Prop where
  op : i.f0 = 7 ∨ i.f0 = 8 ∨ i.f0 = 9 ∨ i.f0 = 10
  one : i.f0 = 8 → 1 ≤ i.f3.length
  fold : i.f0 = 7 → i.f3.length = 1 → ∃ a : Nat, i.f3.getD 0 0 = (a : Int) ∧ a ≤ 1114111
theorem PSound.tak {L : List I} {st nc most : Int} (h : PSound L st nc most) (pc : Nat) (hpc : pc < L.length) (hw : waitsB (ins L pc) = true) (h4 : (ins L pc).f0 ≠ 4) : Tak (ins L pc) := by
  have h1 := h.inst pc hpc
  unfold waitsB at hw
  simp only [Bool.not_eq_true', Bool.or_eq_false_iff, decide_eq_false_iff_not] at hw
  obtain ⟨⟨⟨⟨w0, w2⟩, w6⟩, w3⟩, w5⟩ := hw
  have h2 := h.outIn pc hpc (by omega)
  unfold instB at h1
  rw [if_neg (by omega), if_neg (fun e => e h2), if_neg (by omega), if_neg (by omega), if_neg (by omega), if_neg (by omega)] at h1
  by_cases g9 : (ins L pc).f0 = 9
  · exact ⟨by omega, fun e => by omega, fun e => by omega⟩
  · rw [if_neg g9] at h1
    by_cases g10 : (ins L pc).f0 = 10
    · exact ⟨by omega, fun e => by omega, fun e => by omega⟩
    · rw [if_neg g10] at h1
      by_cases g8 : (ins L pc).f0 = 8
      · rw [if_pos g8] at h1
        simp only [Bool.and_eq_true, Bool.or_eq_true, decide_eq_true_eq] at h1
        exact ⟨by omega, fun _ => by omega, fun e => by omega⟩
      · rw [if_neg g8] at h1
        by_cases g7 : (ins L pc).f0 = 7
        · rw [if_pos g7] at h1
          refine ⟨by omega, fun e => by omega, fun _ hl => ?_⟩
          simp only [Bool.and_eq_true, Bool.or_eq_true, decide_eq_true_eq] at h1
          have hr : runesB (ins L pc).f3 = true ∨ cls (ins L pc).f3 = true := by
            rcases h1 with ⟨_, h⟩ | ⟨_, h⟩
            · exact .inl h
            · exact .inr h
          obtain ⟨x, hx⟩ := List.length_eq_one_iff.1 hl
          rw [hx] at hr ⊢
          have hok : okR x = true := by
            rcases hr with h | h
            · exact h
            · simp [cls] at h
          simp [okR] at hok
          exact ⟨x.toNat, by simp; omega, by omega⟩
        · rw [if_neg g7] at h1; cases h1
theorem inCls_short (l : List Int) (c : Int) (h : l.length ≤ 1) : inCls l c = false := by
  match l, h with
  | [], _ => rfl
  | [_], _ => rfl
theorem ev_inClsL (l : List Int) (c : Int) (hl : l.length ≤ 4611686018427387000) : ∀ (n i : Nat), l.length ≤ i + 2 * n → i ≤ l.length + 1 → Evn (fun k => spec_reInClass.l0 k l c (i : Int)) (inCls (l.drop i) c) := by
  intro n
  induction n with
  | zero =>
    intro i h1 h2
    rw [inCls_short _ _ (by rw [List.length_drop]; omega)]
    have e1 : wrap64 ((i : Int) + 1) = ((i + 1 : Nat) : Int) := wrap_nat i 1 (by omega)
    refine Evn.succ (Evn.congr (Evn.const _) fun k => ?_)
    simp only [spec_reInClass.l0, e1]
    rw [if_neg (by omega)]
  | succ n ih =>
    intro i h1 h2
    have e1 : wrap64 ((i : Int) + 1) = ((i + 1 : Nat) : Int) := wrap_nat i 1 (by omega)
    have e2 : wrap64 ((i : Int) + 2) = ((i + 2 : Nat) : Int) := wrap_nat i 2 (by omega)
    by_cases h : i + 1 < l.length
    · rw [drop2 l i h]
      refine Evn.succ ?_
      have q0 : ((i + 1 : Nat) : Int) < (l.length : Int) := by omega
      have q1 : (0 : Int) ≤ (i : Int) := by omega
      have q2 : (i : Int) < (l.length : Int) := by omega
      have q3 : (0 : Int) ≤ ((i + 1 : Nat) : Int) := by omega
      simp only [spec_reInClass.l0, e1, e2, rd_nat l i (by omega), rd_nat l (i + 1) h, if_pos q0, if_pos q1, if_pos q2, if_pos q3, inCls]
      by_cases c1 : l[i]'(by omega) ≤ c
      · by_cases c2 : c ≤ l[i + 1]
        · simp only [if_pos c1, if_pos c2, decide_eq_true c1, decide_eq_true c2, Bool.and_self, Bool.true_or]; exact Evn.const _
        · simp only [if_pos c1, if_neg c2, decide_eq_true c1, decide_eq_false c2, Bool.and_false, Bool.false_or]; exact ih (i + 2) (by omega) (by omega)
      · simp only [if_neg c1, decide_eq_false c1, Bool.false_and, Bool.false_or]; exact ih (i + 2) (by omega) (by omega)
    · rw [inCls_short _ _ (by rw [List.length_drop]; omega)]
      refine Evn.succ (Evn.congr (Evn.const _) fun k => ?_)
      simp only [spec_reInClass.l0, e1]
      rw [if_neg (by omega)]
theorem ev_inCls (l : List Int) (c : Int) (hl : l.length ≤ 4611686018427387000) : Evn (fun k => spec_reInClass.f k l c) (inCls l c) := by
  have := ev_inClsL l c hl l.length 0 (by omega) (by omega)
  rw [List.drop_zero] at this
  exact this
theorem add_0 (a : Addr) : a.add 0 = a := by
  unfold Addr.add; split <;> simp_all
set_option maxRecDepth 100000 in
set_option maxHeartbeats 4000000 in
theorem takes_calls (i : I) (hi : Tak i) (hl : i.f3.length ≤ 4611686018427387000) (w : World) (A3 : Option Addr) (c3 : Nat) (hK : Kd.C (Kd.int .i32) w A3 i.f3.length i.f3) (hc : i.f3.length ≤ c3) (hF : Folds w) (c : Int) :
    Calls Tryd.prog 29 #[.agg #[.int .i64 i.f0, .int .i64 i.f1, .int .i64 i.f2, .slice A3 i.f3.length c3], .int .i32 c] w fun e w' => e = .returned (.bool (takesB i c)) ∧ Below w.heap.size w w' := by
  have hu60 := Tryd.underlying29
  obtain ⟨kc, hkc⟩ := (ev_inCls i.f3 c hl).get
  have HK := Lib.hid hK
  have HF := Lib.hid hF
  have HKC := Lib.hid hkc
  have hone := hi.one
  have hfold := hi.fold
  have hop := hi.op
  obtain ⟨f0, f1, f2, f3⟩ := i
  simp only at *
  have hat : 1 ≤ f3.length → ∃ ad, A3 = some ad ∧ ∀ w', Below w.heap.size w w' → w'.cell? ad = some (.int .i32 (f3.getD 0 0)) := by
    intro h1
    obtain ⟨ad, e, _⟩ := kd_cell hK (Below.refl _ w) 0 (by omega)
    refine ⟨ad, e, fun w' hb => ?_⟩
    obtain ⟨ad2, e2, hx⟩ := kd_cell hK hb 0 (by omega)
    rw [e] at e2; cases e2
    rw [add_0] at hx
    rw [hx, List.getD_eq_getElem?_getD, List.getElem?_eq_getElem (by omega)]; rfl
  have HAT := Lib.hid hat
  clear hK hF hkc hi hat
  unfold takesB
  simp only
  by_cases g8 : f0 = 8
  · subst g8
    obtain ⟨ad, rfl, hx⟩ := HAT.out (hone rfl)
    rw [if_pos rfl]
    go_enter Tryd.func29, Tryd.ntmps29
    go_wp2_with (first | ((with_reducible refine gate_dst (N := 2) rfl ?_); refine box_event ?hg (N := 2) ?hd (cs := #[.int .i64 8, .int .i64 f1, .int .i64 f2, .slice (some ad) f3.length c3]) (t := 29) ?hr ?_; (case hd => rfl); (case hg => rfl); (case hr => first | (go_simp; done) | (go_simp; rfl)); intro gb hg w1 hbox hb; have BK := Lib.hid hbox; have HB1 := Lib.hid hb; clear hg hbox hb; obtain ⟨hz0, hz1, hz2, hz3⟩ := blk4 BK.out; have hx1 := hx w1 HB1.out))
    go_ret
    exact ⟨rfl, HB1.out⟩
  · rw [if_neg g8]
    have h8 : (f0 == 8) = false := by rw [beq_eq_false_iff_ne]; exact g8
    by_cases g9 : f0 = 9
    · subst g9
      rw [if_pos rfl]
      go_enter Tryd.func29, Tryd.ntmps29
      go_wp2_with (first | ((with_reducible refine gate_dst (N := 2) rfl ?_); refine box_event ?hg (N := 2) ?hd (cs := #[.int .i64 9, .int .i64 f1, .int .i64 f2, .slice A3 f3.length c3]) (t := 29) ?hr ?_; (case hd => rfl); (case hg => rfl); (case hr => first | (go_simp; done) | (go_simp; rfl)); intro gb hg w1 hbox hb; have BK := Lib.hid hbox; have HB1 := Lib.hid hb; clear hg hbox hb; obtain ⟨hz0, hz1, hz2, hz3⟩ := blk4 BK.out))
      go_ret
      exact ⟨rfl, HB1.out⟩
    · rw [if_neg g9]
      have h9 : (f0 == 9) = false := by rw [beq_eq_false_iff_ne]; exact g9
      by_cases g10 : f0 = 10
      · subst g10
        rw [if_pos rfl]
        go_enter Tryd.func29, Tryd.ntmps29
        go_wp2_with (first | ((with_reducible refine gate_dst (N := 2) rfl ?_); refine box_event ?hg (N := 2) ?hd (cs := #[.int .i64 10, .int .i64 f1, .int .i64 f2, .slice A3 f3.length c3]) (t := 29) ?hr ?_; (case hd => rfl); (case hg => rfl); (case hr => first | (go_simp; done) | (go_simp; rfl)); intro gb hg w1 hbox hb; have BK := Lib.hid hbox; have HB1 := Lib.hid hb; clear hg hbox hb; obtain ⟨hz0, hz1, hz2, hz3⟩ := blk4 BK.out))
        go_ret
        exact ⟨rfl, HB1.out⟩
      · rw [if_neg g10]
        have h10 : (f0 == 10) = false := by rw [beq_eq_false_iff_ne]; exact g10
        have g7 : f0 = 7 := by omega
        subst g7
        by_cases hl1 : f3.length = 1
        · rw [if_pos hl1]
          obtain ⟨ad, rfl, hx⟩ := HAT.out (by omega)
          obtain ⟨a, ha, ha2⟩ := hfold rfl hl1
          rw [ha] at hx ⊢
          rw [Int.toNat_natCast]
          have hl2 : (f3.length == 1) = true := by rw [hl1]; rfl
          have hl3 : ((f3.length : Int) == 1) = true := by rw [hl1]; rfl
          by_cases e1 : c = (a : Int)
          · subst e1
            rw [beq_self_eq_true, Bool.true_or]
            go_enter Tryd.func29, Tryd.ntmps29
            go_wp2_with (first | ((with_reducible refine gate_dst (N := 2) rfl ?_); refine box_event ?hg (N := 2) ?hd (cs := #[.int .i64 7, .int .i64 f1, .int .i64 f2, .slice (some ad) f3.length c3]) (t := 29) ?hr ?_; (case hd => rfl); (case hg => rfl); (case hr => first | (go_simp; done) | (go_simp; rfl)); intro gb hg w1 hbox hb; have BK := Lib.hid hbox; have HB1 := Lib.hid hb; clear hg hbox hb; obtain ⟨hz0, hz1, hz2, hz3⟩ := blk4 BK.out; have hx1 := hx w1 HB1.out))
            go_ret
            exact ⟨rfl, HB1.out⟩
          · have h1 : (c == (a : Int)) = false := by rw [beq_eq_false_iff_ne]; exact e1
            rw [h1, Bool.false_or]
            by_cases e2 : f2 = 1
            · have h2 : (f2 == 1) = true := by rw [e2]; rfl
              rw [h2, Bool.true_and]
              go_enter Tryd.func29, Tryd.ntmps29
              go_wp2_with (first | ((with_reducible refine gate_dst (N := 2) rfl ?_); refine box_event ?hg (N := 2) ?hd (cs := #[.int .i64 7, .int .i64 f1, .int .i64 f2, .slice (some ad) f3.length c3]) (t := 29) ?hr ?_; (case hd => rfl); (case hg => rfl); (case hr => first | (go_simp; done) | (go_simp; rfl)); intro gb hg w1 hbox hb; have BK := Lib.hid hbox; have HB1 := Lib.hid hb; clear hg hbox hb; obtain ⟨hz0, hz1, hz2, hz3⟩ := blk4 BK.out; have hx1 := hx w1 HB1.out))
              refine (refolds_calls w1 a ha2 c (HF.out.below HB1.out)).mono ?_
              rintro e w2 ⟨rfl, n, rfl⟩
              go_wp2_with fail
              go_ret
              exact ⟨rfl, pw_below_drewN HB1.out n⟩
            · have h2 : (f2 == 1) = false := by rw [beq_eq_false_iff_ne]; exact e2
              rw [h2, Bool.false_and]
              go_enter Tryd.func29, Tryd.ntmps29
              go_wp2_with (first | ((with_reducible refine gate_dst (N := 2) rfl ?_); refine box_event ?hg (N := 2) ?hd (cs := #[.int .i64 7, .int .i64 f1, .int .i64 f2, .slice (some ad) f3.length c3]) (t := 29) ?hr ?_; (case hd => rfl); (case hg => rfl); (case hr => first | (go_simp; done) | (go_simp; rfl)); intro gb hg w1 hbox hb; have BK := Lib.hid hbox; have HB1 := Lib.hid hb; clear hg hbox hb; obtain ⟨hz0, hz1, hz2, hz3⟩ := blk4 BK.out; have hx1 := hx w1 HB1.out))
              go_ret
              exact ⟨rfl, HB1.out⟩
        · rw [if_neg hl1]
          have hl2 : (f3.length == 1) = false := by rw [beq_eq_false_iff_ne]; exact hl1
          have hl3 : ((f3.length : Int) == 1) = false := by rw [beq_eq_false_iff_ne]; omega
          go_enter Tryd.func29, Tryd.ntmps29
          go_wp2_with (first | ((with_reducible refine gate_dst (N := 2) rfl ?_); refine box_event ?hg (N := 2) ?hd (cs := #[.int .i64 7, .int .i64 f1, .int .i64 f2, .slice A3 f3.length c3]) (t := 29) ?hr ?_; (case hd => rfl); (case hg => rfl); (case hr => first | (go_simp; done) | (go_simp; rfl)); intro gb hg w1 hbox hb; have BK := Lib.hid hbox; have HB1 := Lib.hid hb; clear hg hbox hb; obtain ⟨hz0, hz1, hz2, hz3⟩ := blk4 BK.out))
          refine (spec_reInClass.calls kc A3 c3 f3 c (inCls f3 c) _ (Kd.C_below HK.out HB1.out) hc HKC.out).mono ?_
          rintro e w2 ⟨rfl, hb2⟩
          go_wp2_with fail
          go_ret
          exact ⟨rfl, below_step HB1.out hb2.below⟩
end Go.Proofs.YteoljppcafakpaaDoor.PgFnPgSpan
