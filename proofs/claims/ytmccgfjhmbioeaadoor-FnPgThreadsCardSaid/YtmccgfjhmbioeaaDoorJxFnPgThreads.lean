import Derived.Test.YtmccgfjhmbioeaaDoorNxFnPgThreads
import Derived.Test.YtmccgfjhmbioeaaDoorCbFnPgThreads
import Derived.Test.YtmccgfjhmbioeaaDoorSi
import Derived.Test.YtmccgfjhmbioeaaDoorShelf
import Derived.Lib.TrimU
import Derived.Lib.RuneCountTail
import Derived.Shelf.Unicode.DecodeLastEight
import Derived.Deep.AppendLies
namespace Go.Proofs.YtmccgfjhmbioeaaDoor.PgFnPgThreads
open Go.RowKit Go.Proofs.YtmccgfjhmbioeaaDoor.EvN Go.Proofs.YtmccgfjhmbioeaaDoor.Row Go.Proofs.YtmccgfjhmbioeaaDoor.Sf Go.Proofs.YtmccgfjhmbioeaaDoor.PFnPgThreads Go.Proofs.YtmccgfjhmbioeaaDoorW.PrintWords Go.Proofs.YtmccgfjhmbioeaaDoorW.PrintLast Go.Proofs.YtmccgfjhmbioeaaDoorW.PrintMore
set_option linter.unusedSimpArgs false
set_option linter.unusedVariables false
def inCls : List Int → Int → Bool
  | a :: b :: r, c => (decide (a ≤ c) && decide (c ≤ b)) || inCls r c
  | _, _ => false
def takesB (i : I) (c : Int) : Bool :=
  if i.f0 = 8 then i.f3.getD 0 0 == c else if i.f0 = 9 then true else if i.f0 = 10 then c != 10
  else if i.f3.length = 1 then (c == i.f3.getD 0 0) || ((i.f2 == 1) && foldsB (i.f3.getD 0 0).toNat c) else inCls i.f3 c
theorem decode_tail (s : ByteArray) (pos : Nat) (h : pos < s.size) : Lib.decodeGo (s.extract pos s.size) = Utf8.decode s pos := by
  unfold Lib.decodeGo
  rw [if_neg (by rw [Lib.tail_size]; omega), Lib.tail_decode, Nat.add_zero]
def dec (s : ByteArray) (i : Nat) : Int × Nat := if s.size ≤ i then (-1, 0) else (((Utf8.decode s i).1 : Int), (Utf8.decode s i).2)
def lastR (s : ByteArray) (i : Nat) : Int := if i = 0 then -1 else ((Lib.decodeLastL (s.data.toList.take i)).1 : Int)
def hasM (L : List I) (D : List Nat) : Bool := D.any fun pc => (ins L pc).f0 == 4
def goes (L : List I) (c : Int) (pc : Nat) : Bool := !((ins L pc).f0 == 4) && waitsB (ins L pc) && takesB (ins L pc) c
def nextP (L : List I) (c : Int) (D : List Nat) : List Nat := (D.filter (goes L c)).map fun pc => (ins L pc).f1.toNat
def endsF (L : List I) (s : ByteArray) : Nat → List Nat → Int → Nat → List Nat
  | 0, _, _, _ => []
  | n + 1, pcs, last, i =>
    if pcs = [] then []
    else (if hasM L (reachA L (condZ last (dec s i).1) [] pcs) then [i] else []) ++
      endsF L s n (if (dec s i).2 = 0 then [] else nextP L (dec s i).1 (reachA L (condZ last (dec s i).1) [] pcs)) (dec s i).1 (i + (dec s i).2)
theorem dec_w (s : ByteArray) (i : Nat) : (dec s i).2 = 0 ↔ s.size ≤ i := by
  unfold dec
  by_cases h : s.size ≤ i
  · rw [if_pos h]; simp [h]
  · rw [if_neg h]
    have := Lib.width_pos s i
    simp only; omega
theorem dec_le (s : ByteArray) (i : Nat) (h : i ≤ s.size) : i + (dec s i).2 ≤ s.size := by
  unfold dec
  by_cases h1 : s.size ≤ i
  · rw [if_pos h1]; exact h
  · rw [if_neg h1]
    have h2 := Lib.decodeGo_le_size (s.extract i s.size)
    rw [decode_tail s i (by omega)] at h2
    have h3 : (s.extract i s.size).size = s.size - i := by simp
    simp only; omega
end Go.Proofs.YtmccgfjhmbioeaaDoor.PgFnPgThreads
namespace Go.Proofs.YtmccgfjhmbioeaaDoor.PgFnPgThreads
open Go.RowKit Go.Proofs.YtmccgfjhmbioeaaDoor.EvN Go.Proofs.YtmccgfjhmbioeaaDoor.Row Go.Proofs.YtmccgfjhmbioeaaDoor.Sf Go.Proofs.YtmccgfjhmbioeaaDoor.PFnPgThreads Go.Proofs.YtmccgfjhmbioeaaDoorW.PrintWords Go.Proofs.YtmccgfjhmbioeaaDoorW.PrintLast Go.Proofs.YtmccgfjhmbioeaaDoorW.PrintMore
set_option linter.unusedSimpArgs false
set_option linter.unusedVariables false
abbrev Tabs (w : World) : Prop := Lib.Utf8Tabs 1 2 w
set_option maxRecDepth 100000 in
theorem next_calls (s : ByteArray) (i : Nat) (w : World) (hi : i ≤ s.size) (hs : s.size ≤ 4611686018427387904) (hT : Tabs w) :
    Calls Tryd.prog 17 #[.string s, .int .i64 (i : Int)] w fun e w' => e = .returned (.tuple #[.int .i32 (dec s i).1, .int .i64 ((dec s i).2 : Nat)]) ∧ Below w.heap.size w w' := by
  unfold dec
  by_cases h : s.size ≤ i
  · rw [if_pos h]
    have hd : decide (s.size ≤ i) = true := decide_eq_true h
    go_enter Tryd.func17, Tryd.ntmps17
    go_wp2_with fail
    go_ret2
    exact ⟨rfl, Below.refl _ w⟩
  · rw [if_neg h]
    have hd : decide (s.size ≤ i) = false := decide_eq_false h
    have hc := Tryd.utf8_DecodeRuneInString (s.extract i s.size) w hT
    rw [decode_tail s i (by omega)] at hc
    go_enter Tryd.func17, Tryd.ntmps17
    go_wp2_with fail
    refine hc.mono ?_
    rintro e w1 ⟨rfl, hb⟩
    go_wp2_with fail
    go_ret2
    exact ⟨rfl, hb⟩
set_option maxRecDepth 100000 in
theorem last_calls (s : ByteArray) (i : Nat) (w : World) (hi : i ≤ s.size) (hs : s.size ≤ 4611686018427387904) (hT : Tabs w) :
    Calls Tryd.prog 49 #[.string s, .int .i64 (i : Int)] w fun e w' => e = .returned (.int .i32 (lastR s i)) ∧ Below w.heap.size w w' := by
  unfold lastR
  by_cases h : i = 0
  · subst h
    rw [if_pos rfl]
    go_enter Tryd.func49, Tryd.ntmps49
    go_wp2_with fail
    go_ret
    exact ⟨rfl, Below.refl _ w⟩
  · rw [if_neg h]
    have hd : decide (i ≤ 0) = false := decide_eq_false (by omega)
    have hz : (s.extract 0 i).size ≤ 9223372036854775807 := by have : (s.extract 0 i).size = min i s.size := by simp
                                                               omega
    have hc := Tryd.utf8_DecodeLastRuneInString (s.extract 0 i) w hz hT
    rw [show (s.extract 0 i).data.toList = s.data.toList.take i by simp] at hc
    go_enter Tryd.func49, Tryd.ntmps49
    go_wp2_with fail
    refine hc.mono ?_
    rintro e w1 ⟨rfl, hb⟩
    go_wp2_with fail
    go_ret
    exact ⟨rfl, hb⟩
structure Tak (i : I) : Prop where
  op : i.f0 = 7 ∨ i.f0 = 8 ∨ i.f0 = 9 ∨ i.f0 = 10
  one : i.f0 = 8 → 1 ≤ i.f3.length
  fold : i.f0 = 7 → i.f3.length = 1 → ∃ a : Nat, i.f3.getD 0 0 = (a : Int) ∧ a ≤ 1114111
theorem PSound.tak {L : List I} {st nc most : Int} (h : PSound L st nc most) (pc : Nat) (hpc : pc < L.length) (hw : waitsB (ins L pc) = true) (h4 : (ins L pc).f0 ≠ 4) : Tak (ins L pc) := by
  have h1 := h.inst pc hpc
  unfold waitsB at hw
  simp only [Bool.not_eq_true', Bool.or_eq_false_iff, decide_eq_false_iff_not] at hw
  obtain ⟨⟨⟨⟨w0, w2⟩, w6⟩, w3⟩, w5⟩ := hw
  have h2 := h.outIn pc hpc (by omega)
  unfold instB at h1
  rw [if_neg (by omega), if_neg (fun e => e h2), if_neg (by omega), if_neg (by omega), if_neg (by omega), if_neg (by omega)] at h1
  by_cases g9 : (ins L pc).f0 = 9
  · exact ⟨by omega, fun e => by omega, fun e => by omega⟩
  · rw [if_neg g9] at h1
    by_cases g10 : (ins L pc).f0 = 10
    · exact ⟨by omega, fun e => by omega, fun e => by omega⟩
    · rw [if_neg g10] at h1
      by_cases g8 : (ins L pc).f0 = 8
      · rw [if_pos g8] at h1
        simp only [Bool.and_eq_true, Bool.or_eq_true, decide_eq_true_eq] at h1
        exact ⟨by omega, fun _ => by omega, fun e => by omega⟩
      · rw [if_neg g8] at h1
        by_cases g7 : (ins L pc).f0 = 7
        · rw [if_pos g7] at h1
          refine ⟨by omega, fun e => by omega, fun _ hl => ?_⟩
          simp only [Bool.and_eq_true, Bool.or_eq_true, decide_eq_true_eq] at h1
          have hr : runesB (ins L pc).f3 = true ∨ cls (ins L pc).f3 = true := by
            rcases h1 with ⟨_, h⟩ | ⟨_, h⟩
            · exact .inl h
            · exact .inr h
          obtain ⟨x, hx⟩ := List.length_eq_one_iff.1 hl
          rw [hx] at hr ⊢
          have hok : okR x = true := by
            rcases hr with h | h
            · exact h
            · simp [cls] at h
          simp [okR] at hok
          exact ⟨x.toNat, by simp; omega, by omega⟩
        · rw [if_neg g7] at h1; cases h1
theorem inCls_short (l : List Int) (c : Int) (h : l.length ≤ 1) : inCls l c = false := by
  match l, h with
  | [], _ => rfl
  | [_], _ => rfl
theorem ev_inClsL (l : List Int) (c : Int) (hl : l.length ≤ 4611686018427387000) : ∀ (n i : Nat), l.length ≤ i + 2 * n → i ≤ l.length + 1 → Evn (fun k => spec_reInClass.l0 k l c (i : Int)) (inCls (l.drop i) c) := by
  intro n
  induction n with
  | zero =>
    intro i h1 h2
    rw [inCls_short _ _ (by rw [List.length_drop]; omega)]
    have e1 : wrap64 ((i : Int) + 1) = ((i + 1 : Nat) : Int) := wrap_nat i 1 (by omega)
    refine Evn.succ (Evn.congr (Evn.const _) fun k => ?_)
    simp only [spec_reInClass.l0, e1]
    rw [if_neg (by omega)]
  | succ n ih =>
    intro i h1 h2
    have e1 : wrap64 ((i : Int) + 1) = ((i + 1 : Nat) : Int) := wrap_nat i 1 (by omega)
    have e2 : wrap64 ((i : Int) + 2) = ((i + 2 : Nat) : Int) := wrap_nat i 2 (by omega)
    by_cases h : i + 1 < l.length
    · rw [drop2 l i h]
      refine Evn.succ ?_
      have q0 : ((i + 1 : Nat) : Int) < (l.length : Int) := by omega
      have q1 : (0 : Int) ≤ (i : Int) := by omega
      have q2 : (i : Int) < (l.length : Int) := by omega
      have q3 : (0 : Int) ≤ ((i + 1 : Nat) : Int) := by omega
      simp only [spec_reInClass.l0, e1, e2, rd_nat l i (by omega), rd_nat l (i + 1) h, if_pos q0, if_pos q1, if_pos q2, if_pos q3, inCls]
      by_cases c1 : l[i]'(by omega) ≤ c
      · by_cases c2 : c ≤ l[i + 1]
        · simp only [if_pos c1, if_pos c2, decide_eq_true c1, decide_eq_true c2, Bool.and_self, Bool.true_or]; exact Evn.const _
        · simp only [if_pos c1, if_neg c2, decide_eq_true c1, decide_eq_false c2, Bool.and_false, Bool.false_or]; exact ih (i + 2) (by omega) (by omega)
      · simp only [if_neg c1, decide_eq_false c1, Bool.false_and, Bool.false_or]; exact ih (i + 2) (by omega) (by omega)
    · rw [inCls_short _ _ (by rw [List.length_drop]; omega)]
      refine Evn.succ (Evn.congr (Evn.const _) fun k => ?_)
      simp only [spec_reInClass.l0, e1]
      rw [if_neg (by omega)]
theorem ev_inCls (l : List Int) (c : Int) (hl : l.length ≤ 4611686018427387000) : Evn (fun k => spec_reInClass.f k l c) (inCls l c) := by
  have := ev_inClsL l c hl l.length 0 (by omega) (by omega)
  rw [List.drop_zero] at this
  exact this
theorem add_0 (a : Addr) : a.add 0 = a := by
  unfold Addr.add; split <;> simp_all
set_option maxRecDepth 100000 in
set_option maxHeartbeats 4000000 in
theorem takes_calls (i : I) (hi : Tak i) (hl : i.f3.length ≤ 4611686018427387000) (w : World) (A3 : Option Addr) (c3 : Nat) (hK : Kd.C (Kd.int .i32) w A3 i.f3.length i.f3) (hc : i.f3.length ≤ c3) (hF : Folds w) (c : Int) :
    Calls Tryd.prog 30 #[.agg #[.int .i64 i.f0, .int .i64 i.f1, .int .i64 i.f2, .slice A3 i.f3.length c3], .int .i32 c] w fun e w' => e = .returned (.bool (takesB i c)) ∧ Below w.heap.size w w' := by
  have hu60 := Tryd.underlying52
  obtain ⟨kc, hkc⟩ := (ev_inCls i.f3 c hl).get
  have HK := Lib.hid hK
  have HF := Lib.hid hF
  have HKC := Lib.hid hkc
  have hone := hi.one
  have hfold := hi.fold
  have hop := hi.op
  obtain ⟨f0, f1, f2, f3⟩ := i
  simp only at *
  have hat : 1 ≤ f3.length → ∃ ad, A3 = some ad ∧ ∀ w', Below w.heap.size w w' → w'.cell? ad = some (.int .i32 (f3.getD 0 0)) := by
    intro h1
    obtain ⟨ad, e, _⟩ := kd_cell hK (Below.refl _ w) 0 (by omega)
    refine ⟨ad, e, fun w' hb => ?_⟩
    obtain ⟨ad2, e2, hx⟩ := kd_cell hK hb 0 (by omega)
    rw [e] at e2; cases e2
    rw [add_0] at hx
    rw [hx, List.getD_eq_getElem?_getD, List.getElem?_eq_getElem (by omega)]; rfl
  have HAT := Lib.hid hat
  clear hK hF hkc hi hat
  unfold takesB
  simp only
  by_cases g8 : f0 = 8
  · subst g8
    obtain ⟨ad, rfl, hx⟩ := HAT.out (hone rfl)
    rw [if_pos rfl]
    go_enter Tryd.func30, Tryd.ntmps30
    go_wp2_with (first | ((with_reducible refine gate_dst (N := 2) rfl ?_); refine box_event ?hg (N := 2) ?hd (cs := #[.int .i64 8, .int .i64 f1, .int .i64 f2, .slice (some ad) f3.length c3]) (t := 52) ?hr ?_; (case hd => rfl); (case hg => rfl); (case hr => first | (go_simp; done) | (go_simp; rfl)); intro gb hg w1 hbox hb; have BK := Lib.hid hbox; have HB1 := Lib.hid hb; clear hg hbox hb; obtain ⟨hz0, hz1, hz2, hz3⟩ := blk4 BK.out; have hx1 := hx w1 HB1.out))
    go_ret
    exact ⟨rfl, HB1.out⟩
  · rw [if_neg g8]
    have h8 : (f0 == 8) = false := by rw [beq_eq_false_iff_ne]; exact g8
    by_cases g9 : f0 = 9
    · subst g9
      rw [if_pos rfl]
      go_enter Tryd.func30, Tryd.ntmps30
      go_wp2_with (first | ((with_reducible refine gate_dst (N := 2) rfl ?_); refine box_event ?hg (N := 2) ?hd (cs := #[.int .i64 9, .int .i64 f1, .int .i64 f2, .slice A3 f3.length c3]) (t := 52) ?hr ?_; (case hd => rfl); (case hg => rfl); (case hr => first | (go_simp; done) | (go_simp; rfl)); intro gb hg w1 hbox hb; have BK := Lib.hid hbox; have HB1 := Lib.hid hb; clear hg hbox hb; obtain ⟨hz0, hz1, hz2, hz3⟩ := blk4 BK.out))
      go_ret
      exact ⟨rfl, HB1.out⟩
    · rw [if_neg g9]
      have h9 : (f0 == 9) = false := by rw [beq_eq_false_iff_ne]; exact g9
      by_cases g10 : f0 = 10
      · subst g10
        rw [if_pos rfl]
        go_enter Tryd.func30, Tryd.ntmps30
        go_wp2_with (first | ((with_reducible refine gate_dst (N := 2) rfl ?_); refine box_event ?hg (N := 2) ?hd (cs := #[.int .i64 10, .int .i64 f1, .int .i64 f2, .slice A3 f3.length c3]) (t := 52) ?hr ?_; (case hd => rfl); (case hg => rfl); (case hr => first | (go_simp; done) | (go_simp; rfl)); intro gb hg w1 hbox hb; have BK := Lib.hid hbox; have HB1 := Lib.hid hb; clear hg hbox hb; obtain ⟨hz0, hz1, hz2, hz3⟩ := blk4 BK.out))
        go_ret
        exact ⟨rfl, HB1.out⟩
      · rw [if_neg g10]
        have h10 : (f0 == 10) = false := by rw [beq_eq_false_iff_ne]; exact g10
        have g7 : f0 = 7 := by omega
        subst g7
        by_cases hl1 : f3.length = 1
        · rw [if_pos hl1]
          obtain ⟨ad, rfl, hx⟩ := HAT.out (by omega)
          obtain ⟨a, ha, ha2⟩ := hfold rfl hl1
          rw [ha] at hx ⊢
          rw [Int.toNat_natCast]
          have hl2 : (f3.length == 1) = true := by rw [hl1]; rfl
          have hl3 : ((f3.length : Int) == 1) = true := by rw [hl1]; rfl
          by_cases e1 : c = (a : Int)
          · subst e1
            rw [beq_self_eq_true, Bool.true_or]
            go_enter Tryd.func30, Tryd.ntmps30
            go_wp2_with (first | ((with_reducible refine gate_dst (N := 2) rfl ?_); refine box_event ?hg (N := 2) ?hd (cs := #[.int .i64 7, .int .i64 f1, .int .i64 f2, .slice (some ad) f3.length c3]) (t := 52) ?hr ?_; (case hd => rfl); (case hg => rfl); (case hr => first | (go_simp; done) | (go_simp; rfl)); intro gb hg w1 hbox hb; have BK := Lib.hid hbox; have HB1 := Lib.hid hb; clear hg hbox hb; obtain ⟨hz0, hz1, hz2, hz3⟩ := blk4 BK.out; have hx1 := hx w1 HB1.out))
            go_ret
            exact ⟨rfl, HB1.out⟩
          · have h1 : (c == (a : Int)) = false := by rw [beq_eq_false_iff_ne]; exact e1
            rw [h1, Bool.false_or]
            by_cases e2 : f2 = 1
            · have h2 : (f2 == 1) = true := by rw [e2]; rfl
              rw [h2, Bool.true_and]
              go_enter Tryd.func30, Tryd.ntmps30
              go_wp2_with (first | ((with_reducible refine gate_dst (N := 2) rfl ?_); refine box_event ?hg (N := 2) ?hd (cs := #[.int .i64 7, .int .i64 f1, .int .i64 f2, .slice (some ad) f3.length c3]) (t := 52) ?hr ?_; (case hd => rfl); (case hg => rfl); (case hr => first | (go_simp; done) | (go_simp; rfl)); intro gb hg w1 hbox hb; have BK := Lib.hid hbox; have HB1 := Lib.hid hb; clear hg hbox hb; obtain ⟨hz0, hz1, hz2, hz3⟩ := blk4 BK.out; have hx1 := hx w1 HB1.out))
              refine (refolds_calls w1 a ha2 c (HF.out.below HB1.out)).mono ?_
              rintro e w2 ⟨rfl, n, rfl⟩
              go_wp2_with fail
              go_ret
              exact ⟨rfl, pw_below_drewN HB1.out n⟩
            · have h2 : (f2 == 1) = false := by rw [beq_eq_false_iff_ne]; exact e2
              rw [h2, Bool.false_and]
              go_enter Tryd.func30, Tryd.ntmps30
              go_wp2_with (first | ((with_reducible refine gate_dst (N := 2) rfl ?_); refine box_event ?hg (N := 2) ?hd (cs := #[.int .i64 7, .int .i64 f1, .int .i64 f2, .slice (some ad) f3.length c3]) (t := 52) ?hr ?_; (case hd => rfl); (case hg => rfl); (case hr => first | (go_simp; done) | (go_simp; rfl)); intro gb hg w1 hbox hb; have BK := Lib.hid hbox; have HB1 := Lib.hid hb; clear hg hbox hb; obtain ⟨hz0, hz1, hz2, hz3⟩ := blk4 BK.out; have hx1 := hx w1 HB1.out))
              go_ret
              exact ⟨rfl, HB1.out⟩
        · rw [if_neg hl1]
          have hl2 : (f3.length == 1) = false := by rw [beq_eq_false_iff_ne]; exact hl1
          have hl3 : ((f3.length : Int) == 1) = false := by rw [beq_eq_false_iff_ne]; omega
          go_enter Tryd.func30, Tryd.ntmps30
          go_wp2_with (first | ((with_reducible refine gate_dst (N := 2) rfl ?_); refine box_event ?hg (N := 2) ?hd (cs := #[.int .i64 7, .int .i64 f1, .int .i64 f2, .slice A3 f3.length c3]) (t := 52) ?hr ?_; (case hd => rfl); (case hg => rfl); (case hr => first | (go_simp; done) | (go_simp; rfl)); intro gb hg w1 hbox hb; have BK := Lib.hid hbox; have HB1 := Lib.hid hb; clear hg hbox hb; obtain ⟨hz0, hz1, hz2, hz3⟩ := blk4 BK.out))
          refine (spec_reInClass.calls kc A3 c3 f3 c (inCls f3 c) _ (Kd.C_below HK.out HB1.out) hc HKC.out).mono ?_
          rintro e w2 ⟨rfl, hb2⟩
          go_wp2_with fail
          go_ret
          exact ⟨rfl, below_step HB1.out hb2.below⟩
end Go.Proofs.YtmccgfjhmbioeaaDoor.PgFnPgThreads
namespace Go.Proofs.YtmccgfjhmbioeaaDoor.PgFnPgThreads
open Go.RowKit Go.Proofs.YtmccgfjhmbioeaaDoor.EvN Go.Proofs.YtmccgfjhmbioeaaDoor.Row Go.Proofs.YtmccgfjhmbioeaaDoor.Sf Go.Proofs.YtmccgfjhmbioeaaDoor.PFnPgThreads Go.Proofs.YtmccgfjhmbioeaaDoorW.PrintWords Go.Proofs.YtmccgfjhmbioeaaDoorW.PrintLast Go.Proofs.YtmccgfjhmbioeaaDoorW.PrintMore
set_option linter.unusedSimpArgs false
set_option linter.unusedVariables false
def lo_ (l : List Int) (k : Nat) : Int := l.getD (2 * k) 0
def hi_ (l : List Int) (k : Nat) : Int := l.getD (2 * k + 1) 0
theorem lo_cons (a b : Int) (r : List Int) (k : Nat) : lo_ (a :: b :: r) (k + 1) = lo_ r k := by
  unfold lo_; rw [show 2 * (k + 1) = 2 * k + 1 + 1 by omega]; simp
theorem hi_cons (a b : Int) (r : List Int) (k : Nat) : hi_ (a :: b :: r) (k + 1) = hi_ r k := by
  unfold hi_; rw [show 2 * (k + 1) + 1 = (2 * k + 1) + 1 + 1 by omega]; simp
theorem inCls_iff : ∀ (l : List Int) (c : Int), inCls l c = true ↔ ∃ k, 2 * k + 1 < l.length ∧ lo_ l k ≤ c ∧ c ≤ hi_ l k
  | [], c => by simp [inCls]
  | [a], c => by simp [inCls]
  | a :: b :: r, c => by
    rw [inCls, Bool.or_eq_true, Bool.and_eq_true, decide_eq_true_eq, decide_eq_true_eq, inCls_iff r c]
    constructor
    · rintro (h | ⟨k, h1, h2, h3⟩)
      · exact ⟨0, by simp, h.1, h.2⟩
      · exact ⟨k + 1, by simp; omega, by rw [lo_cons]; exact h2, by rw [hi_cons]; exact h3⟩
    · rintro ⟨k, h1, h2, h3⟩
      cases k with
      | zero => exact .inl ⟨h2, h3⟩
      | succ k =>
        rw [lo_cons] at h2
        rw [hi_cons] at h3
        simp at h1
        exact .inr ⟨k, by omega, h2, h3⟩
structure Asc (l : List Int) : Prop where
  even : l.length % 2 = 0
  le : ∀ k, 2 * k + 1 < l.length → lo_ l k ≤ hi_ l k
  lt : ∀ k, 2 * (k + 1) + 1 < l.length → hi_ l k < lo_ l (k + 1)
theorem asc_clsF : ∀ (l : List Int) (last : Int), l.length % 2 = 0 → clsF last l = true → Asc l ∧ (0 < l.length → last < lo_ l 0)
  | [], last, he, h => ⟨⟨he, fun k hk => by simp at hk, fun k hk => by simp at hk⟩, fun h => by simp at h⟩
  | [a], last, he, h => by simp at he
  | a :: b :: r, last, he, h => by
    rw [clsF] at h
    by_cases h1 : a ≤ last
    · rw [if_pos h1] at h; cases h
    · by_cases h2 : a > b
      · rw [if_neg h1, if_pos h2] at h; cases h
      · by_cases h3 : b > 1114111
        · rw [if_neg h1, if_neg h2, if_pos h3] at h; cases h
        · rw [if_neg h1, if_neg h2, if_neg h3] at h
          have he2 : r.length % 2 = 0 := by simp at he; omega
          obtain ⟨i1, i2⟩ := asc_clsF r b he2 h
          refine ⟨⟨he, fun k hk => ?_, fun k hk => ?_⟩, fun _ => by show last < a; omega⟩
          · cases k with
            | zero => show a ≤ b; omega
            | succ k => rw [lo_cons, hi_cons]; exact i1.le k (by simp at hk; omega)
          · cases k with
            | zero =>
              rw [lo_cons]
              exact i2 (by simp at hk; omega)
            | succ k => rw [lo_cons, hi_cons]; exact i1.lt k (by simp at hk; omega)
theorem asc_of {l : List Int} (h : cls l = true) : Asc l := by
  unfold cls at h
  by_cases he : (l.length : Int) % 2 = 0
  · rw [if_pos he] at h
    exact (asc_clsF l (-1) (by omega) h).1
  · rw [if_neg he] at h; cases h
theorem Asc.apart {l : List Int} (h : Asc l) : ∀ (d j : Nat), 2 * (j + 1 + d) + 1 < l.length → hi_ l j < lo_ l (j + 1 + d) := by
  intro d
  induction d with
  | zero => intro j hj; exact h.lt j hj
  | succ d ih =>
    intro j hj
    have h1 := ih j (by omega)
    have h2 := h.le (j + 1 + d) (by omega)
    have h3 := h.lt (j + 1 + d) (by omega)
    rw [show j + 1 + (d + 1) = j + 1 + d + 1 by omega]
    omega
theorem Asc.sep {l : List Int} (h : Asc l) {j k : Nat} (hjk : j < k) (hk : 2 * k + 1 < l.length) : hi_ l j < lo_ l k := by
  obtain ⟨d, rfl⟩ : ∃ d, k = j + 1 + d := ⟨k - (j + 1), by omega⟩
  exact h.apart d j hk
theorem Asc.found {l : List Int} {c : Int} {k : Nat} (hk : 2 * k + 1 < l.length) (h1 : lo_ l k ≤ c) (h2 : c ≤ hi_ l k) : inCls l c = true := (inCls_iff l c).2 ⟨k, hk, h1, h2⟩
theorem Asc.none {l : List Int} {c : Int} {k : Nat} (h1 : ∀ i, i < k → 2 * i + 1 < l.length → hi_ l i < c) (h2 : ∀ i, k ≤ i → 2 * i + 1 < l.length → c < lo_ l i) : inCls l c = false := by
  rw [← Bool.not_eq_true, inCls_iff]
  rintro ⟨i, hi, a, b⟩
  by_cases e : i < k
  · have := h1 i e hi; omega
  · have := h2 i (by omega) hi; omega
theorem Asc.below {l : List Int} (h : Asc l) {c : Int} {m : Nat} (hm : 2 * m + 1 < l.length) (h1 : hi_ l m < c) : ∀ i, i < m + 1 → 2 * i + 1 < l.length → hi_ l i < c := by
  intro i hi h2
  by_cases e : i = m
  · rw [e]; exact h1
  · have := h.sep (show i < m by omega) hm
    have := h.le m hm
    omega
theorem Asc.above {l : List Int} (h : Asc l) {c : Int} {m : Nat} (hm : 2 * m + 1 < l.length) (h1 : c < lo_ l m) : ∀ i, m ≤ i → 2 * i + 1 < l.length → c < lo_ l i := by
  intro i hi h2
  by_cases e : i = m
  · rw [e]; exact h1
  · have := h.sep (show m < i by omega) h2
    have := h.le m hm
    omega
structure Tak7 (i : I) : Prop where
  op : i.f0 = 7
  one : i.f3.length = 1 → i.f2 = 1 ∧ ∃ a : Nat, i.f3.getD 0 0 = (a : Int) ∧ a ≤ 1114111
  cls : ¬ i.f3.length = 1 → i.f2 = 0 ∧ Asc i.f3
theorem PSound.tak7 {L : List I} {st nc most : Int} (h : PSound L st nc most) (pc : Nat) (hpc : pc < L.length) (h7 : (ins L pc).f0 = 7) : Tak7 (ins L pc) := by
  have ht := h.tak pc hpc (by unfold waitsB; simp [h7]) (by omega)
  have h1 := h.inst pc hpc
  have h2 := h.outIn pc hpc (by omega)
  unfold instB at h1
  rw [if_neg (by omega), if_neg (fun e => e h2), if_neg (by omega), if_neg (by omega), if_neg (by omega), if_neg (by omega), if_neg (by omega), if_neg (by omega), if_neg (by omega), if_pos h7] at h1
  simp only [Bool.and_eq_true, Bool.or_eq_true, decide_eq_true_eq] at h1
  refine ⟨h7, fun h => ⟨?_, ht.fold h7 h⟩, fun h => ?_⟩
  · rcases h1 with ⟨⟨a, b⟩, c⟩ | ⟨a, b⟩
    · exact a
    · exfalso
      have := (asc_of b).even
      omega
  · rcases h1 with ⟨⟨a, b⟩, c⟩ | ⟨a, b⟩
    · exact absurd (by omega) h
    · exact ⟨a, asc_of b⟩
theorem takes7_cls {i : I} (h : Tak7 i) (h1 : ¬ i.f3.length = 1) (c : Int) : takesB i c = inCls i.f3 c := by
  unfold takesB
  have := h.op
  rw [if_neg (by omega), if_neg (by omega), if_neg (by omega), if_neg h1]
theorem takes7_one {i : I} (h : Tak7 i) (h1 : i.f3.length = 1) (a : Nat) (ha : i.f3.getD 0 0 = (a : Int)) (c : Int) : takesB i c = foldsB a c := by
  unfold takesB
  have := h.op
  rw [if_neg (by omega), if_neg (by omega), if_neg (by omega), if_pos h1, ha, (h.one h1).1, Int.toNat_natCast]
  by_cases e : c = (a : Int)
  · subst e; simp [foldsB]
  · have : (c == (a : Int)) = false := by rw [beq_eq_false_iff_ne]; exact e
    rw [this]; simp
end Go.Proofs.YtmccgfjhmbioeaaDoor.PgFnPgThreads
namespace Go.Proofs.YtmccgfjhmbioeaaDoor.PgFnPgThreads
open Go.RowKit Go.Proofs.YtmccgfjhmbioeaaDoor.EvN Go.Proofs.YtmccgfjhmbioeaaDoor.Row Go.Proofs.YtmccgfjhmbioeaaDoor.Sf Go.Proofs.YtmccgfjhmbioeaaDoor.PFnPgThreads Go.Proofs.YtmccgfjhmbioeaaDoorW.PrintWords Go.Proofs.YtmccgfjhmbioeaaDoorW.PrintLast Go.Proofs.YtmccgfjhmbioeaaDoorW.PrintMore
set_option linter.unusedSimpArgs false
set_option linter.unusedVariables false
def MrP (b : Bool) (w : World) (e : Ending) (w' : World) : Prop := ∃ v : Int, e = .returned (.int .i64 v) ∧ (v != -1) = b ∧ ∃ n, w' = w.drewN n
theorem MrP.no {b : Bool} (h : b = false) (w : World) (n : Nat) : MrP b w (.returned (.int .i64 (-1))) (w.drewN n) := ⟨-1, rfl, by rw [h]; rfl, n, rfl⟩
theorem MrP.yes {b : Bool} (h : b = true) (w : World) (n : Nat) (v : Int) (hv : 0 ≤ v) : MrP b w (.returned (.int .i64 v)) (w.drewN n) := ⟨v, rfl, by rw [h, bne_iff_ne]; omega, n, rfl⟩
theorem add_succ (a : Addr) (k : Nat) : a.add (k + 1) = ⟨a.block, a.off + (k + 1), none⟩ := by unfold Addr.add; split <;> simp_all
set_option maxRecDepth 100000 in
set_option maxHeartbeats 4000000 in
theorem mrpos_calls (ip : Addr) (i : I) (h : Tak7 i) (w : World) (A3 : Option Addr) (c3 : Nat) (hx2 : w.cell? ⟨ip.block, ip.off + 2, none⟩ = some (.int .u32 i.f2)) (hx3 : w.cell? ⟨ip.block, ip.off + 3, none⟩ = some (.slice A3 i.f3.length c3)) (hK : Kd.C (Kd.int .i32) w A3 i.f3.length i.f3) (hc : i.f3.length ≤ c3) (hl : i.f3.length ≤ 9223372036854775807) (hF : Folds w) (c : Int) :
    Calls Tryd.prog 63 #[.pointer (some ip), .int .i32 c] w (MrP (takesB i c) w) := by
  have HK := Lib.hid hK
  have HF := Lib.hid hF
  have HS := Lib.hid h
  have hcell : ∀ j, j < i.f3.length → ∃ a3, A3 = some a3 ∧ w.cell? (a3.add j) = some (.int .i32 (i.f3.getD j 0)) := fun j hj => by
    obtain ⟨ad, e, hx⟩ := kd_cell hK (Below.refl _ w) j hj
    exact ⟨ad, e, by rw [hx, List.getD_eq_getElem?_getD, List.getElem?_eq_getElem hj]; rfl⟩
  have HC := Lib.hid hcell
  obtain ⟨b, hb⟩ : ∃ b, b = takesB i c := ⟨_, rfl⟩
  rw [← hb]
  have HB := Lib.hid hb
  obtain ⟨n, hn⟩ : ∃ n, n = i.f3.length := ⟨_, rfl⟩
  rw [← hn] at hx3 hl hc
  have HN := Lib.hid hn
  have hz : w = w.drewN 0 := rfl
  clear hK hF h hcell hb hn hz
  by_cases n0 : n = 0
  · have hbf : b = false := by rw [HB.out, takes7_cls HS.out (by rw [← HN.out]; omega)]; exact inCls_short _ _ (by rw [← HN.out]; omega)
    have HBF := Lib.hid hbf
    subst n0
    clear hbf
    go_enter Tryd.func63, Tryd.ntmps63
    go_wp2_with fail
    go_ret
    exact MrP.no HBF.out w 0
  · have e0 : ((n : Int) == 0) = false := by rw [beq_eq_false_iff_ne]; omega
    have e0' : (n == 0) = false := by rw [beq_eq_false_iff_ne]; omega
    obtain ⟨a3, rfl, hr0⟩ := HC.out 0 (by rw [← HN.out]; omega)
    rw [add_0] at hr0
    by_cases n1 : n = 1
    · obtain ⟨hf2, a, ha, ha2⟩ := HS.out.one (by rw [← HN.out]; exact n1)
      have hbf := takes7_one HS.out (by rw [← HN.out]; exact n1) a ha c
      rw [← HB.out] at hbf
      have HBF := Lib.hid hbf
      rw [ha] at hr0
      rw [hf2] at hx2
      subst n1
      clear hbf ha hf2
      by_cases hca : c = (a : Int)
      · have hbt : b = true := by rw [HBF.out]; unfold foldsB; rw [if_pos hca.symm]
        have HBT := Lib.hid hbt
        have d1 : (c == (a : Int)) = true := by rw [beq_iff_eq]; exact hca
        clear hbt hca
        go_enter Tryd.func63, Tryd.ntmps63
        go_wp2_with fail
        go_ret
        exact MrP.yes HBT.out w 0 0 (by omega)
      · have hbt : b = fdF 4 a (sfN a) c := by rw [HBF.out]; unfold foldsB; rw [if_neg (Ne.symm hca)]
        have HBT := Lib.hid hbt
        have d1 : (c == (a : Int)) = false := by rw [beq_eq_false_iff_ne]; exact hca
        clear hbt hca
        go_enter Tryd.func63, Tryd.ntmps63
        go_wp2_with fail
        refine (fold_calls w a ha2 HF.out).mono ?_
        rintro e w1 ⟨rfl, n1, rfl⟩
        go_wp2_with fail
        clear hx2 hx3 hr0
        go_loopg [7] 4 (fun gk s7 wr => ∃ (d m : Nat), Hid (d ≤ 1114111 ∧ (∃ q, q + 1 ≤ gk ∧ it q d = a) ∧ b = fdF gk a d c) ∧ s7 = .int .i32 (d : Int) ∧ wr = w.drewN m)
        case atStart =>
          obtain ⟨m, m1, m2, m3, m4, m5⟩ := orbit a ha2
          refine ⟨sfN a, n1, ⟨sfN_le a ha2, ⟨m - 1, by omega, ?_⟩, HBT.out⟩, rfl, rfl⟩
          rw [← it_succ, show m - 1 + 1 = m by omega]; exact m3
        case round =>
          obtain ⟨d, m, HI, rfl, rfl⟩ := hrel
          by_cases hda : d = a
          · have hd1 : ((d : Int) != (a : Int)) = false := by rw [hda]; simp
            have hd2 : (d != a) = false := by rw [hda]; simp
            go_wp2_with fail
            go_ret
            have h := HI.out.2.2
            obtain ⟨q, hq, _⟩ := HI.out.2.1
            obtain ⟨g, rfl⟩ : ∃ g, gk = g + 1 := ⟨gk - 1, by omega⟩
            rw [fdF_succ g, if_pos hda] at h
            exact MrP.no h w m
          · have hd1 : ((d : Int) != (a : Int)) = true := by simpa using fun e : (d : Int) = a => hda (by omega)
            have hd2 : (d != a) = true := by simpa using hda
            by_cases hdc : (d : Int) = c
            · have hd3 : (c == (d : Int)) = true := by rw [beq_iff_eq]; exact hdc.symm
              have HDC := Lib.hid hdc
              clear hdc
              go_wp2_with fail
              go_ret
              have h := HI.out.2.2
              obtain ⟨q, hq, _⟩ := HI.out.2.1
              obtain ⟨g, rfl⟩ : ∃ g, gk = g + 1 := ⟨gk - 1, by omega⟩
              rw [fdF_succ g, if_neg hda, if_pos HDC.out] at h
              exact MrP.yes h w m 0 (by omega)
            · have hd3 : (c == (d : Int)) = false := by rw [beq_eq_false_iff_ne]; exact Ne.symm hdc
              go_wp2_with fail
              refine (fold_calls (w.drewN m) d HI.out.1 (HF.out.below (pw_below_drewN (Below.refl _ w) m))).mono ?_
              rintro e w2 ⟨rfl, n2, rfl⟩
              go_wp2_with fail
              go_roundg (gk - 1)
              case measure =>
                obtain ⟨q, hq, _⟩ := HI.out.2.1
                omega
              case rel =>
                obtain ⟨hc, ⟨q, hq, hit⟩, h⟩ := HI.out
                obtain ⟨g, rfl⟩ : ∃ g, gk = g + 1 := ⟨gk - 1, by omega⟩
                have hq1 : q ≠ 0 := fun e => by subst e; exact hda hit
                obtain ⟨q, rfl⟩ : ∃ q', q = q' + 1 := ⟨q - 1, by omega⟩
                rw [it_succ] at hit
                rw [fdF_succ g, if_neg hda, if_neg hdc] at h
                exact ⟨sfN d, m + n2, ⟨sfN_le d hc, ⟨q, by omega, hit⟩, h⟩, rfl, rfl⟩
    · have e1 : ((n : Int) == 1) = false := by rw [beq_eq_false_iff_ne]; omega
      have e1' : (n == 1) = false := by rw [beq_eq_false_iff_ne]; omega
      obtain ⟨hf2, hasc⟩ := HS.out.cls (by rw [← HN.out]; exact n1)
      have hbf := takes7_cls HS.out (by rw [← HN.out]; exact n1) c
      rw [← HB.out] at hbf
      have HBF := Lib.hid hbf
      have HA := Lib.hid hasc
      have hev : n % 2 = 0 := by have := hasc.even; rw [← HN.out] at this; exact this
      generalize hl3 : i.f3 = l at *
      have HN2 : Hid (n = l.length) := HN
      have HC2 : Hid (∀ j, j < n → w.cell? (a3.add j) = some (.int .i32 (l.getD j 0))) := Lib.hid fun j hj => by
        obtain ⟨_, e, hx⟩ := HC.out j (by rw [← HN2.out]; exact hj)
        cases e
        exact hx
      clear hbf hasc HC hl3 hx2 hf2 HK HS HB HN
      by_cases n2 : n = 2
      · have hr1 := HC2.out 1 (by omega)
        subst n2
        have hlo : l.getD 0 0 = lo_ l 0 := rfl
        have hhi : l.getD 1 0 = hi_ l 0 := rfl
        rw [hlo] at hr0
        rw [hhi, add_succ, Nat.zero_add] at hr1
        have HN3 : Hid (l.length = 2) := Lib.hid HN2.out.symm
        clear hlo hhi HC2 HN2
        generalize hlov : lo_ l 0 = x at *
        generalize hhiv : hi_ l 0 = y at *
        have HX := Lib.hid (And.intro hlov hhiv)
        clear hlov hhiv
        by_cases c1 : x ≤ c
        · by_cases c2 : c ≤ y
          · have hbt : b = true := by rw [HBF.out]; exact Asc.found (k := 0) (by rw [HN3.out]; omega) (by rw [HX.out.1]; exact c1) (by rw [HX.out.2]; exact c2)
            have HBT := Lib.hid hbt
            clear hbt
            go_enter Tryd.func63, Tryd.ntmps63
            go_wp2_with fail
            go_ret
            exact MrP.yes HBT.out w 0 0 (by omega)
          · have hbt : b = false := by
              rw [HBF.out]
              exact Asc.none (k := 1) (fun i h1 h2 => by rw [show i = 0 by omega, HX.out.2]; omega) (fun i h1 h2 => by rw [HN3.out] at h2; omega)
            have HBT := Lib.hid hbt
            have d2 : decide (c ≤ y) = false := decide_eq_false c2
            clear hbt
            go_enter Tryd.func63, Tryd.ntmps63
            go_wp2_with fail
            go_ret
            exact MrP.no HBT.out w 0
        · have hbt : b = false := by
            rw [HBF.out]
            exact Asc.none (k := 0) (fun i h1 h2 => by omega) (fun i h1 h2 => by rw [HN3.out] at h2; rw [show i = 0 by omega, HX.out.1]; omega)
          have HBT := Lib.hid hbt
          have d2 : decide (x ≤ c) = false := decide_eq_false c1
          have d3 : decide (c ≥ x) = false := decide_eq_false c1
          clear hbt
          go_enter Tryd.func63, Tryd.ntmps63
          go_wp2_with fail
          go_ret
          exact MrP.no HBT.out w 0
      · have e2 : ((n : Int) == 2) = false := by rw [beq_eq_false_iff_ne]; omega
        have e2' : (n == 2) = false := by rw [beq_eq_false_iff_ne]; omega
        by_cases n468 : n = 4 ∨ n = 6 ∨ n = 8
        · have hsw : ((n : Int) == 4) = true ∨ (((n : Int) == 4) = false ∧ ((n : Int) == 6) = true) ∨ (((n : Int) == 4) = false ∧ ((n : Int) == 6) = false ∧ ((n : Int) == 8) = true) := by
            rcases n468 with h | h | h
            · left; rw [h]; rfl
            · right; left; rw [h]; exact ⟨rfl, rfl⟩
            · right; right; rw [h]; exact ⟨rfl, rfl, rfl⟩
          have hn8 : n ≤ 8 := by omega
          clear n468 n0 n1 n2 hr0
          rcases hsw with s4 | ⟨s4, s6⟩ | ⟨s4, s6, s8⟩
          all_goals
            go_enter Tryd.func63, Tryd.ntmps63
            go_wp2_with fail
            go_loopg [8] n (fun gk s8 wr => ∃ k : Nat, Hid (gk + 2 * k = n ∧ ∀ i, i < k → 2 * i + 1 < l.length → hi_ l i < c) ∧ 2 * k ≤ n ∧ s8 = .int .i64 (2 * k : Nat) ∧ wr = w)
            case atStart => exact ⟨0, ⟨by omega, fun i hi => by omega⟩, by omega, rfl, rfl⟩
            case round =>
              obtain ⟨k, HI, hk, rfl, rfl⟩ := hrel
              by_cases hlt : 2 * k < n
              · have hq0 := HC2.out (2 * k) hlt
                have hq1 := HC2.out (2 * k + 1) (by omega)
                have hlo : l.getD (2 * k) 0 = lo_ l k := rfl
                have hhi : l.getD (2 * k + 1) 0 = hi_ l k := rfl
                rw [hlo] at hq0
                rw [hhi, add_succ] at hq1
                clear hlo hhi
                generalize hlov : lo_ l k = x at *
                generalize hhiv : hi_ l k = y at *
                have HX := Lib.hid (And.intro hlov hhiv)
                have HL := Lib.hid (show 2 * k + 1 < l.length by rw [← HN2.out]; omega)
                obtain ⟨j, hj⟩ : ∃ j, j = 2 * k := ⟨_, rfl⟩
                rw [← hj] at hq0 hq1 hlt hk ⊢
                have HJ := Lib.hid hj
                have hj1 : ((j : Int) + 1).toNat = j + 1 := by omega
                have hj2 : ((j : Int) + 1) < (n : Int) := by omega
                have hj3 : j + 1 < n := by omega
                clear hlov hhiv hj
                by_cases c1 : c < x
                · have hbt : b = false := by
                    rw [HBF.out]
                    exact Asc.none (k := k) HI.out.2 (HA.out.above HL.out (by rw [HX.out.1]; exact c1))
                  have HBT := Lib.hid hbt
                  clear hbt
                  go_wp2_with fail
                  go_ret
                  exact MrP.no HBT.out wr 0
                · by_cases c2 : c ≤ y
                  · have hbt : b = true := by rw [HBF.out]; exact Asc.found HL.out (by rw [HX.out.1]; omega) (by rw [HX.out.2]; exact c2)
                    have HBT := Lib.hid hbt
                    clear hbt
                    go_wp2_with fail
                    go_ret
                    exact MrP.yes HBT.out wr 0 _ (by first | omega | (apply Int.ediv_nonneg <;> omega))
                  · have d2 : decide (c ≤ y) = false := decide_eq_false c2
                    go_wp2_with fail
                    go_roundg (gk - 2)
                    case measure => have := HI.out.1; have := HJ.out; omega
                    case rel =>
                      have hj := HJ.out
                      refine ⟨k + 1, ⟨by have := HI.out.1; omega, HA.out.below HL.out (by rw [HX.out.2]; omega)⟩, by omega, ?_, rfl⟩
                      first | exact congrArg (Value.int .i64) (by omega) | (rw [hj]; go_num)
              · have hbt : b = false := by
                  rw [HBF.out]
                  exact Asc.none (k := k) HI.out.2 (fun i h1 h2 => by rw [← HN2.out] at h2; omega)
                have HBT := Lib.hid hbt
                clear hbt
                obtain ⟨j, hj⟩ : ∃ j, j = 2 * k := ⟨_, rfl⟩
                rw [← hj] at hlt hk ⊢
                clear hj
                go_wp2_with fail
                go_ret
                exact MrP.no HBT.out wr 0
        · have s4 : ((n : Int) == 4) = false := by rw [beq_eq_false_iff_ne]; omega
          have s6 : ((n : Int) == 6) = false := by rw [beq_eq_false_iff_ne]; omega
          have s8 : ((n : Int) == 8) = false := by rw [beq_eq_false_iff_ne]; omega
          clear hr0
          obtain ⟨m, hm⟩ : ∃ m, n = 2 * m := ⟨n / 2, by omega⟩
          have HM := Lib.hid hm
          clear hm
          go_enter Tryd.func63, Tryd.ntmps63
          go_wp2_with fail
          clear hx3
          go_loopg [9, 10] m (fun gk s9 s10 wr => ∃ (lo hi : Nat), Hid ((∀ i, i < lo → 2 * i + 1 < l.length → hi_ l i < c) ∧ (∀ i, hi ≤ i → 2 * i + 1 < l.length → c < lo_ l i)) ∧ lo ≤ hi ∧ hi ≤ m ∧ gk = hi - lo ∧ s9 = .int .i64 lo ∧ s10 = .int .i64 hi ∧ wr = w)
          case atStart => exact ⟨0, m, ⟨fun i h => by omega, fun i h1 h2 => by have := HM.out; have := HN2.out; omega⟩, by omega, by omega, rfl, rfl, congrArg (Value.int .i64) (by have := HM.out; omega), rfl⟩
          case round =>
            obtain ⟨lo, hi, HI, hle, hhm, rfl, rfl, rfl, rfl⟩ := hrel
            by_cases hlt : lo < hi
            · have hmid : (lo + hi) / 2 < m := by omega
              have hM := HM.out
              have hq0 := HC2.out (2 * ((lo + hi) / 2)) (by omega)
              have hq1 := HC2.out (2 * ((lo + hi) / 2) + 1) (by omega)
              rw [show l.getD (2 * ((lo + hi) / 2)) 0 = lo_ l ((lo + hi) / 2) from rfl] at hq0
              rw [show l.getD (2 * ((lo + hi) / 2) + 1) 0 = hi_ l ((lo + hi) / 2) from rfl, add_succ] at hq1
              have HL := Lib.hid (show 2 * ((lo + hi) / 2) + 1 < l.length by rw [← HN2.out]; omega)
              have hn1 : 2 * ((lo + hi) / 2) < n := by omega
              have hn2 : 2 * ((lo + hi) / 2) + 1 < n := by omega
              clear hM
              generalize hlov : lo_ l ((lo + hi) / 2) = x at *
              generalize hhiv : hi_ l ((lo + hi) / 2) = y at *
              have HX := Lib.hid (And.intro hlov hhiv)
              clear hlov hhiv
              by_cases c1 : x ≤ c
              · by_cases c2 : c ≤ y
                · have hbt : b = true := by rw [HBF.out]; exact Asc.found HL.out (by rw [HX.out.1]; exact c1) (by rw [HX.out.2]; exact c2)
                  have HBT := Lib.hid hbt
                  clear hbt
                  go_wp2_with fail
                  go_ret
                  exact MrP.yes HBT.out wr 0 _ (by omega)
                · have d2 : decide (c ≤ y) = false := decide_eq_false c2
                  go_wp2_with fail
                  go_roundg (hi - ((lo + hi) / 2 + 1))
                  case measure => omega
                  case rel => exact ⟨(lo + hi) / 2 + 1, hi, ⟨HA.out.below HL.out (by rw [HX.out.2]; omega), HI.out.2⟩, by omega, hhm, rfl, congrArg (Value.int .i64) (by omega), rfl, rfl⟩
              · go_wp2_with fail
                go_roundg ((lo + hi) / 2 - lo)
                case measure => omega
                case rel => exact ⟨lo, (lo + hi) / 2, ⟨HI.out.1, HA.out.above HL.out (by rw [HX.out.1]; omega)⟩, by omega, by omega, rfl, rfl, congrArg (Value.int .i64) (by omega), rfl⟩
            · have hbt : b = false := by
                rw [HBF.out]
                exact Asc.none (k := lo) HI.out.1 (fun i h1 h2 => HI.out.2 i (by omega) h2)
              have HBT := Lib.hid hbt
              clear hbt
              go_wp2_with fail
              go_ret
              exact MrP.no HBT.out wr 0
set_option maxRecDepth 100000 in
set_option maxHeartbeats 1000000 in
theorem mrune_calls (ip : Addr) (i : I) (h : Tak7 i) (w : World) (A3 : Option Addr) (c3 : Nat) (hx2 : w.cell? ⟨ip.block, ip.off + 2, none⟩ = some (.int .u32 i.f2)) (hx3 : w.cell? ⟨ip.block, ip.off + 3, none⟩ = some (.slice A3 i.f3.length c3)) (hK : Kd.C (Kd.int .i32) w A3 i.f3.length i.f3) (hc : i.f3.length ≤ c3) (hl : i.f3.length ≤ 9223372036854775807) (hF : Folds w) (c : Int) :
    Calls Tryd.prog 58 #[.pointer (some ip), .int .i32 c] w fun e w' => e = .returned (.bool (takesB i c)) ∧ ∃ n, w' = w.drewN n := by
  have hcall := mrpos_calls ip i h w A3 c3 hx2 hx3 hK hc hl hF c
  generalize takesB i c = b at *
  clear hx2 hx3 hK hF h hc hl
  go_enter Tryd.func58, Tryd.ntmps58
  go_wp2_with fail
  refine hcall.mono ?_
  rintro e w' ⟨v, rfl, hv, n, rfl⟩
  clear hcall
  have HV := Lib.hid hv
  clear hv
  go_wp2_with fail
  go_ret
  exact ⟨by rw [← HV.out]; rfl, n, rfl⟩
end Go.Proofs.YtmccgfjhmbioeaaDoor.PgFnPgThreads
