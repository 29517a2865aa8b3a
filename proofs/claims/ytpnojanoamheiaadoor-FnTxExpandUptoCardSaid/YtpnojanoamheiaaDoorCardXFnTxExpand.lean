/- FnTxExpand, for all names, templates, texts and matches that together are of bulk at most 1048576: Expand of the package writes the template out as the reference does; the tied card of the second form. -/
import Derived.Test.YtpnojanoamheiaaDoorHiFnTxExpand
import Derived.Test.YtpnojanoamheiaaDoorTie
import Derived.Test.YtpnojanoamheiaaDoorCards
import Derived.ProofKit
import Derived.OpenShut
import Derived.ChangeOld
import Derived.ShutString
import Derived.Below
import Derived.Carry
import Derived.SizedLaws
import Derived.LaidMore
import Derived.Lay
import Derived.SliceStrings
import Derived.Deep.Slices
import Derived.Deep.DeepHandedRow
import Derived.Lib.LaidU8
import Derived.Lib.LaidTab
import Derived.Lib.LaidRTab
import Derived.PinnedBridge
import Derived.SevenTiedAt
import Derived.Stop.Joined
namespace Go.Proofs.YtpnojanoamheiaaDoor.fnTxExpand
open Go.ChangeShapes Go.WideShapes Go.ChangeAt Go.RowKit Go.Proofs.YtpnojanoamheiaaDoor.PFnTxExpand Go.Proofs.YtpnojanoamheiaaDoor.XxFnTxExpand
open Go.Proofs.YtpnojanoamheiaaDoorW.PrintWords (Kd)
open Go.ChangeMaps (open_string shut_string)
set_option linter.unusedVariables false
set_option linter.unusedSimpArgs false
theorem own : ownKnob Tryd.prog.godebug = none := by kernel_rfl
theorem laidOut : laidOutB Tryd.prog = true := by kernel_rfl

theorem first_data : (Rows.laid_unicode_utf8_first : DataW Unit) = Lib.firstData := by kernel_rfl
theorem accept_data : (Rows.laid_unicode_utf8_acceptRanges : DataW Unit) = Lib.acceptData := by kernel_rfl
theorem prop_data : (Rows.laid_unicode_properties : DataW Unit) = Lib.tabData .u8 Lib.propertiesTab := by kernel_rfl
theorem extra : U8Extra Tryd.prog Tryd.lays260_ren := ⟨by kernel_rfl, by kernel_rfl, by kernel_rfl, by kernel_rfl, by kernel_rfl, by kernel_rfl, by kernel_rfl⟩
theorem rextra : RExtra Tryd.prog Tryd.lays261_ren := ⟨by kernel_rfl, by kernel_rfl, by kernel_rfl, by kernel_rfl, by kernel_rfl, by kernel_rfl, by kernel_rfl, by kernel_rfl⟩
theorem laid_says {W : World} (h : laidMetH Tryd.prog Rows.fnTxExpandUptoRow.laid W) : Env W := by
  rw [MakeChecks.laidMetH_plain _ _ _ (by kernel_rfl)] at h
  have h0 : laidMet Tryd.prog Rows.fnTxExpandUptoRow.laid W := h
  have h1 : Lib.VarReads Tryd.prog W "unicode/utf8.first" Rows.laid_unicode_utf8_first := Lib.laidMet.reads h0 (by simp [Rows.fnTxExpandUptoRow])
  have h2 : Lib.VarReads Tryd.prog W "unicode/utf8.acceptRanges" Rows.laid_unicode_utf8_acceptRanges := Lib.laidMet.reads h0 (by simp [Rows.fnTxExpandUptoRow])
  have h3 : Lib.VarReads Tryd.prog W "unicode.properties" Rows.laid_unicode_properties := Lib.laidMet.reads h0 (by simp [Rows.fnTxExpandUptoRow])
  have h4 : Lib.VarReads Tryd.prog W "unicode.Letter" Pinned.letter := Lib.laidMet.reads h0 (by simp [Rows.fnTxExpandUptoRow, Rows.laid_unicode_Letter])
  have h5 : Lib.VarReads Tryd.prog W "unicode.Digit" Pinned.digit := Lib.laidMet.reads h0 (by simp [Rows.fnTxExpandUptoRow, Rows.laid_unicode_Digit])
  rw [first_data] at h1
  rw [accept_data] at h2
  rw [prop_data] at h3
  rw [Pinned.letter_eq] at h4
  rw [Pinned.digit_eq] at h5
  refine ⟨utf8Tabs_of_reads Tryd.lays260 extra h1 h2, ?_, rvar_of_reads { Tryd.lays261 with } rextra (by kernel_rfl) (by kernel_rfl) h4, rvar_of_reads { Tryd.lays261 with } rextra (by kernel_rfl) (by kernel_rfl) h5⟩
  obtain ⟨g, t, cs, fuel, p, hg, hty, hvar, hd⟩ := h3
  obtain rfl := Option.some.inj ((show Tryd.prog.globalNamed "unicode.properties" = some 2 by kernel_rfl).symm.trans hg)
  obtain rfl := Option.some.inj ((show (Tryd.prog.globals[2]?).map (·.type) = some 55 by kernel_rfl).symm.trans hty)
  have hcs := Lib.cells_of_tab Tryd.underlying55 Tryd.underlying5 (by kernel_rfl) (by kernel_rfl) hd
  unfold Lib.TabIs
  rw [← hcs]
  exact hvar

section
variable {H : Type} {enc : TypeId × Value → H} {W : World}
theorem bulk_one (d : DataW H) : 1 ≤ Rows.uptoBulk d := by
  cases d with
  | lit l => cases l <;> simp [Rows.uptoBulk]
  | nil => simp [Rows.uptoBulk]
  | ptr d => simp [Rows.uptoBulk]
  | slice elems spare => simp [Rows.uptoBulk]
  | agg parts => simp [Rows.uptoBulk]
  | iface t d => simp [Rows.uptoBulk]
  | map entries => simp [Rows.uptoBulk]
  | held h => simp [Rows.uptoBulk]
theorem bulk_len (l : List (DataW H)) : l.length ≤ Rows.uptoBulkAll l := by
  induction l with
  | nil => simp [Rows.uptoBulkAll]
  | cons x r ih => have := bulk_one x; simp only [Rows.uptoBulkAll, List.length_cons]; omega
theorem bulk_slice (e s : List (DataW H)) : e.length ≤ Rows.uptoBulk (.slice e s) := by
  have := bulk_len e
  simp only [Rows.uptoBulk]
  omega
/-- A slice of whole numbers that came in. -/
theorem arg_nums {t e : TypeId} {k : IntKind} (ht : Tryd.prog.underlying t = some (.slice e)) (he : Tryd.prog.underlying e = some (.int k)) (hc : Tryd.prog.cellsOf e = 1) {base : Nat} {v : Value} {d : DataW H} {p : List MemPlace} (hv : Value.okWide Tryd.prog W .any base t v) (h : DataW.Trod enc Tryd.prog W 0 (fun _ => true) true t v d p) :
    ∃ (A : Option Addr) (c : Nat) (l : List Int), v = .slice A l.length c ∧ l.length ≤ c ∧ Kd.C (Kd.int k) W A l.length l ∧ l.length ≤ Rows.uptoBulk d ∧ (A = none → c = 0) := by
  obtain ⟨fuel, hf⟩ := h
  obtain ⟨a0, len0, cap0, rfl⟩ := okWide_slice ht hv
  rcases open_ints ht he hc hf with ⟨hcs, hx⟩ | ⟨a, len, cap, zs, hcs, _, hl, hm, hz, hx, hcell, hwz⟩
  · have e2 : [Value.slice a0 len0 cap0] = [Value.slice none 0 0] := hcs
    refine ⟨none, 0, [], (List.cons.inj e2).1, Nat.le_refl _, ⟨rfl, by simp, fun h => absurd h (by simp)⟩, Nat.zero_le _, fun _ => rfl⟩
  · have e2 : [Value.slice a0 len0 cap0] = [Value.slice (some a) len cap] := hcs
    have hzl : len ≤ zs.length := by rw [hz]; split <;> omega
    have hlen : (zs.take len).length = len := by rw [List.length_take]; omega
    refine ⟨some a, cap, zs.take len, by rw [hlen]; exact (List.cons.inj e2).1, by rw [hlen]; exact hl, ⟨rfl, by rw [hlen]; unfold maxLen at hm; omega, fun _ => ⟨a, rfl, fun j q hj => ⟨[.int k q], rfl, rfl, fun i u hu => ?_⟩⟩⟩, ?_, fun h => by cases h⟩
    · have hj' : j < (zs.take len).length := by
        rcases Nat.lt_or_ge j (zs.take len).length with h | h
        · exact h
        · rw [List.getElem?_eq_none h] at hj; cases hj
      match i, hu with
      | 0, hu =>
        simp at hu
        subst hu
        have e : zs.getD j 0 = q := by
          rw [List.getElem?_take_of_lt (by omega)] at hj
          rw [List.getD_eq_getElem?_getD, hj]; rfl
        show W.cell? (a.add (j * 1 + 0)) = _
        rw [Nat.mul_one, Nat.add_zero, hcell j (by omega), e]
    · have hd : d = .slice (lits k (zs.take len)) (lits k (zs.drop len)) := congrArg Prod.fst hx
      have := bulk_slice (lits (H := H) k (zs.take len)) (lits k (zs.drop len))
      rw [hd]
      rw [show (lits (H := H) k (zs.take len)).length = (zs.take len).length by simp [lits]] at this
      exact this
/-- A slice of strings that came in. -/
theorem arg_strs {t e : TypeId} (ht : Tryd.prog.underlying t = some (.slice e)) (he : Tryd.prog.underlying e = some .string) (hc : Tryd.prog.cellsOf e = 1) {base : Nat} {v : Value} {d : DataW H} {p : List MemPlace} (hv : Value.okWide Tryd.prog W .any base t v) (h : DataW.Trod enc Tryd.prog W 0 (fun _ => true) true t v d p) :
    ∃ (A : Option Addr) (c : Nat) (l : List ByteArray), v = .slice A l.length c ∧ l.length ≤ c ∧ Kd.C Kd.string W A l.length l ∧ l.length ≤ Rows.uptoBulk d := by
  obtain ⟨fuel, hf⟩ := h
  obtain ⟨a0, len0, cap0, rfl⟩ := okWide_slice ht hv
  rcases open_strings ht he hc hf with ⟨hcs, hx⟩ | ⟨a, len, cap, zs, hcs, _, hl, hm, hz, hx, hcell, hwz⟩
  · have e2 : [Value.slice a0 len0 cap0] = [Value.slice none 0 0] := hcs
    refine ⟨none, 0, [], (List.cons.inj e2).1, Nat.le_refl _, ⟨rfl, by simp, fun h => absurd h (by simp)⟩, Nat.zero_le _⟩
  · have e2 : [Value.slice a0 len0 cap0] = [Value.slice (some a) len cap] := hcs
    have hzl : len ≤ zs.length := by rw [hz]; split <;> omega
    have hlen : (zs.take len).length = len := by rw [List.length_take]; omega
    refine ⟨some a, cap, zs.take len, by rw [hlen]; exact (List.cons.inj e2).1, by rw [hlen]; exact hl, ⟨rfl, by rw [hlen]; unfold maxLen at hm; omega, fun _ => ⟨a, rfl, fun j q hj => ⟨[.string q], rfl, rfl, fun i u hu => ?_⟩⟩⟩, ?_⟩
    · have hj' : j < (zs.take len).length := by
        rcases Nat.lt_or_ge j (zs.take len).length with h | h
        · exact h
        · rw [List.getElem?_eq_none h] at hj; cases hj
      match i, hu with
      | 0, hu =>
        simp at hu
        subst hu
        have e : zs.getD j ByteArray.empty = q := by
          rw [List.getElem?_take_of_lt (by omega)] at hj
          rw [List.getD_eq_getElem?_getD, hj]; rfl
        show W.cell? (a.add (j * 1 + 0)) = _
        rw [Nat.mul_one, Nat.add_zero, hcell j (by omega), e]
    · have hd : d = .slice (strs (zs.take len)) (strs (zs.drop len)) := congrArg Prod.fst hx
      have := bulk_slice (strs (H := H) (zs.take len)) (strs (zs.drop len))
      rw [hd]
      rw [show (strs (H := H) (zs.take len)).length = (zs.take len).length by simp [strs]] at this
      exact this
end

theorem contract (H : Type) (enc : TypeId × Value → H) (W : World) (base : Nat) (args : Array Value) (ds gs : List (DataW H)) (before : List MemPlace)
    (hval0 : ∀ (j : Nat) t v, Tryd.f3.params[j]? = some t → args[j]? = some v → Value.okWide Tryd.prog W .any base t v)
    (hW : DataW.Whole enc Tryd.prog Tryd.f3.params.toList Rows.fnTxExpandSpec.vars false W args.toList ds gs before) (hk : Rows.uptoSmall H (ds ++ gs) = true) (hL : laidMetH Tryd.prog Rows.fnTxExpandUptoRow.laid W) :
    Calls Tryd.prog 3 args W fun e W' => ∃ v, e = .returned v ∧ Rows.fnTxExpandSpec.post enc Tryd.prog Tryd.f3 false true false false W args v W' := by
  have hval : ∀ (j : Nat) t v, Tryd.f3.params[j]? = some t → args[j]? = some v → Value.okWide Tryd.prog W .any base t v := hval0
  have hW' := hW
  obtain ⟨p, q, hA0, hV, rfl, hfz, hnd⟩ := hW
  have hA : DataW.TrodAll enc Tryd.prog W 0 (fun _ => true) true Tryd.f3.params.toList args.toList ds p := hA0
  rw [Tryd.params3] at hA hval
  obtain ⟨v0, vs0, d0, ds0, p0, q0, hargs, rfl, rfl, h0, r0⟩ := trodAll_cons hA
  obtain ⟨v1, vs1, d1, ds1, p1, q1, rfl, rfl, rfl, h1, r1⟩ := trodAll_cons r0
  obtain ⟨v2, vs2, d2, ds2, p2, q2, rfl, rfl, rfl, h2, r2⟩ := trodAll_cons r1
  obtain ⟨v3, vs3, d3, ds3, p3, q3, rfl, rfl, rfl, h3, r3⟩ := trodAll_cons r2
  obtain ⟨v4, vs4, d4, ds4, p4, q4, rfl, rfl, rfl, h4, r4⟩ := trodAll_cons r3
  obtain ⟨v5, vs5, d5, ds5, p5, q5, rfl, rfl, rfl, h5, r5⟩ := trodAll_cons r4
  obtain ⟨rfl, rfl, rfl⟩ := trodAll_nil r5
  obtain rfl : args = #[v0, v1, v2, v3, v4, v5] := by cases args; simp_all
  obtain ⟨rfl, rfl⟩ := trodVars_none hV
  have hb := of_decide_eq_true hk
  simp only [List.append_nil, Rows.uptoBulkAll] at hb
  obtain ⟨T, rfl, rfl, rfl, ws2⟩ := open_string Tryd.underlying9 (hval 2 9 v2 rfl rfl) h2
  obtain ⟨src, rfl, rfl, rfl, ws3⟩ := open_string Tryd.underlying9 (hval 3 9 v3 rfl rfl) h3
  obtain ⟨x5, rfl, rfl, rfl, wx5⟩ := open_int Tryd.underlying3 (hval 5 3 v5 rfl rfl) h5
  have k0 := h0
  have k1 := h1
  have k4 := h4
  have lt0 : ∀ x ∈ p0, x.block < W.heap.size := by obtain ⟨m, hm⟩ := k0; exact DataW.trod_lt m _ _ _ hm
  have lt1 : ∀ x ∈ p1, x.block < W.heap.size := by obtain ⟨m, hm⟩ := k1; exact DataW.trod_lt m _ _ _ hm
  have lt4 : ∀ x ∈ p4, x.block < W.heap.size := by obtain ⟨m, hm⟩ := k4; exact DataW.trod_lt m _ _ _ hm
  obtain ⟨An, cn, names, rfl, hcn, hCn, hbn⟩ := arg_strs Tryd.underlying22 Tryd.underlying9 (by kernel_rfl) (hval 0 22 v0 rfl rfl) h0
  obtain ⟨Ad, cd, D, rfl, hcd, hCd, hbd, hnil⟩ := arg_nums Tryd.underlying23 Tryd.underlying5 (by kernel_rfl) (hval 1 23 v1 rfl rfl) h1
  obtain ⟨Am, cm, m, rfl, hcm, hCm, hbm, _⟩ := arg_nums Tryd.underlying24 Tryd.underlying3 (by kernel_rfl) (hval 4 24 v4 rfl rfl) h4
  have hT : T.size ≤ 1048576 := by
    have e : Rows.uptoBulk (DataW.lit (H := H) (.string T.data.toList)) = T.data.toList.length + 1 := by simp [Rows.uptoBulk]
    rw [e, Array.length_toList] at hb
    have : T.size = T.data.size := rfl
    omega
  have hS : src.size ≤ 1048576 := by
    have e : Rows.uptoBulk (DataW.lit (H := H) (.string src.data.toList)) = src.data.toList.length + 1 := by simp [Rows.uptoBulk]
    rw [e, Array.length_toList] at hb
    have : src.size = src.data.size := rfl
    omega
  have hE := laid_says hL
  have b0 : names.length ≤ 1048576 := by omega
  have b1 : D.length ≤ 1048576 := by omega
  have b4 : m.length ≤ 1048576 := by omega
  clear hA0 hval0 hval hk hb
  refine (law_calls src m names T hT hS b4 b0 D b1 W hE Am cm hCm hcm An cn hCn hcn Ad cd hCd hcd hnil x5).mono fun e W' ⟨he, bel⟩ => ?_
  subst he
  exact ⟨_, rfl, _, _, _, [], _, [], hW', trodAll_mk1 (shut_bool Tryd.underlying4 _), (trodAll_cons_mk (Below.trod laidOut (by kernel_rfl) (of_decide_eq_true (by kernel_rfl)) k0 bel lt0) (trodAll_cons_mk (Below.trod laidOut (by kernel_rfl) (of_decide_eq_true (by kernel_rfl)) k1 bel lt1) (trodAll_cons_mk (shut_string Tryd.underlying9 ws2) (trodAll_cons_mk (shut_string Tryd.underlying9 ws3) (trodAll_cons_mk (Below.trod laidOut (by kernel_rfl) (of_decide_eq_true (by kernel_rfl)) k4 bel lt4) (trodAll_cons_mk (shut_int Tryd.underlying3 wx5) trodAll_mk0)))))), rfl, bel.frame _, fun h => by cases h⟩

abbrev args0 : Array Value := #[.slice none 0 0, .slice none 0 0, .string ByteArray.empty, .string ByteArray.empty, .slice none 0 0, .int .i64 0]
theorem reads (os : Os) {H : Type} (enc : TypeId × Value → H) : ∃ places, DataW.whole enc Tryd.prog ((World.laidAll Tryd.prog os Rows.fnTxExpandUptoRow.laid).forCall (fun _ _ => 0) ⟨#[], args0, []⟩).memory Tryd.f3.params.toList Rows.fnTxExpandSpec.vars false args0.toList 8 = some ([.nil, .nil, .lit (.string []), .lit (.string []), .nil, .lit (.int .i64 0)], [], places) :=
  ⟨[], by kernel_rfl⟩
theorem laid_met (os : Os) : laidMetH Tryd.prog Rows.fnTxExpandUptoRow.laid ((World.laidAll Tryd.prog os Rows.fnTxExpandUptoRow.laid).forCall (fun _ _ => 0) ⟨#[], args0, []⟩).memory := by
  rw [MakeChecks.laidMetH_plain _ _ _ (by kernel_rfl)]
  exact laidMet_laidAll _ (by kernel_rfl) (by kernel_rfl)
set_option maxRecDepth 100000 in
theorem liftedUpto (os : Os) (started : os.Started) (H : Type) (enc : TypeId × Value → H) (F : Stop.Interp) :
    ReturnsInHanded {} Tryd.checked os 3 .any ((Rows.OpenSpec.upto Rows.fnTxExpandSpec).preRow enc Tryd.prog Tryd.f3 Rows.fnTxExpandUptoRow.domain false Rows.fnTxExpandUptoRow.laid) (((Rows.OpenSpec.upto Rows.fnTxExpandSpec).at F).post enc Tryd.prog Tryd.f3 false true false false) := by
  obtain ⟨places, hx⟩ := reads os enc
  have hok : Input.okWideB Tryd.prog ((World.laidAll Tryd.prog os Rows.fnTxExpandUptoRow.laid).forCall (fun _ _ => 0) ⟨#[], args0, []⟩) 3 ⟨#[], args0, []⟩ = true := by kernel_rfl
  refine returnsInHanded_of_row (C := Tryd.checked) (s := Rows.OpenSpec.upto Rows.fnTxExpandSpec) own started (by kernel_rfl) Tryd.func3
    ⟨World.laidAll Tryd.prog os Rows.fnTxExpandUptoRow.laid, fun _ _ => 0, ⟨#[], args0, []⟩, World.laidAll_os _ _ _, World.shaped_of_ZipB (by kernel_rfl) (by kernel_rfl), (Input.okWide_of_okWideB (base := 0) hok).1, (Input.okWide_of_okWideB hok).2,
      OpenSpec.preRow_of_cond 8 hx (by kernel_rfl) (fun k hk => by cases hk; kernel_rfl) (by kernel_rfl) (laid_met os), by
        simp only [Assume.holds]
        exact ⟨by simp, by simp, fun _ => Modest.zero, by simp, by simp⟩⟩ ?_
  intro W base args ds gs before hval hW _ hcond _ hL _ _
  exact contract H enc W base args ds gs before hval hW (hcond _ rfl) hL
theorem saidUpto : Rows.FnTxExpandUptoSaid :=
  OpenClaim.holds_of_cond 3 Tryd.f3 rfl rfl rfl rfl rfl rfl rfl ⟨rfl, rfl, rfl, rfl, rfl⟩ rfl rfl rfl rfl rfl (by kernel_rfl) Tryd.func3 (by kernel_rfl)
    (of_decide_eq_true (by kernel_rfl)) (by unfold Func.isWrapper; first | (rw [if_pos (by decide +kernel)]; kernel_rfl) | (rw [if_neg (by decide +kernel)]; exact ⟨rfl, rfl⟩))
    (fun os started H enc _ F => by rw [OpenClaim.pre_eq_preRow]; exact liftedUpto os started H enc F)
theorem plain (f : FuncId) (fn : Func) (hf : Tryd.pinned.checked.prog.funcNamed "pub-searce/laws.FnTxExpand" = some f) (hfn : Tryd.pinned.checked.prog.funcs[f]? = some fn) :
    false = Tryd.pinned.checked.prog.looks [] ∧ ∀ (j : Nat) t, fn.params[j]? = some t → Tryd.pinned.checked.prog.wantsStandIn t = false := by
  obtain rfl : f = 3 := Option.some.inj ((show Tryd.prog.funcNamed "pub-searce/laws.FnTxExpand" = some 3 by kernel_rfl).symm.trans hf) |>.symm
  obtain rfl : fn = Tryd.f3 := (Option.some.inj (Tryd.func3.symm.trans hfn)).symm
  refine ⟨by kernel_rfl, fun j t ht => ?_⟩
  rw [Tryd.params3] at ht
  have hm : t ∈ [22, 23, 9, 9, 24, 3] := by simpa using Array.mem_of_getElem? ht
  have hall : ([22, 23, 9, 9, 24, 3].all fun u => !Tryd.prog.wantsStandIn u) = true := by kernel_rfl
  exact (show Tryd.prog.wantsStandIn t = false by simpa using List.all_eq_true.1 hall t hm)
end Go.Proofs.YtpnojanoamheiaaDoor.fnTxExpand
namespace Go.Proofs.YtpnojanoamheiaaDoor
open Go.ChangeShapes Go.WideShapes Go.ChangeAt Go.RowKit
theorem fnTxExpand_upto_card : Rows.FnTxExpandUptoCardSaid :=
  Claim7.holds_tied_plain_at .later [] _ _ _ _ fnTxExpand.saidUpto (fun _ h => by cases h) (by kernel_rfl) (fun _ h => by cases h) fnTxExpandUpto_row_tie rfl ⟨rfl, rfl⟩ (by kernel_rfl) rfl fnTxExpand.plain (by kernel_rfl)
#print axioms fnTxExpand_upto_card
end Go.Proofs.YtpnojanoamheiaaDoor
