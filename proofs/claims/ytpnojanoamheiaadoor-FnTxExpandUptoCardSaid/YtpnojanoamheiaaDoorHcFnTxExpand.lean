/- The name behind a $ in the reference (TxExtract): the walk. -/
import Derived.Test.YtpnojanoamheiaaDoorHbFnTxExpand
import Derived.StillTailTactics
namespace Go.Proofs.YtpnojanoamheiaaDoor.XxFnTxExpand
open Go.Proofs.YtpnojanoamheiaaDoorW.PrintWords hiding nums nums_length
open Go.RowKit Go.Proofs.YtpnojanoamheiaaDoor.EvN Go.Proofs.YtpnojanoamheiaaDoor.My Go.Proofs.YtpnojanoamheiaaDoor.PFnTxExpand Go.Proofs.YtpnojanoamheiaaDoorW.PrintLast Go.Proofs.YtpnojanoamheiaaDoorW.PrintMore
set_option linter.unusedSimpArgs false
set_option linter.unusedVariables false

theorem empty_of (s : ByteArray) (h : s.size = 0) : s = ⟨#[]⟩ := by
  apply ByteArray.ext
  apply Array.toList_inj.1
  have : s.data.toList.length = 0 := by simpa using h
  rw [List.eq_nil_of_length_eq_zero this]
theorem ne_list (s : ByteArray) (h : 0 < s.size) : ¬ s.toList = [] := by
  intro e
  rw [ByteArray.toList_eq] at e
  have := congrArg List.length e
  simp at this
  have h2 : s.size = s.data.size := rfl
  rw [h2, this] at h
  simp at h
theorem ne_empty (s : ByteArray) (h : 0 < s.size) : s.toList.isEmpty = false := by
  rw [List.isEmpty_eq_false_iff]; exact ne_list s h
theorem bt0 (s : ByteArray) (h : 0 < s.size) : (s[0].toNat : Int) = bt s 0 := (bt_nat s 0 h).symm
theorem bti (s : ByteArray) (i : Nat) (h : i < s.size) : (s[i].toNat : Int) = bt s (i : Int) := (bt_nat s i h).symm
theorem beq_t {a b : Int} (h : a = b) : (a == b) = true := beq_iff_eq.2 h
theorem beq_f {a b : Int} (h : a ≠ b) : (a == b) = false := beq_eq_false_iff_ne.2 h
theorem ret4 {a a' c c' : ByteArray} {b b' : Int} {d : Bool} (h1 : a = a') (h2 : b = b') (h3 : c = c') : Ending.returned (.tuple #[.string a, .int .i64 b, .string c, .bool d]) = .returned (.tuple #[.string a', .int .i64 b', .string c', .bool d]) := by rw [h1, h2, h3]

/-- What TxExtract leaves. -/
def ExQ (t : ByteArray) (e : Ending) : Prop := (exS t = none ∧ e = .returned (.tuple #[.string ⟨#[]⟩, .int .i64 0, .string ⟨#[]⟩, .bool false])) ∨
  ∃ nm q, exS t = some (nm, q) ∧ e = .returned (.tuple #[.string nm, .int .i64 (numE nm), .string (dr t q), .bool true])
/-- What extract leaves. -/
def ExI (t : ByteArray) (e : Ending) : Prop := (exS t = none ∧ ∃ a b c, e = .returned (.tuple #[.string a, .int .i64 b, .string c, .bool false])) ∨
  ∃ nm q, exS t = some (nm, q) ∧ e = .returned (.tuple #[.string nm, .int .i64 (numE nm), .string (dr t q), .bool true])
theorem exS_none0 {t : ByteArray} (h : scan (str t) = 0) : exS t = none := by unfold exS; rw [if_pos h]
theorem exS_none1 {t : ByteArray} (hb : brB t = true) (h : ¬ (scan (str t) < (str t).size ∧ bt (str t) ((scan (str t) : Nat) : Int) = 125)) : exS t = none := by
  unfold exS
  rw [if_pos hb, if_neg h]
  split <;> rfl
theorem exS_br {t : ByteArray} (h0 : scan (str t) ≠ 0) (hb : brB t = true) (h : scan (str t) < (str t).size ∧ bt (str t) ((scan (str t) : Nat) : Int) = 125) : exS t = some ((str t).extract 0 (scan (str t)), scan (str t) + 2) := by
  unfold exS
  rw [if_neg h0, if_pos hb, if_pos h]
theorem exS_nb {t : ByteArray} (h0 : scan (str t) ≠ 0) (hb : brB t = false) : exS t = some ((str t).extract 0 (scan (str t)), scan (str t)) := by
  unfold exS
  rw [if_neg h0, if_neg (by rw [hb]; simp)]
theorem str_br {t : ByteArray} (hb : brB t = true) : str t = dr t 1 := by unfold str; rw [if_pos hb]
theorem str_nb {t : ByteArray} (hb : brB t = false) : str t = t := by unfold str; rw [if_neg (by rw [hb]; simp)]

theorem below_step {W a b : World} (h : Below W.heap.size W a) (k : Below a.heap.size a b) : Below W.heap.size W b := h.trans (k.mono h.size)
theorem nil_list (s : ByteArray) (h : s.size = 0) : s.toList = [] ∧ s.toList.isEmpty = true := by
  have : s.toList = [] := by rw [ByteArray.toList_eq, empty_of s h]
  exact ⟨this, by rw [this]; rfl⟩
theorem brB_of (t : ByteArray) : brB t = (decide (0 < t.size) && (bt t 0 == 123)) := rfl
theorem scF_go {s : ByteArray} {m i : Nat} (h : i < s.size) (hn : nch ((Lib.decodeGo (s.extract i s.size)).1 : Int) = true) : scF s (m + 1) i = scF s m (i + (Lib.decodeGo (s.extract i s.size)).2) := by
  rw [scF, if_pos h]
  exact if_pos hn
theorem scF_no {s : ByteArray} {m i : Nat} (h : i < s.size) (hn : nch ((Lib.decodeGo (s.extract i s.size)).1 : Int) = false) : scF s m i = i := by
  cases m with
  | zero => rfl
  | succ m =>
    rw [scF, if_pos h]
    exact if_neg (by show ¬ nch ((Lib.decodeGo (s.extract i s.size)).1 : Int) = true; rw [hn]; simp)
theorem scF_end {s : ByteArray} {m i : Nat} (h : ¬ i < s.size) : scF s m i = i := by
  cases m with
  | zero => rfl
  | succ m => rw [scF, if_neg h]
set_option maxRecDepth 100000 in
set_option maxHeartbeats 4000000 in
theorem rextract_calls (t : ByteArray) (ht : t.size ≤ 100000000) (w : World) (hE : Env w) :
    Calls Tryd.prog 12 #[.string t] w fun e w' => ExQ t e ∧ Below w.heap.size w w' := by
  have HE := Lib.hid hE
  clear hE
  obtain ⟨b, hb⟩ : ∃ b, b = brB t := ⟨_, rfl⟩
  obtain ⟨s, hs⟩ : ∃ s, s = str t := ⟨_, rfl⟩
  have hsz : s.size ≤ t.size := by have := str_size t; rw [← hs] at this; split at this <;> omega
  have HS := Lib.hid (And.intro hb hs)
  clear hb hs
  go_enter Tryd.func12, Tryd.ntmps12
  go_upto_region 1 with (fail)
  go_cut [6] (fun v6 wc => v6 = .bool b ∧ w = wc)
  case first =>
    by_cases h0 : t.size = 0
    · obtain ⟨n1, n2⟩ := nil_list t h0
      have HF := Lib.hid (show b = false by rw [HS.out.1, brB_of]; simp [h0])
      clear h0
      go_wp2_with fail
      go_meet
      exact ⟨by rw [HF.out], rfl⟩
    · have h1 : 0 < t.size := by omega
      have n1 := ne_list t h1
      have n2 := ne_empty t h1
      obtain ⟨c, hc⟩ : ∃ c : Int, (t[0].toNat : Int) = c := ⟨_, rfl⟩
      have hcb : c = bt t 0 := by rw [← hc]; exact bt0 t h1
      obtain ⟨x, hx⟩ : ∃ x, (c == 123) = x := ⟨_, rfl⟩
      have HF := Lib.hid (show b = x by rw [HS.out.1, brB_of, ← hcb, hx]; simp [h1])
      clear hcb h0
      cases x with
      | true =>
        go_wp2_with fail
        go_meet
        exact ⟨by rw [HF.out], rfl⟩
      | false =>
        go_wp2_with fail
        go_meet
        exact ⟨by rw [HF.out], rfl⟩
  case rest =>
    obtain ⟨rfl, rfl⟩ := hcut
    go_upto_if 17 with (fail)
    go_cut [0] (fun v0 wc => v0 = .string s ∧ w = wc)
    case first =>
      cases b with
      | true =>
        have n3 : (1 : Int) ≤ (t.size : Int) := by have := (brB_pos HS.out.1.symm).1; omega
        have HF := Lib.hid (show s = t.extract 1 t.size by rw [HS.out.2, str_br HS.out.1.symm]; rfl)
        go_wp2_with fail
        go_meet
        exact ⟨by rw [HF.out], rfl⟩
      | false =>
        have HF := Lib.hid (show s = t by rw [HS.out.2, str_nb HS.out.1.symm])
        go_wp2_with fail
        go_meet
        exact ⟨by rw [HF.out], rfl⟩
    case rest =>
      obtain ⟨rfl, rfl⟩ := hcut
      go_upto_block 0 with (fail)
      go_cut [7] (fun v7 wc => v7 = .int .i64 ((scan s : Nat) : Int) ∧ Hid (Below w.heap.size w wc))
      case first =>
        go_wp2_with fail
        go_loopg [7] s.size (fun gk s7 wr => ∃ (i m : Nat), Hid (gk + i = s.size ∧ s.size < i + m ∧ scan s = scF s m i ∧ Below w.heap.size w wr) ∧ i ≤ s.size ∧ s7 = .int .i64 i)
        case atStart => exact ⟨0, s.size + 1, Lib.hid ⟨by omega, by omega, rfl, Below.refl _ _⟩, Nat.zero_le _, rfl⟩
        case round =>
          obtain ⟨i, m, HI, hi, rfl⟩ := hrel
          by_cases hlt : i < s.size
          · have hd1 : decide (i < s.size) = true := decide_eq_true hlt
            have hi0 : (0 : Int) ≤ (i : Int) := by omega
            have hi1 : (i : Int) ≤ (s.size : Int) := by omega
            have HD := Lib.hid (Tryd.utf8_DecodeRuneInString (s.extract i s.size) wr (HE.out.below HI.out.2.2.2).u8)
            have hw := dec_le (s.extract i s.size)
            have hp := dec_pos (s.extract i s.size) (by simp; omega)
            have hru := dec_rune (s.extract i s.size)
            have hez : (s.extract i s.size).size = s.size - i := by simp
            rw [hez] at hw
            have HGO := Lib.hid (fun m => scF_go (s := s) (m := m) hlt)
            have HNO := Lib.hid (fun m => scF_no (s := s) (m := m) hlt)
            clear hez
            go_wp2_with fail
            refine HD.out.mono ?_
            rintro e w1 ⟨rfl, hb1⟩
            have HB1 := Lib.hid (below_step HI.out.2.2.2 hb1)
            clear hb1 HD
            obtain ⟨cd, hcd⟩ : ∃ cd, cd = Lib.decodeGo (s.extract i s.size) := ⟨_, rfl⟩
            rw [← hcd] at HGO HNO hw hp hru ⊢
            clear hcd
            obtain ⟨c, d⟩ := cd
            simp only at HGO HNO hw hp hru ⊢
            have HNC := Lib.hid (nchar_calls (c : Int) w1 (by omega) (by omega) (HE.out.below HB1.out))
            obtain ⟨x, hx⟩ : ∃ x, x = nch (c : Int) := ⟨_, rfl⟩
            rw [← hx] at HNC HGO HNO
            clear hx
            go_wp2_with fail
            refine HNC.out.mono ?_
            rintro e w2 ⟨rfl, hb2⟩
            have HBX := Lib.hid (below_step HB1.out hb2)
            clear hb2 HNC HB1
            cases x with
            | true =>
              go_wp2_with fail
              go_roundg (gk - d)
              case measure => have := HI.out.1; omega
              case rel => exact ⟨i + d, m - 1, Lib.hid ⟨by have := HI.out.1; omega, by have := HI.out.2.1; omega, by
                have h1 := HI.out.2.2.1
                have h2 := HI.out.2.1
                obtain ⟨m', rfl⟩ : ∃ m', m = m' + 1 := ⟨m - 1, by omega⟩
                rw [h1, HGO.out m' (by first | rfl | trivial)]; rfl, HBX.out⟩, by omega, by go_num⟩
            | false =>
              have hq : scan s = i := by rw [HI.out.2.2.1]; exact HNO.out m (by first | rfl | trivial)
              go_wp2_with fail
              go_meet
              exact ⟨by rw [hq], HBX⟩
          · have hd1 : decide (i < s.size) = false := decide_eq_false hlt
            have hq : scan s = i := by rw [HI.out.2.2.1]; exact scF_end hlt
            have HBX := Lib.hid HI.out.2.2.2
            go_wp2_with fail
            go_meet
            exact ⟨by rw [hq], HBX⟩
      case rest =>
        obtain ⟨rfl, HBX⟩ := hcut
        have hi := scan_le s
        obtain ⟨i, hie⟩ : ∃ i, scan s = i := ⟨_, rfl⟩
        rw [hie] at hi ⊢
        have hq := hie
        clear hie
        have HQ := Lib.hid hq
        clear hq
        have hi0 : (0 : Int) ≤ (i : Int) := by omega
        have hi1 : (i : Int) ≤ (s.size : Int) := by omega
        go_upto_region 9 with (fail)
        go_quiet (fail)
        have HBY := Lib.hid (pw_below_drewN HBX.out nq)
        clear HBX
        have hrs : Hid ((s.extract i s.size).size = s.size - i ∧ s.extract i s.size = dr s i) := Lib.hid ⟨by simp, rfl⟩
        have hnm : Hid ((s.extract 0 i).size = i) := Lib.hid (by simp; omega)
        obtain ⟨rs, hrse⟩ : ∃ rs, rs = s.extract i s.size := ⟨_, rfl⟩
        obtain ⟨nm, hnme⟩ : ∃ nm, nm = s.extract 0 i := ⟨_, rfl⟩
        rw [← hrse] at hrs ⊢
        rw [← hnme] at hnm ⊢
        have HNE := Lib.hid hnme
        clear hrse hnme
        by_cases h0 : i = 0
        · obtain ⟨n1, n2⟩ := nil_list nm (by rw [hnm.out]; exact h0)
          have HN := Lib.hid (exS_none0 (t := t) (by rw [← HS.out.2, HQ.out]; exact h0))
          clear h0
          go_wp2_with fail
          exact bodyPost_ret (v := .tuple #[.string ⟨#[]⟩, .int .i64 0, .string ⟨#[]⟩, .bool false]) (by simp [results, Tryd.results12, go_sem]) rfl ⟨.inl ⟨HN.out, rfl⟩, HBY.out⟩
        · have n1 := ne_list nm (by rw [hnm.out]; omega)
          have n2 := ne_empty nm (by rw [hnm.out]; omega)
          obtain ⟨kn, hkn⟩ := (ev_num nm (by rw [hnm.out]; omega)).get
          have HKN := Lib.hid hkn
          have H0 := Lib.hid (show scan (str t) ≠ 0 by rw [← HS.out.2, HQ.out]; exact h0)
          clear hkn h0
          cases b with
          | false =>
            have HN := Lib.hid (exS_nb (t := t) H0.out HS.out.1.symm)
            go_wp2_with fail
            refine (spec_TxGroupNumber.calls kn nm _ _ HKN.out).mono ?_
            rintro e w5 ⟨rfl, hb5⟩
            have HB5 := Lib.hid (below_step HBY.out hb5)
            clear hb5
            go_wp2_with fail
            exact bodyPost_ret (v := .tuple #[.string nm, .int .i64 (numE nm), .string rs, .bool true]) (by simp [results, Tryd.results12, go_sem]) rfl ⟨.inr ⟨_, _, HN.out, ret4 (by rw [HNE.out, ← HS.out.2, HQ.out]) (by rw [HNE.out, ← HS.out.2, HQ.out]) (by rw [hrs.out.2, HS.out.2, str_nb HS.out.1.symm, ← HQ.out, HS.out.2, str_nb HS.out.1.symm])⟩, HB5.out⟩
          | true =>
            by_cases hr0 : rs.size = 0
            · obtain ⟨r1, r2⟩ := nil_list rs hr0
              have HN := Lib.hid (exS_none1 (t := t) HS.out.1.symm (by rw [← HS.out.2, HQ.out]; have := hrs.out.1; omega))
              clear hr0
              go_wp2_with fail
              exact bodyPost_ret (v := .tuple #[.string ⟨#[]⟩, .int .i64 0, .string ⟨#[]⟩, .bool false]) (by simp [results, Tryd.results12, go_sem]) rfl ⟨.inl ⟨HN.out, rfl⟩, HBY.out⟩
            · have r0 : 0 < rs.size := by omega
              have r1 := ne_list rs r0
              have r2 := ne_empty rs r0
              obtain ⟨c, hc⟩ : ∃ c : Int, (rs[0].toNat : Int) = c := ⟨_, rfl⟩
              have HC : Hid (bt s (i : Int) = c) := Lib.hid (by
                have h1 := bt_nat rs 0 r0
                have h2 : bt rs ((0 : Nat) : Int) = bt s ((i + 0 : Nat) : Int) := by rw [hrs.out.2]; exact bt_dr s i 0 (by have := hrs.out.1; omega)
                rw [← hc, ← h1, h2]; rfl)
              by_cases h125 : c = 125
              · have hcb := beq_t h125
                have hcn : (c != 125) = false := by simp [h125]
                have HN := Lib.hid (exS_br (t := t) H0.out HS.out.1.symm (by rw [← HS.out.2, HQ.out]; exact ⟨by have := hrs.out.1; omega, HC.out.trans h125⟩))
                have r3 : (1 : Int) ≤ (rs.size : Int) := by omega
                clear h125
                go_wp2_with fail
                refine (spec_TxGroupNumber.calls kn nm _ _ HKN.out).mono ?_
                rintro e w5 ⟨rfl, hb5⟩
                have HB5 := Lib.hid (below_step HBY.out hb5)
                clear hb5
                go_wp2_with fail
                exact bodyPost_ret (v := .tuple #[.string nm, .int .i64 (numE nm), .string (rs.extract 1 rs.size), .bool true]) (by simp [results, Tryd.results12, go_sem]) rfl ⟨.inr ⟨_, _, HN.out, ret4 (by rw [HNE.out, ← HS.out.2, HQ.out]) (by rw [HNE.out, ← HS.out.2, HQ.out]) (by show dr rs 1 = _; rw [hrs.out.2, HS.out.2, str_br HS.out.1.symm, dr_dr, dr_dr, ← str_br HS.out.1.symm, ← HS.out.2, HQ.out]; congr 1; omega)⟩, HB5.out⟩
              · have hcb := beq_f h125
                have hcn : (c != 125) = true := by simp [h125]
                have HN := Lib.hid (exS_none1 (t := t) HS.out.1.symm (by rw [← HS.out.2, HQ.out]; exact fun h => h125 (HC.out.symm.trans h.2)))
                clear h125
                go_wp2_with fail
                exact bodyPost_ret (v := .tuple #[.string ⟨#[]⟩, .int .i64 0, .string ⟨#[]⟩, .bool false]) (by simp [results, Tryd.results12, go_sem]) rfl ⟨.inl ⟨HN.out, rfl⟩, HBY.out⟩
end Go.Proofs.YtpnojanoamheiaaDoor.XxFnTxExpand
