/- The name behind a $ as the package reads it (extract): the walk. -/
import Derived.Test.YtpnojanoamheiaaDoorHcFnTxExpand
namespace Go.Proofs.YtpnojanoamheiaaDoor.XxFnTxExpand
open Go.Proofs.YtpnojanoamheiaaDoorW.PrintWords hiding nums nums_length
open Go.RowKit Go.Proofs.YtpnojanoamheiaaDoor.EvN Go.Proofs.YtpnojanoamheiaaDoor.My Go.Proofs.YtpnojanoamheiaaDoor.PFnTxExpand Go.Proofs.YtpnojanoamheiaaDoorW.PrintLast Go.Proofs.YtpnojanoamheiaaDoorW.PrintMore
set_option linter.unusedSimpArgs false
set_option linter.unusedVariables false

theorem exS_nil {t : ByteArray} (h : t.size = 0) : exS t = none := exS_none0 (by
  have hb : brB t = false := by rw [brB_of]; simp [h]
  have := scan_le (str t)
  rw [str_nb hb] at this ⊢
  omega)

set_option maxRecDepth 100000 in
set_option maxHeartbeats 4000000 in
theorem iextract_calls (t : ByteArray) (ht : t.size ≤ 100000000) (w : World) (hE : Env w) :
    Calls Tryd.prog 20 #[.string t] w fun e w' => ExI t e ∧ Below w.heap.size w w' := by
  have HE := Lib.hid hE
  clear hE
  by_cases h0 : t.size = 0
  · obtain ⟨n1, n2⟩ := nil_list t h0
    have HN := Lib.hid (exS_nil h0)
    clear h0
    go_enter Tryd.func20, Tryd.ntmps20
    go_wp2_with fail
    exact bodyPost_ret (v := .tuple #[.string ⟨#[]⟩, .int .i64 0, .string ⟨#[]⟩, .bool false]) (by simp [results, Tryd.results20, go_sem]) rfl ⟨.inl ⟨HN.out, _, _, _, rfl⟩, Below.refl _ _⟩
  have h1 : 0 < t.size := by omega
  have n1 := ne_list t h1
  have n2 := ne_empty t h1
  have n3 : (1 : Int) ≤ (t.size : Int) := by omega
  obtain ⟨c, hc⟩ : ∃ c : Int, (t[0].toNat : Int) = c := ⟨_, rfl⟩
  have hcb : c = bt t 0 := by rw [← hc]; exact bt0 t h1
  obtain ⟨b, hb⟩ : ∃ b, (c == 123) = b := ⟨_, rfl⟩
  obtain ⟨s, hs⟩ : ∃ s, s = str t := ⟨_, rfl⟩
  have hsz : s.size ≤ t.size := by have := str_size t; rw [← hs] at this; split at this <;> omega
  have HS := Lib.hid (And.intro (show b = brB t by rw [brB_of, ← hcb, hb]; simp [h1]) hs)
  clear hcb h0 hs
  go_enter Tryd.func20, Tryd.ntmps20
  go_upto_if 15 with (fail)
  go_cut [0, 6] (fun v0 v6 wc => v0 = .string s ∧ v6 = .bool b ∧ w = wc)
  case first =>
    cases b with
    | true =>
      have HF := Lib.hid (show s = t.extract 1 t.size by rw [HS.out.2, str_br HS.out.1.symm]; rfl)
      go_wp2_with fail
      go_meet
      exact ⟨by rw [HF.out], rfl, rfl⟩
    | false =>
      have HF := Lib.hid (show s = t by rw [HS.out.2, str_nb HS.out.1.symm])
      go_wp2_with fail
      go_meet
      exact ⟨by rw [HF.out], rfl, rfl⟩
  case rest =>
    obtain ⟨rfl, rfl, rfl⟩ := hcut
    clear hc hb n1 n2 n3
    go_upto_block 0 with (fail)
    go_cut [7] (fun v7 wc => v7 = .int .i64 ((scan s : Nat) : Int) ∧ Hid (Below w.heap.size w wc))
    case first =>
      go_wp2_with fail
      go_loopg [7] s.size (fun gk s7 wr => ∃ (i m : Nat), Hid (gk + i = s.size ∧ s.size < i + m ∧ scan s = scF s m i ∧ Below w.heap.size w wr) ∧ i ≤ s.size ∧ s7 = .int .i64 i)
      case atStart => exact ⟨0, s.size + 1, Lib.hid ⟨by omega, by omega, rfl, Below.refl _ _⟩, Nat.zero_le _, rfl⟩
      case round =>
        obtain ⟨i, m, HI, hi, rfl⟩ := hrel
        by_cases hlt : i < s.size
        · have hd1 : decide (i < s.size) = true := decide_eq_true hlt
          have hi0 : (0 : Int) ≤ (i : Int) := by omega
          have hi1 : (i : Int) ≤ (s.size : Int) := by omega
          have HD := Lib.hid (Tryd.utf8_DecodeRuneInString (s.extract i s.size) wr (HE.out.below HI.out.2.2.2).u8)
          have hw := dec_le (s.extract i s.size)
          have hp := dec_pos (s.extract i s.size) (by simp; omega)
          have hru := dec_rune (s.extract i s.size)
          have hez : (s.extract i s.size).size = s.size - i := by simp
          rw [hez] at hw
          have HGO := Lib.hid (fun m => scF_go (s := s) (m := m) hlt)
          have HNO := Lib.hid (fun m => scF_no (s := s) (m := m) hlt)
          clear hez
          go_wp2_with fail
          refine HD.out.mono ?_
          rintro e w1 ⟨rfl, hb1⟩
          have HB1 := Lib.hid (below_step HI.out.2.2.2 hb1)
          clear hb1 HD
          obtain ⟨cd, hcd⟩ : ∃ cd, cd = Lib.decodeGo (s.extract i s.size) := ⟨_, rfl⟩
          rw [← hcd] at HGO HNO hw hp hru ⊢
          clear hcd
          obtain ⟨c, d⟩ := cd
          simp only at HGO HNO hw hp hru ⊢
          have HL := Lib.hid (letter_calls (c : Int) w1 (by omega) (by omega) (HE.out.below HB1.out))
          have HDD := Lib.hid (fun w2 (hb : Below w.heap.size w w2) => digit_calls (c : Int) w2 (by omega) (by omega) (HE.out.below hb))
          obtain ⟨xa, hxa⟩ : ∃ x, x = chL (c : Int) := ⟨_, rfl⟩
          obtain ⟨xb, hxb⟩ : ∃ x, x = chD (c : Int) := ⟨_, rfl⟩
          obtain ⟨xc, hxc⟩ : ∃ x, ((c : Int) == 95) = x := ⟨_, rfl⟩
          have hxn : ((c : Int) != 95) = !xc := by rw [← hxc]; rfl
          have hn : nch (c : Int) = (xc || (xa || xb)) := by unfold nch; rw [hxa, hxb, hxc]
          rw [← hxa] at HL
          rw [← hxb] at HDD
          rw [hn] at HGO HNO
          clear hxa hxb hn
          go_wp2_with fail
          refine HL.out.mono ?_
          rintro e w2 ⟨rfl, hb2⟩
          have HB2 := Lib.hid (below_step HB1.out hb2)
          clear hb2 HL HB1
          cases xa with
          | true =>
            go_wp2_with fail
            go_roundg (gk - d)
            case measure => have := HI.out.1; omega
            case rel => exact ⟨i + d, m - 1, Lib.hid ⟨by have := HI.out.1; omega, by have := HI.out.2.1; omega, by
              have h1 := HI.out.2.2.1
              have h2 := HI.out.2.1
              obtain ⟨m', rfl⟩ : ∃ m', m = m' + 1 := ⟨m - 1, by omega⟩
              rw [h1, HGO.out m' (by simp)]; rfl, HB2.out⟩, by omega, by go_num⟩
          | false =>
            go_wp2_with fail
            refine (HDD.out w2 HB2.out).mono ?_
            rintro e w3 ⟨rfl, hb3⟩
            have HBX := Lib.hid (below_step HB2.out hb3)
            clear hb3 HDD HB2
            cases xb with
            | true =>
              go_wp2_with fail
              go_roundg (gk - d)
              case measure => have := HI.out.1; omega
              case rel => exact ⟨i + d, m - 1, Lib.hid ⟨by have := HI.out.1; omega, by have := HI.out.2.1; omega, by
                have h1 := HI.out.2.2.1
                have h2 := HI.out.2.1
                obtain ⟨m', rfl⟩ : ∃ m', m = m' + 1 := ⟨m - 1, by omega⟩
                rw [h1, HGO.out m' (by simp)]; rfl, HBX.out⟩, by omega, by go_num⟩
            | false =>
              cases xc with
              | true =>
                go_wp2_with fail
                go_roundg (gk - d)
                case measure => have := HI.out.1; omega
                case rel => exact ⟨i + d, m - 1, Lib.hid ⟨by have := HI.out.1; omega, by have := HI.out.2.1; omega, by
                  have h1 := HI.out.2.2.1
                  have h2 := HI.out.2.1
                  obtain ⟨m', rfl⟩ : ∃ m', m = m' + 1 := ⟨m - 1, by omega⟩
                  rw [h1, HGO.out m' (by simp)]; rfl, HBX.out⟩, by omega, by go_num⟩
              | false =>
                have hq : scan s = i := by rw [HI.out.2.2.1]; exact HNO.out m (by simp)
                clear hw hp hru HGO HNO hlt hd1
                go_wp2_with fail
                go_meet
                exact ⟨by rw [hq], HBX⟩
        · have hd1 : decide (i < s.size) = false := decide_eq_false hlt
          have hq : scan s = i := by rw [HI.out.2.2.1]; exact scF_end hlt
          have HBX := Lib.hid HI.out.2.2.2
          go_wp2_with fail
          go_meet
          exact ⟨by rw [hq], HBX⟩
    case rest =>
      obtain ⟨rfl, HBX⟩ := hcut
      have hi := scan_le s
      obtain ⟨i, hie⟩ : ∃ i, scan s = i := ⟨_, rfl⟩
      rw [hie] at hi ⊢
      have HQ := Lib.hid hie
      clear hie
      by_cases hz : i = 0
      · have HN := Lib.hid (exS_none0 (t := t) (by rw [← HS.out.2, HQ.out]; exact hz))
        subst hz
        go_wp2_with fail
        exact bodyPost_ret (v := .tuple #[.string ⟨#[]⟩, .int .i64 0, .string ⟨#[]⟩, .bool false]) (by simp [results, Tryd.results20, go_sem]) rfl ⟨.inl ⟨HN.out, _, _, _, rfl⟩, HBX.out⟩
      have hi0 : (0 : Int) ≤ (i : Int) := by omega
      have hi1 : (i : Int) ≤ (s.size : Int) := by omega
      have H0 := Lib.hid (show scan (str t) ≠ 0 by rw [← HS.out.2, HQ.out]; exact hz)
      have hzb : ((i : Int) == 0) = false := beq_f (by omega)
      go_upto_if 49 with (fail)
      obtain ⟨nm, hnme⟩ : ∃ nm, nm = s.extract 0 i := ⟨_, rfl⟩
      have hns : nm.size = i := by rw [hnme]; simp; omega
      rw [← hnme]
      have HNE := Lib.hid (And.intro hnme hns)
      clear hns
      go_cut [7] (fun v7 wx => ∃ q : Nat, v7 = .int .i64 (q : Int) ∧ q ≤ s.size ∧ Hid ((∃ q', exS t = some (nm, q') ∧ s.extract q s.size = dr t q') ∧ wc = wx))
      case first =>
        cases b with
        | false =>
          have HN := Lib.hid (exS_nb (t := t) H0.out HS.out.1.symm)
          go_wp2_with fail
          go_meet
          exact ⟨i, rfl, hi, Lib.hid ⟨⟨i, by rw [HN.out, HNE.out.1, ← HS.out.2, HQ.out], by show dr s i = _; rw [HS.out.2, str_nb HS.out.1.symm]⟩, rfl⟩⟩
        | true =>
          by_cases hlt : i < s.size
          · obtain ⟨x, hx⟩ : ∃ x : Int, (s[i].toNat : Int) = x := ⟨_, rfl⟩
            have hbx := bti s i hlt
            rw [hx] at hbx
            have hd1 : decide ((i : Int) ≥ (s.size : Int)) = false := decide_eq_false (by omega)
            have hd2 : decide (i ≥ s.size) = false := decide_eq_false (by omega)
            have hlt' : (i : Int) < (s.size : Int) := by omega
            by_cases h125 : x = 125
            · have HN := Lib.hid (exS_br (t := t) H0.out HS.out.1.symm (by rw [← HS.out.2, HQ.out]; exact ⟨hlt, by rw [← hbx, h125]⟩))
              have hcb : (x != 125) = false := by simp [h125]
              clear h125 hbx
              go_wp2_with fail
              go_meet
              exact ⟨i + 1, by go_num, by omega, Lib.hid ⟨⟨i + 2, by rw [HN.out, HNE.out.1, ← HS.out.2, HQ.out], by show dr s (i + 1) = _; rw [HS.out.2, str_br HS.out.1.symm, dr_dr]; congr 1; omega⟩, rfl⟩⟩
            · have HN := Lib.hid (exS_none1 (t := t) HS.out.1.symm (by rw [← HS.out.2, HQ.out]; exact fun h => h125 (hbx.trans h.2)))
              have hcb : (x != 125) = true := by simp [h125]
              clear h125 hbx
              go_wp2_with fail
              exact bodyPost_ret (v := .tuple #[.string nm, .int .i64 0, .string ⟨#[]⟩, .bool false]) (by simp [results, Tryd.results20, go_sem]) rfl ⟨.inl ⟨HN.out, _, _, _, rfl⟩, HBX.out⟩
          · have hd1 : decide ((i : Int) ≥ (s.size : Int)) = true := decide_eq_true (by omega)
            have hd2 : decide (i ≥ s.size) = true := decide_eq_true (by omega)
            have HN := Lib.hid (exS_none1 (t := t) HS.out.1.symm (by rw [← HS.out.2, HQ.out]; exact fun h => hlt h.1))
            go_wp2_with fail
            exact bodyPost_ret (v := .tuple #[.string nm, .int .i64 0, .string ⟨#[]⟩, .bool false]) (by simp [results, Tryd.results20, go_sem]) rfl ⟨.inl ⟨HN.out, _, _, _, rfl⟩, HBX.out⟩
      case rest =>
        obtain ⟨q, rfl, hq, HX⟩ := hcut
        obtain rfl := HX.out.2
        have hn0 : 0 < nm.size := by rw [HNE.out.2]; omega
        have hn9 : nm.size ≤ 100000000 := by rw [HNE.out.2]; omega
        clear hzb hnme
        go_upto_block 2 with (fail)
        go_cut [3] (fun v3 wx => ∃ x : Int, v3 = .int .i64 x ∧ Hid ((bt nm 0 = 48 ∧ 1 < nm.size ∨ x = numE nm) ∧ wc = wx))
        case first =>
          go_wp2_with fail
          go_loopg [3, 10] nm.size (fun gk s3 s10 wr => ∃ (k : Nat) (v : Int), Hid (gk + k = nm.size ∧ Dig nm k ∧ (∀ j : Nat, j < k → val nm j < 100000000) ∧ wc = wr ∧ val nm k = v) ∧ k ≤ nm.size ∧ 0 ≤ v ∧ v ≤ 999999999 ∧ s3 = .int .i64 v ∧ s10 = .int .i64 k)
          case atStart => exact ⟨0, 0, Lib.hid ⟨by omega, fun j hj => by omega, fun j hj => by omega, rfl, rfl⟩, Nat.zero_le _, by omega, by omega, rfl, rfl⟩
          case round =>
            obtain ⟨k, v, HI, hk, hv0, hv1, rfl, rfl⟩ := hrel
            have HWR := Lib.hid HI.out.2.2.2.1
            by_cases hlt : k < nm.size
            · have hd1 : decide (k < nm.size) = true := decide_eq_true hlt
              have hlt' : (k : Int) < (nm.size : Int) := by omega
              obtain ⟨x, hx⟩ : ∃ x : Int, (nm[k].toNat : Int) = x := ⟨_, rfl⟩
              have hbx := bti nm k hlt
              rw [hx] at hbx
              have HB := Lib.hid hbx
              have hr := bt_range nm (k : Int)
              rw [← hbx] at hr
              clear hbx
              by_cases c1 : x < 48
              · have HN := Lib.hid (numE_no nm k hlt (.inl (by rw [← HB.out]; exact c1)))
                have e1 : decide (x < 48) = true := decide_eq_true c1
                go_wp2_with fail
                go_meet
                exact ⟨-1, rfl, Lib.hid ⟨.inr HN.out.symm, HWR.out⟩⟩
              have e1 : decide (x < 48) = false := decide_eq_false c1
              by_cases c2 : 57 < x
              · have HN := Lib.hid (numE_no nm k hlt (.inr (by rw [← HB.out]; exact c2)))
                have e2 : decide (57 < x) = true := decide_eq_true c2
                go_wp2_with fail
                go_meet
                exact ⟨-1, rfl, Lib.hid ⟨.inr HN.out.symm, HWR.out⟩⟩
              have e2 : decide (57 < x) = false := decide_eq_false c2
              by_cases c3 : v ≥ 100000000
              · have HN := Lib.hid (numE_big nm k hlt HI.out.2.1 (by rw [HI.out.2.2.2.2]; exact c3))
                have e3 : decide (v ≥ 100000000) = true := decide_eq_true c3
                go_wp2_with fail
                go_meet
                exact ⟨-1, rfl, Lib.hid ⟨.inr HN.out.symm, HWR.out⟩⟩
              have e3 : decide (v ≥ 100000000) = false := decide_eq_false c3
              go_wp2_with fail
              go_roundg (gk - 1)
              case measure => have := HI.out.1; omega
              case rel => exact ⟨k + 1, v * 10 + (x - 48), Lib.hid ⟨by have := HI.out.1; omega, fun j hj => by
                by_cases e : j = k
                · subst e; rw [← HB.out]; omega
                · exact HI.out.2.1 j (by omega), fun j hj => by
                by_cases e : j = k
                · subst e; rw [HI.out.2.2.2.2]; omega
                · exact HI.out.2.2.1 j (by omega), HWR.out, by rw [val, HI.out.2.2.2.2, ← HB.out]⟩, by omega, by omega, by omega, by congr 1; omega, by go_num⟩
            · have hd1 : decide (k < nm.size) = false := decide_eq_false hlt
              obtain rfl : k = nm.size := by omega
              have HN := Lib.hid (show bt nm 0 = 48 ∧ 1 < nm.size ∨ v = numE nm by
                by_cases h : bt nm 0 = 48 ∧ 1 < nm.size
                · exact .inl h
                · exact .inr (by rw [numE_yes nm hn0 HI.out.2.1 HI.out.2.2.1 h, HI.out.2.2.2.2]))
              go_wp2_with fail
              go_meet
              exact ⟨v, rfl, Lib.hid ⟨HN.out, HWR.out⟩⟩
        case rest =>
          obtain ⟨x, rfl, HY⟩ := hcut
          obtain rfl := HY.out.2
          obtain ⟨q', hq1, hq2⟩ := HX.out.1
          have HZ := Lib.hid (And.intro hq1 hq2)
          clear hq1 hq2
          have hn1 : (0 : Int) < (nm.size : Int) := by omega
          have hq0 : (0 : Int) ≤ (q : Int) := by omega
          have hqs : (q : Int) ≤ (s.size : Int) := by omega
          obtain ⟨y, hy⟩ : ∃ y : Int, (nm[0].toNat : Int) = y := ⟨_, rfl⟩
          have HB : Hid (y = bt nm 0) := Lib.hid (by rw [← hy]; exact bt0 nm hn0)
          by_cases c1 : y = 48
          · by_cases c2 : 1 < nm.size
            · have HN := Lib.hid (numE_zero nm (HB.out.symm.trans c1) c2)
              have e1 : (y == 48) = true := beq_t c1
              have e2 : decide (nm.size > 1) = true := decide_eq_true c2
              have e3 : decide ((nm.size : Int) > 1) = true := decide_eq_true (by omega)
              clear c1 hi0 hi1
              go_wp2_with fail
              exact bodyPost_ret (v := .tuple #[.string nm, .int .i64 (-1), .string (s.extract q s.size), .bool true]) (by simp [results, Tryd.results20, go_sem]) rfl ⟨.inr ⟨nm, q', HZ.out.1, ret4 rfl HN.out.symm HZ.out.2⟩, HBX.out⟩
            · have HN : Hid (x = numE nm) := Lib.hid (by rcases HY.out.1 with h | h; exact absurd h.2 c2; exact h)
              have e1 : (y == 48) = true := beq_t c1
              have e2 : decide (nm.size > 1) = false := decide_eq_false c2
              have e3 : decide ((nm.size : Int) > 1) = false := decide_eq_false (by omega)
              clear c1 hi0 hi1
              go_wp2_with fail
              exact bodyPost_ret (v := .tuple #[.string nm, .int .i64 x, .string (s.extract q s.size), .bool true]) (by simp [results, Tryd.results20, go_sem]) rfl ⟨.inr ⟨nm, q', HZ.out.1, ret4 rfl HN.out HZ.out.2⟩, HBX.out⟩
          · have HN : Hid (x = numE nm) := Lib.hid (by rcases HY.out.1 with h | h; exact absurd (HB.out.trans h.1) c1; exact h)
            have e1 : (y == 48) = false := beq_f c1
            clear c1 hi0 hi1
            go_wp2_with fail
            exact bodyPost_ret (v := .tuple #[.string nm, .int .i64 x, .string (s.extract q s.size), .bool true]) (by simp [results, Tryd.results20, go_sem]) rfl ⟨.inr ⟨nm, q', HZ.out.1, ret4 rfl HN.out HZ.out.2⟩, HBX.out⟩
end Go.Proofs.YtpnojanoamheiaaDoor.XxFnTxExpand
