/- The package's writing out of a template (expand): the walk. -/
import Derived.Test.YtpnojanoamheiaaDoorHeFnTxExpand
namespace Go.Proofs.YtpnojanoamheiaaDoor.XxFnTxExpand
open Go.Proofs.YtpnojanoamheiaaDoorW.PrintWords hiding nums nums_length
open Go.RowKit Go.Proofs.YtpnojanoamheiaaDoor.EvN Go.Proofs.YtpnojanoamheiaaDoor.My Go.Proofs.YtpnojanoamheiaaDoor.PFnTxExpand Go.Proofs.YtpnojanoamheiaaDoorW.PrintLast Go.Proofs.YtpnojanoamheiaaDoorW.PrintMore
set_option linter.unusedSimpArgs false
set_option linter.unusedVariables false

/-- The text as the two ways hand it on: a string, or bytes in a block that the row written to is not. -/
def Sm (bv sv : Value) (src : ByteArray) (w : World) (v : Value) : Prop := (bv = .slice none 0 0 ∧ sv = .string src) ∨
  ∃ gs cs s', bv = .slice (some ⟨gs, 0, none⟩) src.size cs ∧ src.size ≤ cs ∧ sv = .string s' ∧ gs < w.heap.size ∧ v.ownBlock ≠ some gs ∧ ∀ j : Nat, j < src.size → w.cell? ⟨gs, j, none⟩ = some (.int .u8 (bt src (j : Int)))
theorem Sm.below {bv sv : Value} {src : ByteArray} {w w' : World} {v : Value} (h : Sm bv sv src w v) (hb : Below w.heap.size w w') : Sm bv sv src w' v := by
  rcases h with h | ⟨gs, cs, s', h1, h2, h3, h4, h5, h6⟩
  · exact .inl h
  · exact .inr ⟨gs, cs, s', h1, h2, h3, Nat.lt_of_lt_of_le h4 hb.size, h5, fun j hj => (hb.cell (p := ⟨gs, j, none⟩) h4).trans (h6 j hj)⟩
theorem Sm.grow {bv sv : Value} {src : ByteArray} {w w' : World} {v v' : Value} (h : Sm bv sv src w v) (hg : w.grownBy w' v.ownBlock) (ha : Away w v v') : Sm bv sv src w' v' := by
  rcases h with h | ⟨gs, cs, s', h1, h2, h3, h4, h5, h6⟩
  · exact .inl h
  · refine .inr ⟨gs, cs, s', h1, h2, h3, Nat.lt_of_lt_of_le h4 hg.size, ?_, fun j hj => (World.cell?_of_block (a := ⟨gs, j, none⟩) (hg.block gs h4 fun e => h5 e.symm)).trans (h6 j hj)⟩
    rcases ha with e | ⟨g, e, hl⟩
    · rw [e]; exact h5
    · rw [e]; intro e2; cases e2; omega
theorem nums_take (t : ByteArray) (q : Nat) (hq : q ≤ t.size) : My.nums (t.extract 0 q) = (My.nums t).take q := by
  unfold My.nums
  rw [← List.map_take]
  congr 1
  simp [ByteArray.data_extract, Array.toList_extract, List.extract_eq_take_drop]
theorem nums_sub (t : ByteArray) (a b j : Nat) (hb : b ≤ t.size) (hj : j < (My.nums (t.extract a b)).length) : (My.nums (t.extract a b))[j] = bt t ((a + j : Nat) : Int) := by
  have hl := hj
  rw [My.nums_length] at hl
  have hs : (t.extract a b).size = b - a := by simp; omega
  rw [My.nums_get _ j hl, bt_nat t (a + j) (by omega)]
  rw [ByteArray.getElem_extract]

/-- A number read in a row. -/
theorem ki_cell {W0 w : World} {A : Option Addr} {l : List Int} (h : Kd.C (Kd.int .i64) W0 A l.length l) (hb : Below W0.heap.size W0 w) (j : Nat) (hj : j < l.length) : ∃ ad, A = some ad ∧ w.cell? (ad.add j) = some (.int .i64 (l.getD j 0)) := by
  obtain ⟨_, _, h3⟩ := h
  obtain ⟨ad, hA, hc⟩ := h3 (by omega)
  obtain ⟨cs, _, hK, hcell⟩ := hc j l[j] (List.getElem?_eq_getElem hj)
  have := hcell 0 (.int .i64 l[j]) (by rw [show cs = [.int .i64 l[j]] from hK]; rfl)
  have h1 : (Kd.int .i64).sz = 1 := rfl
  rw [h1, Nat.mul_one, Nat.add_zero] at this
  rw [List.getD_eq_getElem?_getD, List.getElem?_eq_getElem hj, Option.getD_some]
  exact ⟨ad, hA, (hb.cell (World.block_lt_of_cell? W0 _ this)).trans this⟩
/-- A cell's address, as it is spelled. -/
theorem add_at {w : World} {a : Addr} {j : Nat} {v : Value} (h : w.cell? (a.add j) = some v) : a.add j = ⟨a.block, a.off + j, none⟩ := by
  by_cases e : j = 0
  · subst e
    obtain ⟨b, o, sp⟩ := a
    cases sp with
    | none => rfl
    | some x =>
      exfalso
      simp only [Addr.add, World.cell?] at h
      split at h <;> simp at h
  · unfold Addr.add
    rw [if_neg e]
theorem cell_add (w : World) (g o j : Nat) : w.drew.cell? ((⟨g, o, none⟩ : Addr).add j) = w.cell? ⟨g, o + j, none⟩ := by
  by_cases e : j = 0
  · subst e; rfl
  · unfold Addr.add
    rw [if_neg e]
    rfl
/-- A string read in a row. -/
theorem ks_cell {W0 w : World} {A : Option Addr} {l : List ByteArray} (h : Kd.C Kd.string W0 A l.length l) (hb : Below W0.heap.size W0 w) (j : Nat) (hj : j < l.length) : ∃ ad, A = some ad ∧ w.cell? (ad.add j) = some (.string l[j]) := by
  obtain ⟨_, _, h3⟩ := h
  obtain ⟨ad, hA, hc⟩ := h3 (by omega)
  obtain ⟨cs, _, hK, hcell⟩ := hc j l[j] (List.getElem?_eq_getElem hj)
  have := hcell 0 (.string l[j]) (by rw [show cs = [.string l[j]] from hK]; rfl)
  have h1 : Kd.string.sz = 1 := rfl
  rw [h1, Nat.mul_one, Nat.add_zero] at this
  exact ⟨ad, hA, (hb.cell (World.block_lt_of_cell? W0 _ this)).trans this⟩

section
variable (src : ByteArray) (m : List Int) (names : List ByteArray)
set_option maxRecDepth 100000 in
set_option maxHeartbeats 4000000 in
theorem expand_calls (T : ByteArray) (hT : T.size ≤ 1048576) (hsrc : src.size ≤ 1048576) (hp : Pairs m src.size) (hm : m.length ≤ 1048576) (hnl : names.length ≤ 1048576) (D : List Int) (hD : D.length ≤ 1048576) (w0 w : World) (hw0 : Below w0.heap.size w0 w) (hE : Env w0)
    (Am : Option Addr) (cm : Nat) (hCm : Kd.C (Kd.int .i64) w0 Am m.length m) (hcm : m.length ≤ cm) (An : Option Addr) (cn : Nat) (hCn : Kd.C Kd.string w0 An names.length names) (hcn : names.length ≤ cn)
    (gr : Nat) (hgr : w0.cell? ⟨gr, 5, none⟩ = some (.slice An names.length cn)) (bv sv v0 : Value) (hO : Own w0.heap.size w v0 D) (hS : Sm bv sv src w v0) :
    Calls Tryd.prog 15 #[.pointer (some ⟨gr, 0, none⟩), v0, .string T, bv, sv, .slice Am m.length cm] w fun e w' => (∃ v', e = .returned v' ∧ Own w0.heap.size w' v' (D ++ EE src m names T)) ∧ Below w0.heap.size w0 w' := by
  have hlen := EE_len src m names (src.size + 1) (Nat.lt_succ_self _) T.size T (Nat.le_refl _)
  have hmul : T.size * (src.size + 1) ≤ 1048576 * 1048577 := Nat.mul_le_mul hT (by omega)
  have HLEN := Lib.hid (show (EE src m names T).length ≤ 1099512676352 by omega)
  have HE := Lib.hid hE
  have HCM := Lib.hid hCm
  have HCN := Lib.hid (And.intro hCn hgr)
  have HS := Lib.hid (And.intro hO (And.intro hS hw0))
  have HP := Lib.hid hp
  clear hlen hmul hE hCm hCn hw0 hgr hO hS hp
  go_enter Tryd.func15, Tryd.ntmps15
  go_wp2_with fail
  go_loopg [1, 2] T.size (fun gk s1 s2 wr => ∃ (t : ByteArray) (L : List Int), Hid (t.size ≤ gk ∧ Own w0.heap.size wr s1 (D ++ L) ∧ L ++ EE src m names t = EE src m names T ∧ Below w0.heap.size w0 wr ∧ Sm bv sv src wr s1) ∧ t.size ≤ 1048576 ∧ s2 = .string t)
  case atStart => exact ⟨T, [], Lib.hid ⟨Nat.le_refl _, by rw [List.append_nil]; exact HS.out.1, rfl, HS.out.2.2, HS.out.2.1⟩, hT, rfl⟩
  case round =>
    clear HS
    obtain ⟨t, L, HI, ht, rfl⟩ := hrel
    obtain ⟨g0, hg0⟩ : ∃ g0, g0 = gk := ⟨_, rfl⟩
    have HG0 := Lib.hid hg0
    clear hg0
    have hLb : L.length ≤ 1099512676352 := by
      have h1 := congrArg List.length HI.out.2.2.1
      rw [List.length_append] at h1
      have := HLEN.out
      omega
    have hdl : (D ++ L).length ≤ 1099513724928 := by rw [List.length_append]; omega
    by_cases h0 : 0 < t.size
    · have hd0 : decide (t.size > 0) = true := decide_eq_true h0
      have hd0' : decide ((t.size : Int) > 0) = true := decide_eq_true (by omega)
      rcases ev_cut t (by omega) with ⟨kc, hkc, hno⟩ | ⟨kc, q, hkc, hq, hq36, hno⟩
      · have HC := Lib.hid (regexp_zzCut.calls kc t ⟨#[36]⟩ _ _ _ wr hkc)
        have HEQ := Lib.hid (show EE src m names t = My.nums t by
          rw [EE_skip src m names t t.size (Nat.le_refl _) hno, EE_nil src m names (dr t t.size) (by rw [dr_size]; omega), List.append_nil, List.take_of_length_le (by rw [My.nums_length]; omega)])
        clear hkc hno
        go_wp2_with fail
        refine HC.out.mono ?_
        rintro e w1 ⟨rfl, hb1⟩
        have HB1 := Lib.hid (below_step HI.out.2.2.2.1 hb1.below)
        have HO1 := Lib.hid (HI.out.2.1.below hb1.below)
        clear hb1 HC
        go_wp2_with (at_builtin; refine app_str rfl (.tmp 171) (.tmp 172) rfl rfl HO1.out t rfl (by omega) HB1.out.size ?_; intro v1 w2 hown hgr haw)
        go_ret
        exact ⟨⟨v1, rfl, by
          have := hown.out
          rw [List.append_assoc, ← HEQ.out, HI.out.2.2.1] at this
          exact this⟩, grown_b HO1.out HB1.out (Nat.le_refl _) hgr.out⟩
      · have HC := Lib.hid (regexp_zzCut.calls kc t ⟨#[36]⟩ _ _ _ wr hkc)
        obtain ⟨u, hu⟩ : ∃ u, u = dr t q := ⟨_, rfl⟩
        obtain ⟨a, ha⟩ : ∃ a, a = dr t (q + 1) := ⟨_, rfl⟩
        obtain ⟨bf, hbf⟩ : ∃ bf, bf = t.extract 0 q := ⟨_, rfl⟩
        have hus : u.size = t.size - q := by rw [hu, dr_size]
        have has : a.size = t.size - (q + 1) := by rw [ha, dr_size]
        have hbs : bf.size = q := by rw [hbf]; simp; omega
        have hu0 : bt u 0 = 36 := by
          have := bt_dr t q 0 (by omega)
          rw [Nat.add_zero, hq36, ← hu] at this
          exact this
        have hau : a = dr u 1 := by rw [ha, hu, dr_dr]
        have HEQ := Lib.hid (show EE src m names t = My.nums bf ++ EE src m names u by
          rw [EE_skip src m names t q (by omega) hno, hbf, nums_take t q (by omega), ← hu])
        rw [← ha, ← hbf] at HC
        have HU := Lib.hid (And.intro hus (And.intro has (And.intro hbs (And.intro hu0 hau))))
        have hb9 : bf.size ≤ 1048576 := by omega
        have ha9 : a.size ≤ 1048576 := by omega
        clear hkc hno hu ha hbf hus has hbs hu0 hau hq36
        have hLL : ((D ++ L) ++ My.nums bf).length ≤ 1099514773504 := by rw [List.length_append, My.nums_length]; omega
        have HQ := Lib.hid (show L ++ My.nums bf ++ EE src m names u = EE src m names T by rw [List.append_assoc, ← HEQ.out]; exact HI.out.2.2.1)
        go_wp2_with fail
        refine HC.out.mono ?_
        rintro e w1 ⟨rfl, hb1⟩
        have HB1 := Lib.hid (below_step HI.out.2.2.2.1 hb1.below)
        have HO1 := Lib.hid (HI.out.2.1.below hb1.below)
        have HS1 := Lib.hid (HI.out.2.2.2.2.below hb1.below)
        clear hb1 HC
        by_cases ha0 : 0 < a.size
        · have n1 := ne_list a ha0
          have n2 := ne_empty a ha0
          have n3 : (1 : Int) ≤ (a.size : Int) := by omega
          obtain ⟨y, hy⟩ : ∃ y : Int, (a[0].toNat : Int) = y := ⟨_, rfl⟩
          have hby := bt0 a ha0
          rw [hy] at hby
          by_cases c2 : y = 36
          · have hcy : (y == 36) = true := beq_t c2
            have HX := Lib.hid (EE_two src m names u (by have := HU.out.1; have := HU.out.2.1; omega) HU.out.2.2.2.1 (by
              have h1 := bt_dr u 1 0 (by have := HU.out.1; have := HU.out.2.1; omega)
              rw [← HU.out.2.2.2.2] at h1
              have h2 : bt u ((1 + 0 : Nat) : Int) = bt a 0 := h1.symm
              rw [← hby, c2] at h2
              exact h2))
            have HD2 : Hid (dr u 2 = a.extract 1 a.size) := Lib.hid (by show dr u 2 = dr a 1; rw [HU.out.2.2.2.2, dr_dr])
            rw [HD2.out] at HX
            clear c2 hby
            go_wp2_with (first | (at_builtin; refine app_str rfl (.tmp 32) (.tmp 33) rfl rfl HO1.out bf rfl (by omega) HB1.out.size ?_; intro v2 w2 hown2 hgr2 haw2; have HB2 := Lib.hid (grown_b HO1.out HB1.out (Nat.le_refl _) hgr2.out); have HS2 := Lib.hid (HS1.out.grow hgr2.out haw2.out)) | (at_builtin; refine app_byte rfl (.tmp 43) (.tmp 44) rfl rfl (hown2.out.below (below_alloc (Below.refl _ _) _)) w2.heap.size 36 rfl (by simp) (by omega) (Nat.le_trans HB2.out.size (by simp)) ?_; intro v9 w9 hown hgr haw))
            go_roundg (g0 - 1)
            case measure => have := HI.out.1; have := HG0.out; omega
            case rel => exact ⟨a.extract 1 a.size, L ++ My.nums bf ++ [36], Lib.hid ⟨by have := HI.out.1; have := HG0.out; have := HU.out.2.1; simp; omega, by have := hown.out; simpa [List.append_assoc] using this, by rw [app_cons, ← HX.out]; exact HQ.out, grown_b (hown2.out.below (below_alloc (Below.refl _ _) _)) (below_alloc HB2.out _) (Nat.le_refl _) hgr.out, (HS2.out.below (below_alloc (Below.refl _ _) _)).grow hgr.out haw.out⟩, by simp; omega, rfl⟩
          · have hcy : (y == 36) = false := beq_f c2
            have HDN := Lib.hid (show ¬ (1 < u.size ∧ bt u 1 = 36) from fun h => c2 (by
              have h1 := bt_dr u 1 0 (by omega)
              rw [← HU.out.2.2.2.2] at h1
              have h2 : bt u ((1 + 0 : Nat) : Int) = bt a 0 := h1.symm
              rw [hby, ← h2]; exact h.2))
            clear c2 hby
            go_upto_region 9 with (at_builtin; refine app_str rfl (.tmp 32) (.tmp 33) rfl rfl HO1.out bf rfl (by omega) HB1.out.size ?_; intro v2 w2 hown2 hgr2 haw2)
            have HB2 := Lib.hid (grown_b HO1.out HB1.out (Nat.le_refl _) hgr2.out)
            have HS2 := Lib.hid (HS1.out.grow hgr2.out haw2.out)
            have HO2 := Lib.hid hown2.out
            clear hown2 hgr2 haw2 HB1 HO1 HS1 hy hcy n1 n2 n3
            have HXT := Lib.hid (iextract_calls a (by omega) w2 (HE.out.below HB2.out))
            go_wp2_with fail
            refine HXT.out.mono ?_
            rintro e w3 ⟨hex, hb3⟩
            have HB3 := Lib.hid (HB2.out.trans (hb3.mono HB2.out.size))
            have HO3 := Lib.hid (HO2.out.below hb3)
            have HS3 := Lib.hid (HS2.out.below hb3)
            clear hb3 HXT HO2 HB2 HS2
            rcases hex with ⟨hn, x1, x2, x3, rfl⟩ | ⟨nm, q', hn, rfl⟩
            · have HX := Lib.hid (EE_no src m names u (by have := HU.out.1; omega) HU.out.2.2.2.1 HDN.out (by rw [← HU.out.2.2.2.2]; exact hn))
              rw [← HU.out.2.2.2.2] at HX
              clear hn
              go_wp2_with (at_builtin; refine app_byte rfl (.tmp 57) (.tmp 58) rfl rfl (HO3.out.below (below_alloc (Below.refl _ _) _)) w3.heap.size 36 rfl (by simp) (by omega) (Nat.le_trans HB3.out.size (by simp)) ?_; intro v9 w9 hown hgr haw)
              go_roundg (g0 - 1)
              case measure => have := HI.out.1; have := HG0.out; omega
              case rel => exact ⟨a, L ++ My.nums bf ++ [36], Lib.hid ⟨by have := HI.out.1; have := HG0.out; have := HU.out.2.1; omega, by have := hown.out; simpa [List.append_assoc] using this, by rw [app_cons, ← HX.out]; exact HQ.out, grown_b (HO3.out.below (below_alloc (Below.refl _ _) _)) (below_alloc HB3.out _) (Nat.le_refl _) hgr.out, (HS3.out.below (below_alloc (Below.refl _ _) _)).grow hgr.out haw.out⟩, ha9, rfl⟩
            · have hql := exS_le _ nm q' hn
              have HX := Lib.hid (EE_yes src m names u (by have := HU.out.1; omega) HU.out.2.2.2.1 HDN.out nm q' (by rw [← HU.out.2.2.2.2]; exact hn))
              obtain ⟨rs, hrs⟩ : ∃ rs, rs = dr a q' := ⟨_, rfl⟩
              have hrz : rs.size = a.size - q' := by rw [hrs, dr_size]
              have hrd : dr u (1 + q') = rs := by rw [hrs, HU.out.2.2.2.2, dr_dr]
              rw [hrd] at HX
              rw [← hrs]
              have HRS := Lib.hid (And.intro (show rs.size < t.size by have := HU.out.2.1; omega) hrz)
              have hr1 := numE_rng nm
              have hgs0 := gtext_size src m names nm
              have HGT := Lib.hid (show gtext src m names nm = if 0 ≤ numE nm then (gtx src m (numE nm).toNat).getD ⟨#[]⟩ else ntx src m nm 0 names from rfl)
              clear hn hrs hrz hrd
              by_cases hnum : 0 ≤ numE nm
              · have HTX : Hid (gtext src m names nm = (gtx src m (numE nm).toNat).getD ⟨#[]⟩) := Lib.hid (by rw [HGT.out, if_pos hnum])
                generalize numE nm = z at *
                obtain ⟨k, rfl⟩ := Int.eq_ofNat_of_zero_le hnum
                simp only [Int.toNat_natCast] at HTX
                generalize gtext src m names nm = tx at *
                clear HGT
                have e1 : decide ((k : Int) ≥ 0) = true := decide_eq_true hnum
                have e2 : decide (k ≥ 0) = true := decide_eq_true (Nat.zero_le _)
                by_cases hk : 2 * k + 1 < m.length
                · have e3 : decide (2 * k + 1 < m.length) = true := decide_eq_true hk
                  have e4 : decide (2 * (k : Int) + 1 < (m.length : Int)) = true := decide_eq_true (by omega)
                  by_cases hpos : 0 ≤ m.getD (2 * k) 0
                  · obtain ⟨xn, hxn⟩ : ∃ xn : Nat, m.getD (2 * k) 0 = (xn : Int) := ⟨(m.getD (2 * k) 0).toNat, by omega⟩
                    have hpk := HP.out.2.2 k hk
                    rw [hxn] at hpk
                    obtain ⟨yn, hyn⟩ : ∃ yn : Nat, m.getD (2 * k + 1) 0 = (yn : Int) := ⟨(m.getD (2 * k + 1) 0).toNat, by omega⟩
                    rw [hyn] at hpk
                    have hxy : xn ≤ yn := by omega
                    have hys : yn ≤ src.size := by omega
                    have hxs : (src.extract xn yn).size ≤ 1048576 := by simp; omega
                    have HTX2 := Lib.hid (show tx = src.extract xn yn by rw [HTX.out, gtx, if_pos ⟨hk, hpos⟩, hxn, hyn]; rfl)
                    obtain ⟨ad, hA, hc1⟩ := ki_cell HCM.out HB3.out (2 * k) (by omega)
                    obtain ⟨ad', hA', hc2⟩ := ki_cell HCM.out HB3.out (2 * k + 1) hk
                    rw [hA] at hA'
                    cases hA'
                    rw [hxn] at hc1
                    rw [hyn] at hc2
                    have hc2' : (w3).cell? ⟨ad.block, ad.off + (2 * k + 1), none⟩ = some (.int .i64 (yn : Int)) := by rw [← hc2]; exact congrArg _ (add_at hc2).symm
                    have hc1' : (w3).cell? ⟨ad.block, ad.off + 2 * k, none⟩ = some (.int .i64 (xn : Int)) := by rw [← hc1]; exact congrArg _ (add_at hc1).symm
                    have e5 : decide ((xn : Int) ≥ 0) = true := decide_eq_true (by omega)
                    have e6 : decide (xn ≥ 0) = true := decide_eq_true (Nat.zero_le _)
                    have p1 : (0 : Int) ≤ 2 * (k : Int) := by omega
                    have p2 : 2 * (k : Int) < (m.length : Int) := by omega
                    have p3 : 2 * (k : Int) + 1 < (m.length : Int) := by omega
                    have p4 : (0 : Int) ≤ 2 * (k : Int) + 1 := by omega
                    have p5 : (xn : Int) ≤ (yn : Int) := by omega
                    have p6 : (yn : Int) ≤ (src.size : Int) := by omega
                    have p7 : (0 : Int) ≤ (xn : Int) := by omega
                    have p8 : (0 : Int) ≤ (yn : Int) := by omega
                    have g1 : IntKind.i64.wrap (2 * (k : Int)) = 2 * (k : Int) := IntWalk.i64_in _ (by omega)
                    have g2 : IntKind.i64.wrap (2 * (k : Int) + 1) = 2 * (k : Int) + 1 := IntWalk.i64_in _ (by omega)
                    have g3 : (2 * (k : Int)).toNat = 2 * k := by omega
                    have g4 : (2 * (k : Int) + 1).toNat = 2 * k + 1 := by omega
                    have HH := Lib.hid (And.intro hxn (And.intro hyn hpos))
                    subst hA
                    clear hxn hyn hpk hc2 hpos
                    rcases HS3.out with ⟨rfl, rfl⟩ | ⟨gs, cs, s', rfl, hcs, rfl, hgs, hne, hby⟩
                    · go_upto_region 17 with (fail)
                      go_still_tail 14, (by kernel_rfl)
                      change wpList _ _ _ _ _ (w3).drew
                      go_wp2_with (at_builtin; refine app_str rfl (.tmp 94) (.tmp 107) rfl rfl (HO3.out.below (below_drew (Below.refl _ _))) (src.extract xn yn) rfl (by omega) (HB3.out).size ?_; intro v9 w9 hown hgr haw)
                      rw [← HTX2.out] at hown
                      go_roundg (g0 - 1)
                      case measure => have := HI.out.1; have := HG0.out; omega
                      case rel => exact ⟨rs, L ++ My.nums bf ++ My.nums tx, Lib.hid ⟨by have := HI.out.1; have := HG0.out; have := HRS.out.1; omega, by have := hown.out; simpa [List.append_assoc] using this, by rw [List.append_assoc, ← HX.out]; exact HQ.out, grown_b (HO3.out.below (below_drew (Below.refl _ _))) (below_drew HB3.out) (Nat.le_refl _) hgr.out, (HS3.out.below (below_drew (Below.refl _ _))).grow hgr.out haw.out⟩, by have := HRS.out.1; omega, rfl⟩
                    · by_cases hxc : xn = cs
                      · have HBY := Lib.hid hby
                        have HEM := Lib.hid (show (src.extract xn yn).size = 0 by simp; omega)
                        have g6 : (cs : Int) ≤ (cs : Int) := Int.le_refl _
                        subst hxc
                        clear hby
                        obtain rfl : yn = xn := by omega
                        obtain rfl : yn = src.size := by omega
                        go_upto_region 16 with (fail)
                        go_still_tail 14, (by kernel_rfl)
                        change wpList _ _ _ _ _ (w3).drew
                        go_wp2_with (at_builtin; refine app_row rfl (.tmp 79) (.tmp 92) rfl rfl (HO3.out.below (below_drew (Below.refl _ _))) ⟨gs, 0, none⟩ 0 [] rfl (fun j hj => absurd hj (Nat.not_lt_zero _)) (by simp only [List.length_nil]; omega) (HB3.out).size ?_; intro v9 w9 hown hgr haw)
                        rw [show ([] : List Int) = My.nums tx by rw [HTX2.out, My.nums, show (src.extract src.size src.size).data.toList = [] from List.eq_nil_of_length_eq_zero (by rw [Array.length_toList]; exact HEM.out)]; rfl] at hown
                        go_roundg (g0 - 1)
                        case measure => have := HI.out.1; have := HG0.out; omega
                        case rel => exact ⟨rs, L ++ My.nums bf ++ My.nums tx, Lib.hid ⟨by have := HI.out.1; have := HG0.out; have := HRS.out.1; omega, by have := hown.out; simpa [List.append_assoc] using this, by rw [List.append_assoc, ← HX.out]; exact HQ.out, grown_b (HO3.out.below (below_drew (Below.refl _ _))) (below_drew HB3.out) (Nat.le_refl _) hgr.out, (HS3.out.below (below_drew (Below.refl _ _))).grow hgr.out haw.out⟩, by have := HRS.out.1; omega, rfl⟩
                      · have HBY := Lib.hid hby
                        have p9 : (yn : Int) ≤ (cs : Int) := by omega
                        have p12 : ¬ cs = xn := by omega
                        have p11 : xn < cs := by omega
                        have hl : (My.nums (src.extract xn yn)).length = yn - xn := by rw [My.nums_length]; simp; omega
                        have HL := Lib.hid hl
                        clear hby hl
                        go_upto_region 16 with (fail)
                        go_still_tail 14, (by kernel_rfl)
                        change wpList _ _ _ _ _ (w3).drew
                        go_wp2_with (at_builtin; refine app_row rfl (.tmp 79) (.tmp 92) rfl rfl (HO3.out.below (below_drew (Below.refl _ _))) ⟨gs, xn, none⟩ (cs - xn) (My.nums (src.extract xn yn)) (by rw [HL.out]; first | rfl | exact congrArg (fun z => Value.slice z (yn - xn) (cs - xn)) (if_neg p12)) (fun j hj => by rw [nums_sub src xn yn j hys hj, ← HBY.out (xn + j) (by rw [HL.out] at hj; omega)]; exact cell_add _ gs xn j) (by rw [HL.out]; omega) (HB3.out).size ?_; intro v9 w9 hown hgr haw)
                        rw [← HTX2.out] at hown
                        go_roundg (g0 - 1)
                        case measure => have := HI.out.1; have := HG0.out; omega
                        case rel => exact ⟨rs, L ++ My.nums bf ++ My.nums tx, Lib.hid ⟨by have := HI.out.1; have := HG0.out; have := HRS.out.1; omega, by have := hown.out; simpa [List.append_assoc] using this, by rw [List.append_assoc, ← HX.out]; exact HQ.out, grown_b (HO3.out.below (below_drew (Below.refl _ _))) (below_drew HB3.out) (Nat.le_refl _) hgr.out, (HS3.out.below (below_drew (Below.refl _ _))).grow hgr.out haw.out⟩, by have := HRS.out.1; omega, rfl⟩
                  · have HTX2 : Hid (tx = ⟨#[]⟩) := Lib.hid (by rw [HTX.out, gtx, if_neg (fun h => hpos h.2)]; rfl)
                    obtain ⟨ad, hA, hc1⟩ := ki_cell HCM.out HB3.out (2 * k) (by omega)
                    have hc1' : w3.cell? ⟨ad.block, ad.off + 2 * k, none⟩ = some (.int .i64 (m.getD (2 * k) 0)) := by rw [← hc1]; exact congrArg _ (add_at hc1).symm
                    have e5 : decide (m.getD (2 * k) 0 ≥ 0) = false := decide_eq_false hpos
                    have p1 : (0 : Int) ≤ 2 * (k : Int) := by omega
                    have p2 : 2 * (k : Int) < (m.length : Int) := by omega
                    subst hA
                    generalize m.getD (2 * k) 0 = mk at *
                    clear hpos
                    go_wp2_with fail
                    go_roundg (g0 - 1)
                    case measure => have := HI.out.1; have := HG0.out; omega
                    case rel => exact ⟨rs, L ++ My.nums bf ++ My.nums tx, Lib.hid ⟨by have := HI.out.1; have := HG0.out; have := HRS.out.1; omega, by rw [HTX2.out]; have := HO3.out; simpa [List.append_assoc, My.nums] using this, by rw [List.append_assoc, ← HX.out]; exact HQ.out, HB3.out, HS3.out⟩, by have := HRS.out.1; omega, rfl⟩
                · have e3 : decide (2 * k + 1 < m.length) = false := decide_eq_false hk
                  have e4 : decide (2 * (k : Int) + 1 < (m.length : Int)) = false := decide_eq_false (by omega)
                  have HTX2 : Hid (tx = ⟨#[]⟩) := Lib.hid (by rw [HTX.out, gtx, if_neg (fun h => hk h.1)]; rfl)
                  go_wp2_with fail
                  go_roundg (g0 - 1)
                  case measure => have := HI.out.1; have := HG0.out; omega
                  case rel => exact ⟨rs, L ++ My.nums bf ++ My.nums tx, Lib.hid ⟨by have := HI.out.1; have := HG0.out; have := HRS.out.1; omega, by rw [HTX2.out]; have := HO3.out; simpa [List.append_assoc, My.nums] using this, by rw [List.append_assoc, ← HX.out]; exact HQ.out, HB3.out, HS3.out⟩, by have := HRS.out.1; omega, rfl⟩
              · have HTN : Hid (gtext src m names nm = ntx src m nm 0 names) := Lib.hid (by rw [HGT.out, if_neg hnum])
                generalize numE nm = z at *
                generalize gtext src m names nm = tx at *
                clear HGT
                have e1 : decide (z ≥ 0) = false := decide_eq_false hnum
                have hz5 : w3.cell? ⟨gr, 5, none⟩ = some (.slice An names.length cn) := (HB3.out.cell (World.block_lt_of_cell? w0 _ HCN.out.2)).trans HCN.out.2
                go_wp2_with fail
                go_loopg [1, 114] names.length (fun gk2 s1 s114 wq => ∃ (i : Nat), Hid (gk2 + i = names.length ∧ w3 = wq ∧ ntx src m nm 0 names = ntx src m nm i (names.drop i)) ∧ i ≤ names.length ∧ s1 = v2 ∧ s114 = .int .i64 i)
                case atStart => exact ⟨0, Lib.hid ⟨by omega, rfl, rfl⟩, Nat.zero_le _, rfl, rfl⟩
                case round =>
                    obtain ⟨i, HJ, hi, rfl, rfl⟩ := hrel
                    obtain rfl := HJ.out.2.1
                    by_cases hlt : i < names.length
                    · have hd1 : decide (i < names.length) = true := decide_eq_true hlt
                      obtain ⟨an, hAN, hcn1⟩ := ks_cell HCN.out.1 HB3.out i hlt
                      have HNX := Lib.hid (show ntx src m nm 0 names = if names[i] = nm then (match gtx src m i with | some t => t | none => ntx src m nm (i + 1) (names.drop (i + 1))) else ntx src m nm (i + 1) (names.drop (i + 1)) by
                        rw [HJ.out.2.2, List.drop_eq_getElem_cons hlt, ntx]; rfl)
                      generalize names[i] = ni at *
                      subst hAN
                      by_cases hname : ni = nm
                      · subst hname
                        by_cases hk : 2 * i + 1 < m.length
                        · have e3 : decide (2 * i + 1 < m.length) = true := decide_eq_true hk
                          have e4 : decide (2 * (i : Int) + 1 < (m.length : Int)) = true := decide_eq_true (by omega)
                          by_cases hpos : 0 ≤ m.getD (2 * i) 0
                          · have HTX : Hid (tx = (gtx src m i).getD ⟨#[]⟩) := Lib.hid (by
                              rw [HTN.out, HNX.out, if_pos rfl]
                              rw [gtx, if_pos ⟨hk, hpos⟩]; rfl)
                            obtain ⟨xn, hxn⟩ : ∃ xn : Nat, m.getD (2 * i) 0 = (xn : Int) := ⟨(m.getD (2 * i) 0).toNat, by omega⟩
                            have hpk := HP.out.2.2 i hk
                            rw [hxn] at hpk
                            obtain ⟨yn, hyn⟩ : ∃ yn : Nat, m.getD (2 * i + 1) 0 = (yn : Int) := ⟨(m.getD (2 * i + 1) 0).toNat, by omega⟩
                            rw [hyn] at hpk
                            have hxy : xn ≤ yn := by omega
                            have hys : yn ≤ src.size := by omega
                            have hxs : (src.extract xn yn).size ≤ 1048576 := by simp; omega
                            have HTX2 := Lib.hid (show tx = src.extract xn yn by rw [HTX.out, gtx, if_pos ⟨hk, hpos⟩, hxn, hyn]; rfl)
                            obtain ⟨ad, hA, hc1⟩ := ki_cell HCM.out HB3.out (2 * i) (by omega)
                            obtain ⟨ad', hA', hc2⟩ := ki_cell HCM.out HB3.out (2 * i + 1) hk
                            rw [hA] at hA'
                            cases hA'
                            rw [hxn] at hc1
                            rw [hyn] at hc2
                            have hc2' : (w3).cell? ⟨ad.block, ad.off + (2 * i + 1), none⟩ = some (.int .i64 (yn : Int)) := by rw [← hc2]; exact congrArg _ (add_at hc2).symm
                            have hc1' : (w3).cell? ⟨ad.block, ad.off + 2 * i, none⟩ = some (.int .i64 (xn : Int)) := by rw [← hc1]; exact congrArg _ (add_at hc1).symm
                            have e5 : decide ((xn : Int) ≥ 0) = true := decide_eq_true (by omega)
                            have e6 : decide (xn ≥ 0) = true := decide_eq_true (Nat.zero_le _)
                            have p1 : (0 : Int) ≤ 2 * (i : Int) := by omega
                            have p2 : 2 * (i : Int) < (m.length : Int) := by omega
                            have p3 : 2 * (i : Int) + 1 < (m.length : Int) := by omega
                            have p4 : (0 : Int) ≤ 2 * (i : Int) + 1 := by omega
                            have p5 : (xn : Int) ≤ (yn : Int) := by omega
                            have p6 : (yn : Int) ≤ (src.size : Int) := by omega
                            have p7 : (0 : Int) ≤ (xn : Int) := by omega
                            have p8 : (0 : Int) ≤ (yn : Int) := by omega
                            have g1 : IntKind.i64.wrap (2 * (i : Int)) = 2 * (i : Int) := IntWalk.i64_in _ (by omega)
                            have g2 : IntKind.i64.wrap (2 * (i : Int) + 1) = 2 * (i : Int) + 1 := IntWalk.i64_in _ (by omega)
                            have g3 : (2 * (i : Int)).toNat = 2 * i := by omega
                            have g4 : (2 * (i : Int) + 1).toNat = 2 * i + 1 := by omega
                            have HH := Lib.hid (And.intro hxn (And.intro hyn hpos))
                            subst hA
                            clear hxn hyn hpk hc2 hpos
                            rcases HS3.out with ⟨rfl, rfl⟩ | ⟨gs, cs, s', rfl, hcs, rfl, hgs, hne, hby⟩
                            · go_upto_region 24 with (fail)
                              go_still_tail 14, (by kernel_rfl)
                              change wpList _ _ _ _ _ (w3).drew
                              go_wp2_with (at_builtin; refine app_str rfl (.tmp 155) (.tmp 168) rfl rfl (HO3.out.below (below_drew (Below.refl _ _))) (src.extract xn yn) rfl (by omega) (HB3.out).size ?_; intro v9 w9 hown hgr haw)
                              rw [← HTX2.out] at hown
                              go_roundg (g0 - 1)
                              case measure => have := HI.out.1; have := HG0.out; omega
                              case rel => exact ⟨rs, L ++ My.nums bf ++ My.nums tx, Lib.hid ⟨by have := HI.out.1; have := HG0.out; have := HRS.out.1; omega, by have := hown.out; simpa [List.append_assoc] using this, by rw [List.append_assoc, ← HX.out]; exact HQ.out, grown_b (HO3.out.below (below_drew (Below.refl _ _))) (below_drew HB3.out) (Nat.le_refl _) hgr.out, (HS3.out.below (below_drew (Below.refl _ _))).grow hgr.out haw.out⟩, by have := HRS.out.1; omega, rfl⟩
                            · by_cases hxc : xn = cs
                              · have HBY := Lib.hid hby
                                have HEM := Lib.hid (show (src.extract xn yn).size = 0 by simp; omega)
                                have g6 : (cs : Int) ≤ (cs : Int) := Int.le_refl _
                                subst hxc
                                clear hby
                                obtain rfl : yn = xn := by omega
                                obtain rfl : yn = src.size := by omega
                                go_upto_region 23 with (fail)
                                go_still_tail 14, (by kernel_rfl)
                                change wpList _ _ _ _ _ (w3).drew
                                go_wp2_with (at_builtin; refine app_row rfl (.tmp 140) (.tmp 153) rfl rfl (HO3.out.below (below_drew (Below.refl _ _))) ⟨gs, 0, none⟩ 0 [] rfl (fun j hj => absurd hj (Nat.not_lt_zero _)) (by simp only [List.length_nil]; omega) (HB3.out).size ?_; intro v9 w9 hown hgr haw)
                                rw [show ([] : List Int) = My.nums tx by rw [HTX2.out, My.nums, show (src.extract src.size src.size).data.toList = [] from List.eq_nil_of_length_eq_zero (by rw [Array.length_toList]; exact HEM.out)]; rfl] at hown
                                go_roundg (g0 - 1)
                                case measure => have := HI.out.1; have := HG0.out; omega
                                case rel => exact ⟨rs, L ++ My.nums bf ++ My.nums tx, Lib.hid ⟨by have := HI.out.1; have := HG0.out; have := HRS.out.1; omega, by have := hown.out; simpa [List.append_assoc] using this, by rw [List.append_assoc, ← HX.out]; exact HQ.out, grown_b (HO3.out.below (below_drew (Below.refl _ _))) (below_drew HB3.out) (Nat.le_refl _) hgr.out, (HS3.out.below (below_drew (Below.refl _ _))).grow hgr.out haw.out⟩, by have := HRS.out.1; omega, rfl⟩
                              · have HBY := Lib.hid hby
                                have p9 : (yn : Int) ≤ (cs : Int) := by omega
                                have p12 : ¬ cs = xn := by omega
                                have p11 : xn < cs := by omega
                                have hl : (My.nums (src.extract xn yn)).length = yn - xn := by rw [My.nums_length]; simp; omega
                                have HL := Lib.hid hl
                                clear hby hl
                                go_upto_region 23 with (fail)
                                go_still_tail 14, (by kernel_rfl)
                                change wpList _ _ _ _ _ (w3).drew
                                go_wp2_with (at_builtin; refine app_row rfl (.tmp 140) (.tmp 153) rfl rfl (HO3.out.below (below_drew (Below.refl _ _))) ⟨gs, xn, none⟩ (cs - xn) (My.nums (src.extract xn yn)) (by rw [HL.out]; first | rfl | exact congrArg (fun z => Value.slice z (yn - xn) (cs - xn)) (if_neg p12)) (fun j hj => by rw [nums_sub src xn yn j hys hj, ← HBY.out (xn + j) (by rw [HL.out] at hj; omega)]; exact cell_add _ gs xn j) (by rw [HL.out]; omega) (HB3.out).size ?_; intro v9 w9 hown hgr haw)
                                rw [← HTX2.out] at hown
                                go_roundg (g0 - 1)
                                case measure => have := HI.out.1; have := HG0.out; omega
                                case rel => exact ⟨rs, L ++ My.nums bf ++ My.nums tx, Lib.hid ⟨by have := HI.out.1; have := HG0.out; have := HRS.out.1; omega, by have := hown.out; simpa [List.append_assoc] using this, by rw [List.append_assoc, ← HX.out]; exact HQ.out, grown_b (HO3.out.below (below_drew (Below.refl _ _))) (below_drew HB3.out) (Nat.le_refl _) hgr.out, (HS3.out.below (below_drew (Below.refl _ _))).grow hgr.out haw.out⟩, by have := HRS.out.1; omega, rfl⟩
                          · have HNY : Hid (ntx src m ni 0 names = ntx src m ni (i + 1) (names.drop (i + 1))) := Lib.hid (by
                              rw [HNX.out, if_pos rfl, gtx, if_neg (fun h => hpos h.2)])
                            obtain ⟨ad, hA, hc1⟩ := ki_cell HCM.out HB3.out (2 * i) (by omega)
                            have hc1' : w3.cell? ⟨ad.block, ad.off + 2 * i, none⟩ = some (.int .i64 (m.getD (2 * i) 0)) := by rw [← hc1]; exact congrArg _ (add_at hc1).symm
                            have e5 : decide (m.getD (2 * i) 0 ≥ 0) = false := decide_eq_false hpos
                            have p1 : (0 : Int) ≤ 2 * (i : Int) := by omega
                            have p2 : 2 * (i : Int) < (m.length : Int) := by omega
                            subst hA
                            generalize m.getD (2 * i) 0 = mk at *
                            clear hpos
                            go_wp2_with fail
                            go_roundg (gk - 1)
                            case measure => have := HJ.out.1; omega
                            case rel => exact ⟨i + 1, Lib.hid ⟨by have := HJ.out.1; omega, rfl, HNY.out⟩, by omega, rfl, by go_num⟩
                        · have e3 : decide (2 * i + 1 < m.length) = false := decide_eq_false hk
                          have e4 : decide (2 * (i : Int) + 1 < (m.length : Int)) = false := decide_eq_false (by omega)
                          have HNY : Hid (ntx src m ni 0 names = ntx src m ni (i + 1) (names.drop (i + 1))) := Lib.hid (by
                            rw [HNX.out, if_pos rfl, gtx, if_neg (fun h => hk h.1)])
                          go_wp2_with fail
                          go_roundg (gk - 1)
                          case measure => have := HJ.out.1; omega
                          case rel => exact ⟨i + 1, Lib.hid ⟨by have := HJ.out.1; omega, rfl, HNY.out⟩, by omega, rfl, by go_num⟩
                      · have hne2 : ¬ nm.toList = ni.toList := fun h => hname ((bytes_eq nm ni).1 h).symm
                        have hne3 : ¬ ni.toList = nm.toList := fun h => hname ((bytes_eq ni nm).1 h)
                        have HNY : Hid (ntx src m nm 0 names = ntx src m nm (i + 1) (names.drop (i + 1))) := Lib.hid (by
                          rw [HNX.out, if_neg hname])
                        go_wp2_with fail
                        go_roundg (gk - 1)
                        case measure => have := HJ.out.1; omega
                        case rel => exact ⟨i + 1, Lib.hid ⟨by have := HJ.out.1; omega, rfl, HNY.out⟩, by omega, rfl, by go_num⟩
                    · have hd1 : decide (i < names.length) = false := decide_eq_false hlt
                      have HTX2 : Hid (tx = ⟨#[]⟩) := Lib.hid (by rw [HTN.out, HJ.out.2.2, List.drop_eq_nil_of_le (by omega), ntx])
                      go_wp2_with fail
                      go_roundg (g0 - 1)
                      case measure => have := HI.out.1; have := HG0.out; omega
                      case rel => exact ⟨rs, L ++ My.nums bf ++ My.nums tx, Lib.hid ⟨by have := HI.out.1; have := HG0.out; have := HRS.out.1; omega, by rw [HTX2.out]; have := HO3.out; simpa [List.append_assoc, My.nums] using this, by rw [List.append_assoc, ← HX.out]; exact HQ.out, HB3.out, HS3.out⟩, by have := HRS.out.1; omega, rfl⟩
        · obtain ⟨n1, n2⟩ := nil_list a (by omega)
          have HDN := Lib.hid (show ¬ (1 < u.size ∧ bt u 1 = 36) from fun h => by have := HU.out.1; have := HU.out.2.1; omega)
          go_upto_region 9 with (at_builtin; refine app_str rfl (.tmp 32) (.tmp 33) rfl rfl HO1.out bf rfl (by omega) HB1.out.size ?_; intro v2 w2 hown2 hgr2 haw2)
          have HB2 := Lib.hid (grown_b HO1.out HB1.out (Nat.le_refl _) hgr2.out)
          have HS2 := Lib.hid (HS1.out.grow hgr2.out haw2.out)
          have HO2 := Lib.hid hown2.out
          clear hown2 hgr2 haw2 HB1 HO1 HS1 n1 n2
          have HXT := Lib.hid (iextract_calls a (by omega) w2 (HE.out.below HB2.out))
          have HNN := Lib.hid (exS_nil (t := a) (by omega))
          go_wp2_with fail
          refine HXT.out.mono ?_
          rintro e w3 ⟨hex, hb3⟩
          have HB3 := Lib.hid (HB2.out.trans (hb3.mono HB2.out.size))
          have HO3 := Lib.hid (HO2.out.below hb3)
          have HS3 := Lib.hid (HS2.out.below hb3)
          clear hb3 HXT HO2 HB2 HS2
          rcases hex with ⟨hn, x1, x2, x3, rfl⟩ | ⟨nm, q', hn, rfl⟩
          · have HX := Lib.hid (EE_no src m names u (by have := HU.out.1; omega) HU.out.2.2.2.1 HDN.out (by rw [← HU.out.2.2.2.2]; exact hn))
            rw [← HU.out.2.2.2.2] at HX
            clear hn
            go_wp2_with (at_builtin; refine app_byte rfl (.tmp 57) (.tmp 58) rfl rfl (HO3.out.below (below_alloc (Below.refl _ _) _)) w3.heap.size 36 rfl (by simp) (by omega) (Nat.le_trans HB3.out.size (by simp)) ?_; intro v9 w9 hown hgr haw)
            go_roundg (g0 - 1)
            case measure => have := HI.out.1; have := HG0.out; omega
            case rel => exact ⟨a, L ++ My.nums bf ++ [36], Lib.hid ⟨by have := HI.out.1; have := HG0.out; have := HU.out.2.1; omega, by have := hown.out; simpa [List.append_assoc] using this, by rw [app_cons, ← HX.out]; exact HQ.out, grown_b (HO3.out.below (below_alloc (Below.refl _ _) _)) (below_alloc HB3.out _) (Nat.le_refl _) hgr.out, (HS3.out.below (below_alloc (Below.refl _ _) _)).grow hgr.out haw.out⟩, ha9, rfl⟩
          · rw [HNN.out] at hn
            cases hn
    · have hd0 : decide (t.size > 0) = false := decide_eq_false h0
      have hd0' : decide ((t.size : Int) > 0) = false := decide_eq_false (by omega)
      have HEQ := Lib.hid (show EE src m names t = My.nums t by
        rw [EE_nil src m names t (by omega), My.nums, show t.data.toList = [] from List.eq_nil_of_length_eq_zero (by rw [Array.length_toList]; show t.size = 0; omega)]; rfl)
      go_wp2_with (at_builtin; refine app_str rfl (.tmp 171) (.tmp 172) rfl rfl HI.out.2.1 t rfl (by omega) HI.out.2.2.2.1.size ?_; intro v1 w2 hown hgr haw)
      go_ret
      exact ⟨⟨v1, rfl, by
        have := hown.out
        rw [List.append_assoc, ← HEQ.out, HI.out.2.2.1] at this
        exact this⟩, grown_b HI.out.2.1 HI.out.2.2.2.1 (Nat.le_refl _) hgr.out⟩
end
end Go.Proofs.YtpnojanoamheiaaDoor.XxFnTxExpand
