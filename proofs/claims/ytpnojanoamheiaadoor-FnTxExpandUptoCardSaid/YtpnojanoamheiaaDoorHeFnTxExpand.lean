/- Appends of bytes to a slice of the call's own, out of a string, a byte, a row; the reference's writing out of a template (TxExpand): the walk. -/
import Derived.Test.YtpnojanoamheiaaDoorHdFnTxExpand
import Derived.Deep.Upon
import Derived.Lib.AppendStr
import Derived.Maps.AppendAt
namespace Go.Proofs.YtpnojanoamheiaaDoor.XxFnTxExpand
open Go.Proofs.YtpnojanoamheiaaDoorW.PrintWords hiding nums nums_length
open Go.RowKit Go.Proofs.YtpnojanoamheiaaDoor.EvN Go.Proofs.YtpnojanoamheiaaDoor.My Go.Proofs.YtpnojanoamheiaaDoor.PFnTxExpand Go.Proofs.YtpnojanoamheiaaDoorW.PrintLast Go.Proofs.YtpnojanoamheiaaDoorW.PrintMore
set_option linter.unusedSimpArgs false
set_option linter.unusedVariables false

/-- The bytes L, in a row of the call's own. -/
def Own (B : Nat) (w : World) (v : Value) (L : List Int) : Prop := w.ownsRow B 5 1 v L.length (bvals L)
theorem bvals_append (a b : List Int) : bvals (a ++ b) = bvals a ++ bvals b := by unfold bvals; rw [List.map_append]
theorem cells_nums (s : ByteArray) : Lib.strCells s = bvals (My.nums s) := by
  unfold Lib.strCells bvals My.nums
  rw [List.map_map]
  rfl
theorem bcells_nums (s : ByteArray) : Go.byteCells s = bvals (My.nums s) := by
  unfold Go.byteCells bvals My.nums
  rw [List.map_map]
  rfl
theorem Own.nil (B : Nat) (w : World) : Own B w (.slice none 0 0) [] := World.ownsRow_nil _ _ _ _
theorem Own.below {B : Nat} {w w' : World} {v : Value} {L : List Int} (h : Own B w v L) (hb : Below w.heap.size w w') : Own B w' v L :=
  World.ownsRow.kept h (row := none) ⟨hb.os, hb.tape, hb.output, hb.size, fun i hi _ => hb.block i hi⟩ (by cases v.ownBlock <;> simp)
/-- Where the row lies now: where it lay, or in a new block. -/
def Away (w : World) (v v' : Value) : Prop := v'.ownBlock = v.ownBlock ∨ ∃ g, v'.ownBlock = some g ∧ w.heap.size ≤ g
theorem came_of_own {B : Nat} {w : World} {v : Value} {L : List Int} (h : Own B w v L) : ∃ ao b cap, v = .slice ao L.length cap ∧ Came w 1 ao b 0 L.length cap (bvals L) ∧ v.ownBlock = ao.map (·.block) := by
  have h1 := h.1
  rw [Nat.mul_one] at h1
  rcases h.2 with ⟨rfl, h0⟩ | ⟨g, cap, cur, rfl, hg, hcur, hcap, hmax, hsz, htk⟩
  · have : L = [] := List.eq_nil_of_length_eq_zero h0
    subst this
    exact ⟨none, 0, 0, rfl, ⟨Nat.le_refl _, fun h => by omega, fun h => by omega, rfl, fun j u hj => by simp [bvals] at hj, fun j hj => by simp at hj⟩, rfl⟩
  · rw [Nat.mul_one] at hsz
    refine ⟨some ⟨g, 0, none⟩, g, cap, rfl, ⟨hcap, fun _ => rfl, fun _ => blk_lt hcur, by rw [bvals_length, Nat.mul_one], fun j u hj => ?_, fun j hj => ?_⟩, rfl⟩
    · rw [Nat.zero_add]
      have hjl : j < (bvals L).length := by obtain ⟨h, _⟩ := List.getElem?_eq_some_iff.1 hj; exact h
      rw [bvals_length] at hjl
      have e : cur[j]? = (bvals L)[j]? := by
        rw [Nat.mul_one] at htk
        rw [← htk, List.getElem?_take_of_lt (by omega), Array.getElem?_toList]
      simp only [World.cell?, hcur]
      rw [e, hj]
      rfl
    · rw [Nat.mul_one, Nat.zero_add]
      constructor
      · simp only [World.cell?, hcur]
        rw [Array.getElem?_eq_getElem (by omega)]
        rfl
      · exact blk_frozen hcur _

section
variable {ops : Array Oper} {rest : List Oper} {o : Oper} {a : Act} {Q : Exit → Act → World → Prop} {w : World}
theorem app_str (hgd : o.guard = none) (s x : Operand) (ho : o.op = .call { callee := .builtin .append, args := #[s, x], argTypes := #[23, 9] })
    {B : Nat} {v : Value} {L : List Int} (hv : a.eval s = v) (h : Own B w v L) (t : ByteArray) (hx : a.eval x = .string t) (hb : L.length + t.size ≤ 140737488355328) (hB : B ≤ w.heap.size)
    (hK : ∀ v' w', Hid (Own B w' v' (L ++ My.nums t)) → Hid (w.grownBy w' v.ownBlock) → Hid (Away w v v') → wpList Tryd.prog ops Q rest (a.put o.dst v') w') : wpList Tryd.prog ops Q (o :: rest) a w := by
  obtain ⟨i, hi, hz, hsz, hby⟩ := info_parts info_u8
  obtain ⟨v', w', hrun, h1, h2, h3⟩ := Lib.run_append_own_string (P := Tryd.prog) w B 23 9 o.type 5 i Tryd.underlying23 Tryd.underlying9 hi hz hsz hby v L.length (bvals L) h t (by unfold maxLen; omega) hb hB
  have haw : Away w v v' := by
    obtain ⟨ao, b, cap, rfl, hc, hob⟩ := came_of_own h
    obtain ⟨v2, w2, hrun2, hu⟩ := run_append_upon (P := Tryd.prog) (e := 5) hc 23 9 o.type i (.int .u8 0) 1 Tryd.underlying23 hi hz hsz hby rfl (Upon.start hc) (.string t) t.size _ (Src.ofString w Tryd.underlying9 t) (by unfold maxLen; omega) (by omega)
    rw [hrun] at hrun2
    cases hrun2
    rcases hu.val with ⟨_, rfl, _⟩ | ⟨_, g, c', rfl, ho⟩
    · left
      cases ao <;> rfl
    · exact .inr ⟨g, rfl, ho.new⟩
  refine wpList_plain hgd fun K hK' => ?_
  unfold Oper.wp
  simp [execOp, ho, resolve, invoke, builtin, hv, hx, hrun, Result.andThen]
  refine hK' _ _ (hK v' w' (Lib.hid ?_) (Lib.hid h2) (Lib.hid haw))
  unfold Own
  rw [bvals_append, List.length_append, My.nums_length, ← cells_nums]
  exact h1

theorem app_row (hgd : o.guard = none) (s x : Operand) (ho : o.op = .call { callee := .builtin .append, args := #[s, x], argTypes := #[23, 23] })
    {B : Nat} {v : Value} {L : List Int} (hv : a.eval s = v) (h : Own B w v L) (ad : Addr) (c : Nat) (X : List Int) (hx : a.eval x = .slice (some ad) X.length c) (hX : ∀ j (hj : j < X.length), w.cell? (ad.add j) = some (.int .u8 X[j])) (hb : L.length + X.length ≤ 140737488355328) (hB : B ≤ w.heap.size)
    (hK : ∀ v' w', Hid (Own B w' v' (L ++ X)) → Hid (w.grownBy w' v.ownBlock) → Hid (Away w v v') → wpList Tryd.prog ops Q rest (a.put o.dst v') w') : wpList Tryd.prog ops Q (o :: rest) a w := by
  obtain ⟨i, hi, hz, hsz, hby⟩ := info_parts info_u8
  refine wpList_append_own_at w hgd s x 23 ho B 5 i (.int .u8 0) 1 1 Tryd.underlying23 hi hz hsz hby rfl (by decide) v L.length (bvals L) hv h ad X.length c (bvals X) hx (by rw [bvals_length, Nat.mul_one]) (fun j u hj => ?_) (fun u hu => ?_) (by unfold maxLen; omega) (by omega) hB (fun v' w' h1 h2 h3 h4 => ?_)
  · obtain ⟨hjl, e⟩ := List.getElem?_eq_some_iff.1 hj
    rw [bvals_length] at hjl
    rw [hX j hjl, ← e]
    simp [bvals]
  · unfold bvals at hu
    obtain ⟨z, _, rfl⟩ := List.mem_map.1 hu
    rfl
  · refine hK v' w' (Lib.hid ?_) (Lib.hid h2) (Lib.hid (h4.imp id fun e => ⟨_, e, Nat.le_refl _⟩))
    unfold Own
    rw [bvals_append, List.length_append]
    exact h1
/-- One byte, out of the block that the walk made for it. -/
theorem app_byte (hgd : o.guard = none) (s x : Operand) (ho : o.op = .call { callee := .builtin .append, args := #[s, x], argTypes := #[23, 23] })
    {B : Nat} {v : Value} {L : List Int} (hv : a.eval s = v) (h : Own B w v L) (g : Nat) (u : Int) (hx : a.eval x = .slice (some ⟨g, 0, none⟩) 1 1) (hc : w.cell? ⟨g, 0, none⟩ = some (.int .u8 u)) (hb : L.length + 1 ≤ 140737488355328) (hB : B ≤ w.heap.size)
    (hK : ∀ v' w', Hid (Own B w' v' (L ++ [u])) → Hid (w.grownBy w' v.ownBlock) → Hid (Away w v v') → wpList Tryd.prog ops Q rest (a.put o.dst v') w') : wpList Tryd.prog ops Q (o :: rest) a w := by
  refine app_row hgd s x ho hv h ⟨g, 0, none⟩ 1 [u] hx (fun j hj => ?_) hb hB hK
  have : j = 0 := by simp at hj; omega
  subst this
  simpa [Addr.add] using hc
end

/-- What the row's writing leaves below. -/
theorem grown_b {B : Nat} {w0 w w' : World} {v : Value} {L : List Int} (h : Own B w v L) (hb : Below B w0 w) (hB : B ≤ w0.heap.size) (hg : w.grownBy w' v.ownBlock) : Below B w0 w' :=
  hb.grown hg (Nat.le_trans hB hb.size) (fun k hk => (World.ownsRow.lt h k hk).1)

theorem app_cons (a : List Int) (x : Int) (b : List Int) : (a ++ [x]) ++ b = a ++ x :: b := by simp

section
variable (src : ByteArray) (m : List Int) (names : List ByteArray)
set_option maxRecDepth 100000 in
set_option maxHeartbeats 4000000 in
theorem rexpand_calls (T : ByteArray) (hT : T.size ≤ 1048576) (hsrc : src.size ≤ 1048576) (hp : Pairs m src.size) (hm : m.length ≤ 1048576) (hnl : names.length ≤ 1048576) (w0 w : World) (hw0 : Below w0.heap.size w0 w) (hE : Env w)
    (Am : Option Addr) (cm : Nat) (hCm : Kd.C (Kd.int .i64) w0 Am m.length m) (hcm : m.length ≤ cm) (An : Option Addr) (cn : Nat) (hCn : Kd.C Kd.string w0 An names.length names) (hcn : names.length ≤ cn) :
    Calls Tryd.prog 7 #[.string T, .string src, .slice Am m.length cm, .slice An names.length cn] w fun e w' => e = .returned (.string (strOfNums (EE src m names T))) ∧ Below w.heap.size w w' := by
  have hlen := EE_len src m names (src.size + 1) (Nat.lt_succ_self _) T.size T (Nat.le_refl _)
  have hmul : T.size * (src.size + 1) ≤ 1048576 * 1048577 := Nat.mul_le_mul hT (by omega)
  have HLEN := Lib.hid (show (EE src m names T).length ≤ 1099512676352 by omega)
  have HE := Lib.hid hE
  have HG := Lib.hid (fun wr (hb : Below w.heap.size w wr) (i : Nat) (hi : i ≤ 1000000000) => spec_TxGroup.calls src Am cm m (i : Int) _ _ wr (Kd.C_below hCm (hw0.trans (hb.mono hw0.size))) hcm (group_f src m hp (by omega) i hi))
  have HNM := Lib.hid (fun wr (hb : Below w.heap.size w wr) (nm : ByteArray) => show ∃ k, Calls Tryd.prog 14 #[.string src, .slice Am m.length cm, .slice An names.length cn, .string nm] wr fun e w' => e = .returned (.string (ntx src m nm 0 names)) ∧ Drawn0 wr w' from by
    obtain ⟨k, hk⟩ := (ev_named src m hp (by omega) nm names (by omega)).get
    exact ⟨k, spec_TxNamed.calls k src Am cm m An cn names nm _ wr (Kd.C_below hCm (hw0.trans (hb.mono hw0.size))) hcm (Kd.C_below hCn (hw0.trans (hb.mono hw0.size))) hcn hk⟩)
  clear hlen hmul hE hCm hCn hw0 hcm hcn
  go_enter Tryd.func7, Tryd.ntmps7
  go_wp2_with fail
  go_loopg [9, 10] T.size (fun gk s9 s10 wr => ∃ (i : Nat) (L : List Int), Hid (gk + i = T.size ∧ Own w.heap.size wr s9 L ∧ L ++ EE src m names (dr T i) = EE src m names T ∧ Below w.heap.size w wr) ∧ i ≤ T.size ∧ s10 = .int .i64 i)
  case atStart => exact ⟨0, [], Lib.hid ⟨by omega, Own.nil _ _, by rw [dr_zero]; rfl, Below.refl _ _⟩, Nat.zero_le _, rfl⟩
  case round =>
    obtain ⟨i, L, HI, hi, rfl⟩ := hrel
    have hLb : L.length ≤ 1099512676352 := by
      have h1 := congrArg List.length HI.out.2.2.1
      rw [List.length_append] at h1
      have := HLEN.out
      omega
    by_cases hlt : i < T.size
    · have hd1 : decide (i < T.size) = true := decide_eq_true hlt
      have hlt' : (i : Int) < (T.size : Int) := by omega
      have hts : 0 < (dr T i).size := by rw [dr_size]; omega
      obtain ⟨x, hx⟩ : ∃ x : Int, (T[i].toNat : Int) = x := ⟨_, rfl⟩
      have hbx : bt (dr T i) 0 = x := by
        have := bt_dr T i 0 (by omega)
        rw [Nat.add_zero, ← bti T i hlt, hx] at this
        exact this
      by_cases c1 : x = 36
      · have hcb : (x != 36) = false := by simp [c1]
        have HC := Lib.hid (show bt (dr T i) 0 = 36 by rw [hbx, c1])
        clear hbx c1
        by_cases h2 : i + 1 < T.size
        · have hd2 : decide (i + 1 < T.size) = true := decide_eq_true h2
          have h2' : (i : Int) + 1 < (T.size : Int) := by omega
          obtain ⟨y, hy⟩ : ∃ y : Int, (T[i + 1].toNat : Int) = y := ⟨_, rfl⟩
          have hby : bt (dr T i) 1 = y := by
            have := bt_dr T i 1 (by omega)
            rw [← bti T (i + 1) h2, hy] at this
            exact this
          by_cases c2 : y = 36
          · have hcy : (y == 36) = true := beq_t c2
            have HX := Lib.hid (EE_two src m names (dr T i) (by rw [dr_size]; omega) HC.out (by rw [hby]; exact c2))
            rw [dr_dr] at HX
            clear c2 hby
            go_wp2_with (at_builtin; refine app_byte rfl (.tmp 44) (.tmp 45) rfl rfl (HI.out.2.1.below (below_alloc (Below.refl _ _) _)) wr.heap.size 36 rfl (by simp) (by omega) (Nat.le_trans HI.out.2.2.2.size (by simp)) ?_; intro v1 w1 hown hgr haw)
            go_roundg (gk - 2)
            case measure => have := HI.out.1; omega
            case rel => exact ⟨i + 2, L ++ [36], Lib.hid ⟨by have := HI.out.1; omega, hown.out, by rw [app_cons, ← HX.out]; exact HI.out.2.2.1, grown_b (HI.out.2.1.below (below_alloc (Below.refl _ _) _)) (below_alloc HI.out.2.2.2 _) (Nat.le_refl _) hgr.out⟩, by omega, by go_num⟩
          · have hcy : (y == 36) = false := beq_f c2
            have HD := Lib.hid (show ¬ (1 < (dr T i).size ∧ bt (dr T i) 1 = 36) from fun h => c2 (by rw [← hby]; exact h.2))
            clear c2 hby
            have HXT := Lib.hid (rextract_calls (T.extract (i + 1) T.size) (by simp; omega) wr (HE.out.below HI.out.2.2.2))
            have hq0 : (0 : Int) ≤ (i : Int) + 1 := by omega
            have hq1 : (i : Int) + 1 ≤ (T.size : Int) := by omega
            go_wp2_with fail
            refine HXT.out.mono ?_
            rintro e w1 ⟨hex, hb1⟩
            have HB1 := Lib.hid (below_step HI.out.2.2.2 hb1)
            have HO1 := Lib.hid (HI.out.2.1.below hb1)
            clear hb1 HXT
            rcases hex with ⟨hn, rfl⟩ | ⟨nm, q, hn, rfl⟩
            · have HX := Lib.hid (EE_no src m names (dr T i) hts HC.out HD.out (by rw [dr_dr]; exact hn))
              rw [dr_dr] at HX
              clear hn
              go_wp2_with (at_builtin; refine app_byte rfl (.tmp 61) (.tmp 62) rfl rfl (HO1.out.below (below_alloc (Below.refl _ _) _)) w1.heap.size 36 rfl (by simp) (by omega) (Nat.le_trans HB1.out.size (by simp)) ?_; intro v1 w2 hown hgr haw)
              go_roundg (gk - 1)
              case measure => have := HI.out.1; omega
              case rel => exact ⟨i + 1, L ++ [36], Lib.hid ⟨by have := HI.out.1; omega, hown.out, by rw [app_cons, ← HX.out]; exact HI.out.2.2.1, grown_b (HO1.out.below (below_alloc (Below.refl _ _) _)) (below_alloc HB1.out _) (Nat.le_refl _) hgr.out⟩, by omega, by go_num⟩
            · have hql := exS_le _ nm q hn
              have HX := Lib.hid (EE_yes src m names (dr T i) hts HC.out HD.out nm q (by rw [dr_dr]; exact hn))
              rw [dr_dr] at HX
              have hsx : (T.extract (i + 1) T.size).size = T.size - (i + 1) := by simp
              rw [hsx] at hql
              have HRS : Hid ((dr (T.extract (i + 1) T.size) q).size = T.size - (i + 1 + q)) := Lib.hid (by rw [dr_size, hsx]; omega)
              obtain ⟨rs, hrs⟩ : ∃ rs, rs = dr (T.extract (i + 1) T.size) q := ⟨_, rfl⟩
              rw [← hrs] at HRS ⊢
              have hrz : rs.size ≤ 1048576 := by have := HRS.out; omega
              have hr1 := numE_rng nm
              have hgs := gtext_size src m names nm
              have HGT := Lib.hid (show gtext src m names nm = if 0 ≤ numE nm then (gtx src m (numE nm).toNat).getD ⟨#[]⟩ else ntx src m nm 0 names from rfl)
              clear hn hsx hrs
              by_cases hnum : 0 ≤ numE nm
              · have HT2 : Hid (gtext src m names nm = (gtx src m (numE nm).toNat).getD ⟨#[]⟩) := Lib.hid (by rw [HGT.out, if_pos hnum])
                generalize numE nm = z at *
                obtain ⟨k, rfl⟩ := Int.eq_ofNat_of_zero_le hnum
                simp only [Int.toNat_natCast] at HT2
                have HGC := Lib.hid (HG.out w1 HB1.out k (by omega))
                rw [← HT2.out] at HGC
                have HTX := Lib.hid HX.out
                generalize gtext src m names nm = tx at *
                clear HT2 HGT
                have e1 : decide ((k : Int) ≥ 0) = true := decide_eq_true hnum
                have e2 : decide (k ≥ 0) = true := decide_eq_true (Nat.zero_le _)
                go_wp2_with fail
                refine HGC.out.mono ?_
                rintro e w2 ⟨rfl, hb2⟩
                have HB2 := Lib.hid (below_step HB1.out hb2.below)
                have HO2 := Lib.hid (HO1.out.below hb2.below)
                clear hb2 HGC
                go_wp2_with (at_builtin; refine app_str rfl (.tmp 80) (.tmp 81) rfl rfl HO2.out tx rfl (by omega) HB2.out.size ?_; intro v1 w3 hown hgr haw)
                go_roundg (gk - (1 + q))
                case measure => have := HI.out.1; omega
                case rel => exact ⟨i + (1 + q), L ++ My.nums tx, Lib.hid ⟨by have := HI.out.1; omega, hown.out, by rw [List.append_assoc, ← HX.out]; exact HI.out.2.2.1, grown_b HO2.out HB2.out (Nat.le_refl _) hgr.out⟩, by omega, by congr 1; have := HRS.out; omega⟩
              · have HT2 : Hid (gtext src m names nm = ntx src m nm 0 names) := Lib.hid (by rw [HGT.out, if_neg hnum])
                generalize numE nm = z at *
                obtain ⟨kk, hkk⟩ := HNM.out w1 HB1.out nm
                have HGC := Lib.hid hkk
                rw [← HT2.out] at HGC
                generalize gtext src m names nm = tx at *
                clear HT2 HGT hkk
                have e1 : decide (z ≥ 0) = false := decide_eq_false hnum
                go_wp2_with fail
                refine HGC.out.mono ?_
                rintro e w2 ⟨rfl, hb2⟩
                have HB2 := Lib.hid (below_step HB1.out hb2.below)
                have HO2 := Lib.hid (HO1.out.below hb2.below)
                clear hb2 HGC
                go_wp2_with (at_builtin; refine app_str rfl (.tmp 80) (.tmp 81) rfl rfl HO2.out tx rfl (by omega) HB2.out.size ?_; intro v1 w3 hown hgr haw)
                go_roundg (gk - (1 + q))
                case measure => have := HI.out.1; omega
                case rel => exact ⟨i + (1 + q), L ++ My.nums tx, Lib.hid ⟨by have := HI.out.1; omega, hown.out, by rw [List.append_assoc, ← HX.out]; exact HI.out.2.2.1, grown_b HO2.out HB2.out (Nat.le_refl _) hgr.out⟩, by omega, by congr 1; have := HRS.out; omega⟩
        · have hd2 : decide (i + 1 < T.size) = false := decide_eq_false h2
          have HD := Lib.hid (show ¬ (1 < (dr T i).size ∧ bt (dr T i) 1 = 36) from fun h => h2 (by have := h.1; rw [dr_size] at this; omega))
          have HXT := Lib.hid (rextract_calls (T.extract (i + 1) T.size) (by simp; omega) wr (HE.out.below HI.out.2.2.2))
          have hq0 : (0 : Int) ≤ (i : Int) + 1 := by omega
          have hq1 : (i : Int) + 1 ≤ (T.size : Int) := by omega
          go_wp2_with fail
          refine HXT.out.mono ?_
          rintro e w1 ⟨hex, hb1⟩
          have HB1 := Lib.hid (below_step HI.out.2.2.2 hb1)
          have HO1 := Lib.hid (HI.out.2.1.below hb1)
          clear hb1 HXT
          rcases hex with ⟨hn, rfl⟩ | ⟨nm, q, hn, rfl⟩
          · have HX := Lib.hid (EE_no src m names (dr T i) hts HC.out HD.out (by rw [dr_dr]; exact hn))
            rw [dr_dr] at HX
            clear hn
            go_wp2_with (at_builtin; refine app_byte rfl (.tmp 61) (.tmp 62) rfl rfl (HO1.out.below (below_alloc (Below.refl _ _) _)) w1.heap.size 36 rfl (by simp) (by omega) (Nat.le_trans HB1.out.size (by simp)) ?_; intro v1 w2 hown hgr haw)
            go_roundg (gk - 1)
            case measure => have := HI.out.1; omega
            case rel => exact ⟨i + 1, L ++ [36], Lib.hid ⟨by have := HI.out.1; omega, hown.out, by rw [app_cons, ← HX.out]; exact HI.out.2.2.1, grown_b (HO1.out.below (below_alloc (Below.refl _ _) _)) (below_alloc HB1.out _) (Nat.le_refl _) hgr.out⟩, by omega, by go_num⟩
          · have hql := exS_le _ nm q hn
            have HX := Lib.hid (EE_yes src m names (dr T i) hts HC.out HD.out nm q (by rw [dr_dr]; exact hn))
            rw [dr_dr] at HX
            have hsx : (T.extract (i + 1) T.size).size = T.size - (i + 1) := by simp
            rw [hsx] at hql
            have HRS : Hid ((dr (T.extract (i + 1) T.size) q).size = T.size - (i + 1 + q)) := Lib.hid (by rw [dr_size, hsx]; omega)
            obtain ⟨rs, hrs⟩ : ∃ rs, rs = dr (T.extract (i + 1) T.size) q := ⟨_, rfl⟩
            rw [← hrs] at HRS ⊢
            have hrz : rs.size ≤ 1048576 := by have := HRS.out; omega
            have hr1 := numE_rng nm
            have hgs := gtext_size src m names nm
            have HGT := Lib.hid (show gtext src m names nm = if 0 ≤ numE nm then (gtx src m (numE nm).toNat).getD ⟨#[]⟩ else ntx src m nm 0 names from rfl)
            clear hn hsx hrs
            by_cases hnum : 0 ≤ numE nm
            · have HT2 : Hid (gtext src m names nm = (gtx src m (numE nm).toNat).getD ⟨#[]⟩) := Lib.hid (by rw [HGT.out, if_pos hnum])
              generalize numE nm = z at *
              obtain ⟨k, rfl⟩ := Int.eq_ofNat_of_zero_le hnum
              simp only [Int.toNat_natCast] at HT2
              have HGC := Lib.hid (HG.out w1 HB1.out k (by omega))
              rw [← HT2.out] at HGC
              have HTX := Lib.hid HX.out
              generalize gtext src m names nm = tx at *
              clear HT2 HGT
              have e1 : decide ((k : Int) ≥ 0) = true := decide_eq_true hnum
              have e2 : decide (k ≥ 0) = true := decide_eq_true (Nat.zero_le _)
              go_wp2_with fail
              refine HGC.out.mono ?_
              rintro e w2 ⟨rfl, hb2⟩
              have HB2 := Lib.hid (below_step HB1.out hb2.below)
              have HO2 := Lib.hid (HO1.out.below hb2.below)
              clear hb2 HGC
              go_wp2_with (at_builtin; refine app_str rfl (.tmp 80) (.tmp 81) rfl rfl HO2.out tx rfl (by omega) HB2.out.size ?_; intro v1 w3 hown hgr haw)
              go_roundg (gk - (1 + q))
              case measure => have := HI.out.1; omega
              case rel => exact ⟨i + (1 + q), L ++ My.nums tx, Lib.hid ⟨by have := HI.out.1; omega, hown.out, by rw [List.append_assoc, ← HX.out]; exact HI.out.2.2.1, grown_b HO2.out HB2.out (Nat.le_refl _) hgr.out⟩, by omega, by congr 1; have := HRS.out; omega⟩
            · have HT2 : Hid (gtext src m names nm = ntx src m nm 0 names) := Lib.hid (by rw [HGT.out, if_neg hnum])
              generalize numE nm = z at *
              obtain ⟨kk, hkk⟩ := HNM.out w1 HB1.out nm
              have HGC := Lib.hid hkk
              rw [← HT2.out] at HGC
              generalize gtext src m names nm = tx at *
              clear HT2 HGT hkk
              have e1 : decide (z ≥ 0) = false := decide_eq_false hnum
              go_wp2_with fail
              refine HGC.out.mono ?_
              rintro e w2 ⟨rfl, hb2⟩
              have HB2 := Lib.hid (below_step HB1.out hb2.below)
              have HO2 := Lib.hid (HO1.out.below hb2.below)
              clear hb2 HGC
              go_wp2_with (at_builtin; refine app_str rfl (.tmp 80) (.tmp 81) rfl rfl HO2.out tx rfl (by omega) HB2.out.size ?_; intro v1 w3 hown hgr haw)
              go_roundg (gk - (1 + q))
              case measure => have := HI.out.1; omega
              case rel => exact ⟨i + (1 + q), L ++ My.nums tx, Lib.hid ⟨by have := HI.out.1; omega, hown.out, by rw [List.append_assoc, ← HX.out]; exact HI.out.2.2.1, grown_b HO2.out HB2.out (Nat.le_refl _) hgr.out⟩, by omega, by congr 1; have := HRS.out; omega⟩
      · have hcb : (x != 36) = true := by simp [c1]
        have HX := Lib.hid (EE_chr src m names (dr T i) hts (by rw [hbx]; exact c1))
        rw [hbx, dr_dr] at HX
        clear c1 hbx
        go_wp2_with (at_builtin; refine app_byte rfl (.tmp 24) (.tmp 28) rfl rfl (HI.out.2.1.below (below_alloc (Below.refl _ _) _)) wr.heap.size x rfl (by simp) (by omega) (Nat.le_trans HI.out.2.2.2.size (by simp)) ?_; intro v1 w1 hown hgr haw)
        go_roundg (gk - 1)
        case measure => have := HI.out.1; omega
        case rel => exact ⟨i + 1, L ++ [x], Lib.hid ⟨by have := HI.out.1; omega, hown.out, by rw [app_cons, ← HX.out]; exact HI.out.2.2.1, grown_b (HI.out.2.1.below (below_alloc (Below.refl _ _) _)) (below_alloc HI.out.2.2.2 _) (Nat.le_refl _) hgr.out⟩, by omega, by go_num⟩
    · have hd1 : decide (i < T.size) = false := decide_eq_false hlt
      have HF : Hid (L = EE src m names T) := Lib.hid (by
        have := HI.out.2.2.1
        rw [EE_nil src m names (dr T i) (by rw [dr_size]; omega), List.append_nil] at this
        exact this)
      have hcv := conv_nums wr _ _ _ L HI.out.2.1
      go_wp2_with fail
      go_ret
      exact ⟨by rw [← HF.out]; rfl, HI.out.2.2.2⟩
end
end Go.Proofs.YtpnojanoamheiaaDoor.XxFnTxExpand
