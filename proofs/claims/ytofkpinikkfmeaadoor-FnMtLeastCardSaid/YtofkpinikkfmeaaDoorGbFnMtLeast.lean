/- Literals of a tree: what they are asked to be (ReUsual), and where they stand in a text (reSpells, reTakes): the walks. -/
import Derived.Test.YtofkpinikkfmeaaDoorNxFnMtLeast
import Derived.Test.YtofkpinikkfmeaaDoorLtFnMtLeast
import Derived.Lib.MapLaws
import Derived.Lib.QuoteLoop
import Derived.Lib.TrimUEq
namespace Go.Proofs.YtofkpinikkfmeaaDoor.TxFnMtLeast
open Go.RowKit Go.Proofs.YtofkpinikkfmeaaDoor.Row Go.Proofs.YtofkpinikkfmeaaDoor.Sf Go.Proofs.YtofkpinikkfmeaaDoor.TrFnMtLeast Go.Proofs.YtofkpinikkfmeaaDoor.PFnMtLeast Go.Proofs.YtofkpinikkfmeaaDoorW.PrintWords Go.Proofs.YtofkpinikkfmeaaDoorW.PrintLast Go.Proofs.YtofkpinikkfmeaaDoorW.PrintMore
set_option linter.unusedSimpArgs false
set_option linter.unusedVariables false

/-- A literal's character. -/
def UC (fold : Bool) (c : Int) : Prop := okC c ∧ (fold = true → ∀ b : Int, foldsB c.toNat b = true → c ≤ b)
/-- Whether a literal's character and a text's are the same. -/
def oneB (fold : Bool) (c of : Int) : Bool := (c == of) || (fold && foldsB c.toNat of)
theorem fdF_it : ∀ (n a c : Nat) (b : Int), fdF n a c b = true → ∃ k, (it k c : Int) = b := by
  intro n
  induction n with
  | zero => intro a c b h; rw [fdF] at h; cases h
  | succ n ih =>
    intro a c b h
    rw [fdF_succ] at h
    split at h
    · cases h
    · split at h
      · rename_i h2; exact ⟨0, h2⟩
      · obtain ⟨k, hk⟩ := ih a (sfN c) b h
        exact ⟨k + 1, by rw [it_succ]; exact hk⟩
theorem sf_fffd : sfN 65533 = 65533 := by kernel_rfl
/-- No other character differs from U+FFFD in case alone. -/
theorem folds_fffd (a : Nat) (ha : a ≤ 1114111) (h : foldsB a 65533 = true) : a = 65533 := by
  have h0 : ∃ k, it k a = 65533 := by
    unfold foldsB at h
    by_cases h1 : (a : Int) = 65533
    · exact ⟨0, by rw [it]; omega⟩
    · rw [if_neg h1] at h
      obtain ⟨k, hk⟩ := fdF_it 4 a (sfN a) 65533 h
      exact ⟨k + 1, by rw [it_succ]; omega⟩
  obtain ⟨k, hk⟩ := h0
  have h1 : ∀ j, it (k + j) a = 65533 := by
    intro j
    induction j with
    | zero => exact hk
    | succ j ih => rw [← Nat.add_assoc, it, ih, sf_fffd]
  obtain ⟨m, m1, _, m3, _⟩ := orbit a ha
  have it_add : ∀ p q c, it (p + q) c = it p (it q c) := by
    intro p
    induction p with
    | zero => intro q c; rw [Nat.zero_add, it]
    | succ p ih => intro q c; rw [Nat.add_right_comm, it, it, ih]
  have h2 : ∀ t, it (m * t) a = a := by
    intro t
    induction t with
    | zero => rfl
    | succ t ih => rw [Nat.mul_succ, it_add, m3, ih]
  have h3 := h2 k
  have h4 : k ≤ m * k := Nat.le_mul_of_pos_left k m1
  rw [show m * k = k + (m * k - k) by omega, h1] at h3
  exact h3.symm
theorem dec_len (s : ByteArray) (j : Nat) (h : (dec s j).2 ≠ 0) : (dec s j).1 = 65533 ∨ (okC (dec s j).1 ∧ rlen (dec s j).1 = (dec s j).2) := by
  unfold dec at h ⊢
  by_cases hs : s.size ≤ j
  · rw [if_pos hs] at h; exact absurd rfl h
  · rw [if_neg hs] at h ⊢
    simp only at h ⊢
    by_cases hv : (Utf8.decode s j).1 = 65533
    · exact .inl (by rw [hv]; rfl)
    · right
      have hd := Lib.decodeL_drop s j
      have h1 := Lib.runeLen_decode (s.data.toList.drop j) (by rw [hd]; exact hv)
      rw [hd] at h1
      refine ⟨?_, h1⟩
      have h2 := Lib.decodeN_valid (s.data.toList.length - j) (s.data.toList.getD j 0).toNat (s.data.toList.getD (j + 1) 0).toNat (s.data.toList.getD (j + 2) 0).toNat (s.data.toList.getD (j + 3) 0).toNat (UInt8.toNat_lt _)
      rw [← Lib.decode_N] at h2
      unfold okC
      omega
theorem one_len (s : ByteArray) (j : Nat) (fold : Bool) (c : Int) (hc : UC fold c) (h : (dec s j).2 ≠ 0) (ho : oneB fold c (dec s j).1 = true) : rl c ≤ (dec s j).2 := by
  have hd := dec_len s j h
  unfold oneB at ho
  have h0 := hc.1
  by_cases he : c = (dec s j).1
  · rcases hd with hd | ⟨hd, hl⟩
    · rw [he, hd]
      unfold rl
      rw [if_pos rfl]
      omega
    · rw [← hl]
      by_cases h5 : c = 65533
      · unfold rl
        rw [if_pos h5]
        have := rl_pos h0
        rw [← he, h5]; decide
      · unfold rl
        rw [if_neg h5, he]
        exact Int.le_refl _
  · rw [beq_eq_false_iff_ne.2 he, Bool.false_or, Bool.and_eq_true] at ho
    have hle := hc.2 ho.1 _ ho.2
    have hno : (dec s j).1 ≠ 65533 := fun e => by
      have h1 := ho.2
      rw [e] at h1
      unfold okC at h0
      have h2 := folds_fffd c.toNat (by omega) h1
      omega
    rcases hd with hd | ⟨hd, hl⟩
    · exact absurd hd hno
    · rw [← hl]
      exact rl_mono h0 hd hle hno

set_option maxRecDepth 100000 in
set_option maxHeartbeats 4000000 in
theorem least_calls (w : World) (a : Nat) (ha : a ≤ 1114111) (hF : Folds w) :
    Calls Tryd.prog 27 #[.int .i32 (a : Int)] w fun e w' => (∃ v : Int, e = .returned (.int .i32 v) ∧ v ≤ a ∧ ∀ b : Int, foldsB a b = true → v ≤ b) ∧ ∃ n, w' = w.drewN n := by
  have HF := Lib.hid hF
  clear hF
  go_enter Tryd.func27, Tryd.ntmps27
  go_wp2_with fail
  refine (fold_calls w a ha HF.out).mono ?_
  rintro e w1 ⟨rfl, n1, rfl⟩
  go_wp2_with fail
  go_loopg [3, 4] 4 (fun gk s3 s4 wr => ∃ (c m : Nat) (v : Int), Hid (c ≤ 1114111 ∧ (∃ q, q + 1 ≤ gk ∧ it q c = a) ∧ v ≤ a ∧ ∀ b : Int, fdF 4 a (sfN a) b = true → v ≤ b ∨ fdF gk a c b = true) ∧ s3 = .int .i32 v ∧ s4 = .int .i32 (c : Int) ∧ wr = w.drewN m)
  case atStart =>
    obtain ⟨m, m1, m2, m3, m4, m5⟩ := orbit a ha
    refine ⟨sfN a, n1, a, Lib.hid ⟨sfN_le a ha, ⟨m - 1, by omega, ?_⟩, by omega, fun b hb => .inr hb⟩, rfl, rfl, rfl⟩
    rw [← it_succ, show m - 1 + 1 = m by omega]; exact m3
  case round =>
    obtain ⟨c, m, v, HI, rfl, rfl, rfl⟩ := hrel
    obtain ⟨q, hq1, hq2⟩ := HI.out.2.1
    obtain ⟨gk, rfl⟩ : ∃ g, gk = g + 1 := ⟨gk - 1, by omega⟩
    by_cases hca : c = a
    · have hd1 : ((c : Int) != (a : Int)) = false := by rw [hca]; exact bne_self_eq_false _
      have HC := Lib.hid hca
      clear hca
      go_wp2_with fail
      go_ret
      refine ⟨⟨v, rfl, HI.out.2.2.1, fun b hb => ?_⟩, m, rfl⟩
      unfold foldsB at hb
      by_cases hab : (a : Int) = b
      · have := HI.out.2.2.1; omega
      · rw [if_neg hab] at hb
        rcases HI.out.2.2.2 b hb with h | h
        · exact h
        · rw [fdF_succ, if_pos HC.out] at h; cases h
    · have hd1 : ((c : Int) != (a : Int)) = true := bne_iff_ne.2 (by omega)
      have HC := Lib.hid hca
      have HFC := Lib.hid (fold_calls (w.drewN m) c HI.out.1 (HF.out.below (pw_below_drewN (Below.refl _ w) m)))
      clear hca
      go_wp2_with fail
      refine HFC.out.mono ?_
      rintro e w2 ⟨rfl, n2, rfl⟩
      go_wp2_with fail
      go_roundg gk
      case measure => omega
      case rel =>
        obtain ⟨q, rfl⟩ : ∃ p, q = p + 1 := by
          cases q with
          | zero => exact absurd hq2 HC.out
          | succ p => exact ⟨p, rfl⟩
        have hv := HI.out.2.2.1
        refine ⟨sfN c, m + n2, min v c, Lib.hid ⟨sfN_le c HI.out.1, ⟨q, by omega, by rw [← it_succ]; exact hq2⟩, by omega, fun b hb => ?_⟩, rfl, rfl, rfl⟩
        rcases HI.out.2.2.2 b hb with h | h
        · left; omega
        · rw [fdF_succ, if_neg HC.out] at h
          split at h
          · left; omega
          · exact .inr h

set_option maxRecDepth 100000 in
set_option maxHeartbeats 4000000 in
theorem chars_calls (w : World) (A : Option Addr) (c : Nat) (l : List Int) (fold : Bool) (hK : Kd.C (Kd.int .i32) w A l.length l) (hc : l.length ≤ c) (hF : Folds w) :
    Calls Tryd.prog 18 #[.slice A l.length c, .bool fold] w fun e w' => (∃ b, e = .returned (.bool b) ∧ (b = true → ∀ x ∈ l, UC fold x)) ∧ ∃ n, w' = w.drewN n := by
  have HK := Lib.hid hK
  have HF := Lib.hid hF
  have hl : l.length ≤ 9223372036854775807 := hK.2.1
  clear hK hF
  go_enter Tryd.func18, Tryd.ntmps18
  go_wp2_with fail
  go_loopg [9] l.length (fun gk s9 wr => ∃ (k m : Nat), Hid (gk + k = l.length ∧ ∀ x ∈ l.take k, UC fold x) ∧ k ≤ l.length ∧ s9 = .int .i64 k ∧ wr = w.drewN m)
  case atStart => exact ⟨0, 0, Lib.hid ⟨by omega, fun x hx => by simp at hx⟩, Nat.zero_le _, rfl, rfl⟩
  case round =>
    obtain ⟨k, m, HI, hk, rfl, rfl⟩ := hrel
    by_cases hlt : k < l.length
    · have hd1 : decide (k < l.length) = true := decide_eq_true hlt
      obtain ⟨ad, hA, hcell⟩ := kd_cell HK.out (Below.refl _ w) k hlt
      subst hA
      have hc2 : (w.drewN m).cell? (ad.add k) = some (.int .i32 l[k]) := hcell
      have HX : Hid (∀ x ∈ l.take (k + 1), x ∈ l.take k ∨ x = l[k]) := Lib.hid fun x hx => by
        rw [List.take_succ_eq_append_getElem hlt, List.mem_append, List.mem_singleton] at hx
        exact hx
      obtain ⟨x, hx⟩ : ∃ x, x = l[k] := ⟨_, rfl⟩
      rw [← hx] at hc2 HX
      clear hx hcell
      have HV := Lib.hid (fun W => Tryd.utf8_ValidRune x W)
      go_wp2_with fail
      refine (HV.out _).mono ?_
      rintro e w1 ⟨rfl, rfl⟩
      clear HV
      by_cases hv : Lib.validRune x = true
      · have hok : okC x := by
          unfold Lib.validRune at hv
          have := of_decide_eq_true hv
          unfold okC
          omega
        rw [hv]
        obtain ⟨xn, rfl⟩ : ∃ xn : Nat, x = (xn : Int) := ⟨x.toNat, by unfold okC at hok; omega⟩
        have HOK := Lib.hid hok
        have hxn : xn ≤ 1114111 := by unfold okC at hok; omega
        clear hv hok
        cases fold with
        | false =>
          go_wp2_with fail
          go_roundg (gk - 1)
          case measure => have := HI.out.1; omega
          case rel => exact ⟨k + 1, m, Lib.hid ⟨by have := HI.out.1; omega, fun y hy => by
            rcases HX.out y hy with h | rfl
            · exact HI.out.2 y h
            · exact ⟨HOK.out, fun e => by cases e⟩⟩, by omega, by go_num, rfl⟩
        | true =>
          have HLC := Lib.hid (least_calls (w.drewN m) xn hxn (HF.out.below (pw_below_drewN (Below.refl _ w) m)))
          go_wp2_with fail
          refine HLC.out.mono ?_
          rintro e w1 ⟨⟨v, rfl, hv1, hv2⟩, n, rfl⟩
          have HV2 := Lib.hid hv2
          clear hv2 HLC
          by_cases he : (xn : Int) = v
          · have e1 : ((xn : Int) != v) = false := by rw [he]; exact bne_self_eq_false _
            have HE := Lib.hid he
            clear he
            go_wp2_with fail
            go_roundg (gk - 1)
            case measure => have := HI.out.1; omega
            case rel => exact ⟨k + 1, m + n, Lib.hid ⟨by have := HI.out.1; omega, fun y hy => by
              rcases HX.out y hy with h | rfl
              · exact HI.out.2 y h
              · exact ⟨HOK.out, fun _ b hb => by rw [HE.out]; exact HV2.out b (by rw [Int.toNat_natCast] at hb; exact hb)⟩⟩, by omega, by go_num, rfl⟩
          · have e1 : ((xn : Int) != v) = true := bne_iff_ne.2 he
            clear he
            go_wp2_with fail
            exact bodyPost_ret (v := .bool false) (by simp [results, Tryd.results18, go_sem]) rfl ⟨⟨false, rfl, fun e => by cases e⟩, m + n, rfl⟩
      · rw [Bool.not_eq_true] at hv
        rw [hv]
        go_wp2_with fail
        exact bodyPost_ret (v := .bool false) (by simp [results, Tryd.results18, go_sem]) rfl ⟨⟨false, rfl, fun e => by cases e⟩, m, rfl⟩
    · have hd1 : decide (k < l.length) = false := decide_eq_false hlt
      obtain rfl : k = l.length := by omega
      go_wp2_with fail
      go_ret
      exact ⟨⟨true, rfl, fun _ x hx => HI.out.2 x (by rw [List.take_length]; exact hx)⟩, m, rfl⟩
end Go.Proofs.YtofkpinikkfmeaaDoor.TxFnMtLeast
