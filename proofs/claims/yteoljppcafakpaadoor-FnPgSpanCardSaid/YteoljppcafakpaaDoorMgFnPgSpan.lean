import Derived.Test.YteoljppcafakpaaDoorNdFnPgSpan
import Derived.Test.YteoljppcafakpaaDoorTaFnPgSpan
import Derived.Laws.BitsLemmas
import Derived.Test.YteoljppcafakpaaDoorSxFnPgSpan
import Derived.Test.YteoljppcafakpaaDoorMmFnPgSpan
import Derived.Test.YteoljppcafakpaaDoorTbFnPgSpan
import Derived.Test.YteoljppcafakpaaDoorFiFnPgSpan
import Derived.Test.YteoljppcafakpaaDoorLwFnPgSpan
import Derived.Test.YteoljppcafakpaaDoorPimFnPgSpan
import Derived.ProofKit
import Derived.Deep.Slices
import Derived.Test.YteoljppcafakpaaDoorVyFnPgSpan
import Derived.Laws.AppendOwnNone
import Derived.Test.YteoljppcafakpaaDoorPxFnPgSpan
import Derived.IntWalk
import Derived.Test.YteoljppcafakpaaDoorSl
import Derived.Test.YteoljppcafakpaaDoorTie
import Derived.Test.YteoljppcafakpaaDoorCards
import Derived.OpenShut
import Derived.ChangeOld
import Derived.ShutString
import Derived.Below
import Derived.Carry
import Derived.SizedLaws
import Derived.LaidMore
import Derived.Lay
import Derived.SevenTiedAt
import Derived.Stop.Joined
namespace Go.Proofs.YteoljppcafakpaaDoor.PgFnPgSpan
open Go.RowKit Go.Proofs.YteoljppcafakpaaDoor.EvN Go.Proofs.YteoljppcafakpaaDoor.Row Go.Proofs.YteoljppcafakpaaDoor.Sf Go.Proofs.YteoljppcafakpaaDoor.PFnPgSpan Go.Proofs.YteoljppcafakpaaDoorW.PrintWords Go.Proofs.YteoljppcafakpaaDoorW.PrintLast Go.Proofs.YteoljppcafakpaaDoorW.PrintMore
set_option linter.unusedSimpArgs false
set_option linter.unusedVariables false
theorem or6 (a b : Nat) (ha : a < 64) (hb : b < 64) : bits .or .i64 (a : Int) (b : Int) = ((a ||| b : Nat) : Int) ∧ bits .or .u8 (a : Int) (b : Int) = ((a ||| b : Nat) : Int) ∧ (a ||| b) < 64 :=
  ⟨(bits_nat .i64 6 (by decide) (fun n h0 h1 => by rw [IntKind.wrap_i64]; omega) a b ha hb).2, (bits_nat .u8 6 (by decide) (fun n h0 h1 => by rw [IntKind.wrap_u8]; omega) a b ha hb).2, Nat.or_lt_two_pow (n := 6) ha hb⟩
theorem and6 (a b : Nat) (ha : a < 64) (hb : b < 64) : bits .and .i64 (a : Int) (b : Int) = ((a &&& b : Nat) : Int) := (bits_nat .i64 6 (by decide) (fun n h0 h1 => by rw [IntKind.wrap_i64]; omega) a b ha hb).1
theorem cP_lt : ∀ (bm b10 am a10 wb : Bool), 0 ≤ cP bm b10 am a10 wb ∧ cP bm b10 am a10 wb < 64 := by
  unfold cP
  decide
theorem condZ_nat (b a : Int) : ∃ c : Nat, condZ b a = (c : Int) ∧ c < 64 := by
  obtain ⟨h1, h2⟩ := cP_lt (decide (b = -1)) (b == 10) (decide (a = -1)) (a == 10) (wdB b != wdB a)
  exact ⟨(condZ b a).toNat, by unfold condZ; omega, by unfold condZ; omega⟩
theorem lead_holds {L : List I} {st nc most : Int} (h : PSound L st nc most) (c : Nat) (hc : c < 64) : ∀ (n m pc : Nat) (D : List Nat) (f : Nat), pc < L.length → (∀ x ∈ D, waitsB (ins L x) = false) → (∃ x ∈ rF L (c : Int) m D pc, waitsB (ins L x) = true) → f < 64 → c &&& f = f →
    ∃ v : Nat, scF L n pc (f : Int) = (v : Int) ∧ v < 64 ∧ c &&& v = v := by
  intro n
  induction n with
  | zero => intro m pc D f _ _ _ hf hs; exact ⟨f, rfl, hf, hs⟩
  | succ n ih =>
    intro m pc D f hpc hD hx hf hs
    obtain ⟨x, hx1, hx2⟩ := hx
    have hno : ∀ {E : List Nat}, (∀ y ∈ E, waitsB (ins L y) = false) → x ∈ E → False := fun hE hm => by rw [hE x hm] at hx2; cases hx2
    rw [scF]
    cases m with
    | zero => exact (hno hD hx1).elim
    | succ m =>
      rw [rF] at hx1
      by_cases h0 : pc = 0 ∨ pc ∈ D
      · rw [if_pos h0] at hx1; exact (hno hD hx1).elim
      · rw [if_neg h0] at hx1
        have hD1 : waitsB (ins L pc) = false → ∀ y ∈ D ++ [pc], waitsB (ins L y) = false := fun hw y hy => by
          rcases List.mem_append.1 hy with hy | hy
          · exact hD y hy
          · rw [List.mem_singleton.1 hy]; exact hw
        by_cases g3 : (ins L pc).f0 = 3
        · rw [if_pos g3]
          have hw : waitsB (ins L pc) = false := by unfold waitsB; simp [g3]
          rw [if_neg (by omega), if_neg (by omega), if_pos g3] at hx1
          by_cases hh : holds (c : Int) (ins L pc).f2 = true
          · rw [if_pos hh] at hx1
            obtain ⟨x1, x2⟩ := h.arg3 pc hpc g3
            obtain ⟨o1, o2⟩ := h.outIn pc hpc (by omega)
            obtain ⟨a, ha⟩ : ∃ a : Nat, (ins L pc).f2 = (a : Int) := ⟨(ins L pc).f2.toNat, by omega⟩
            obtain ⟨e1, e2, e3⟩ := or6 f a hf (by omega)
            have hca : c &&& a = a := by
              unfold holds at hh
              rw [ha, and6 c a hc (by omega)] at hh
              have := eq_of_beq hh
              omega
            rw [ha, e2]
            exact ih m _ (D ++ [pc]) (f ||| a) (by omega) (hD1 hw) ⟨x, hx1, hx2⟩ e3 (by rw [Nat.and_or_distrib_left, hs, hca])
          · rw [if_neg hh] at hx1; exact (hno (hD1 hw) hx1).elim
        · rw [if_neg g3]
          by_cases g5 : (ins L pc).f0 = 5
          · rw [if_neg (by omega), if_neg (by omega), if_neg g3] at hx1
            have hw : waitsB (ins L pc) = false := by unfold waitsB; simp [g5]
            exact (hno (hD1 hw) hx1).elim
          · rw [if_neg g5]
            by_cases g26 : (ins L pc).f0 = 2 ∨ (ins L pc).f0 = 6
            · rw [if_pos g26]
              rw [if_neg (by omega), if_pos g26] at hx1
              have hw : waitsB (ins L pc) = false := by unfold waitsB; rcases g26 with g | g <;> simp [g]
              obtain ⟨o1, o2⟩ := h.outIn pc hpc (by omega)
              exact ih m _ (D ++ [pc]) f (by omega) (hD1 hw) ⟨x, hx1, hx2⟩ hf hs
            · rw [if_neg g26]; exact ⟨f, rfl, hf, hs⟩
theorem ends_lead {L : List I} {st nc most : Int} (h : PSound L st nc most) (t : Nat) (ht : t < L.length) (s : ByteArray) (fu : Nat) (last : Int) (i : Nat) (hne : endsF L s fu [t] last i ≠ []) :
    ∃ v c : Nat, scF L L.length t 0 = (v : Int) ∧ v < 64 ∧ condZ last (dec s i).1 = (c : Int) ∧ c < 64 ∧ c &&& v = v := by
  obtain ⟨c, hc, hc2⟩ := condZ_nat last (dec s i).1
  suffices hw : ∃ x ∈ reachA L (c : Int) [] [t], waitsB (ins L x) = true by
    obtain ⟨v, v1, v2, v3⟩ := lead_holds h c hc2 L.length (L.length + 1) t [] 0 ht (fun x hx => by cases hx) hw (by omega) (by simp)
    exact ⟨v, c, v1, v2, hc, hc2, v3⟩
  cases fu with
  | zero => exact absurd rfl hne
  | succ fu =>
    rw [endsF, if_neg (by simp), hc] at hne
    by_cases hM : hasM L (reachA L (c : Int) [] [t]) = true
    · unfold hasM at hM
      obtain ⟨x, h1, h2⟩ := List.any_eq_true.1 hM
      refine ⟨x, h1, ?_⟩
      have := eq_of_beq h2
      unfold waitsB; simp [this]
    · rw [if_neg hM, List.nil_append] at hne
      by_cases hk : (dec s i).2 = 0
      · rw [if_pos hk, endsF_nil] at hne; exact absurd rfl hne
      · rw [if_neg hk] at hne
        cases hl : nextP L (dec s i).1 (reachA L (c : Int) [] [t]) with
        | nil => rw [hl, endsF_nil] at hne; exact absurd rfl hne
        | cons y l =>
          have hy : y ∈ nextP L (dec s i).1 (reachA L (c : Int) [] [t]) := by rw [hl]; simp
          unfold nextP at hy
          obtain ⟨pc, h1, _⟩ := List.mem_map.1 hy
          obtain ⟨h2, h3⟩ := List.mem_filter.1 h1
          unfold goes at h3
          simp only [Bool.and_eq_true] at h3
          exact ⟨pc, h2, h3.1.2⟩
end Go.Proofs.YteoljppcafakpaaDoor.PgFnPgSpan
namespace Go.Proofs.YteoljppcafakpaaDoor.PgFnPgSpan
open Go Go.Lib Go.RowKit
set_option linter.unusedVariables false
set_option linter.unusedSimpArgs false
set_option maxRecDepth 100000 in
set_option maxHeartbeats 2000000 in
theorem dN2 (n b0 b1 b2 b3 : Nat) (h : (decodeN n b0 b1 b2 b3).2 = 2) : decodeN 2 b0 b1 0 0 = decodeN n b0 b1 b2 b3 ∧ b1 / 64 = 2 ∧ b0 / 64 ≠ 2 ∧ 2 ≤ n := by
  unfold decodeN at h ⊢
  repeat' split at h
  all_goals first
    | (exfalso; simp only at h; omega)
    | (simp_all; omega)
set_option maxRecDepth 100000 in
set_option maxHeartbeats 2000000 in
theorem dN3 (n b0 b1 b2 b3 : Nat) (h : (decodeN n b0 b1 b2 b3).2 = 3) : decodeN 3 b0 b1 b2 0 = decodeN n b0 b1 b2 b3 ∧ b1 / 64 = 2 ∧ b2 / 64 = 2 ∧ b0 / 64 ≠ 2 ∧ 3 ≤ n := by
  unfold decodeN at h ⊢
  repeat' split at h
  all_goals first
    | (exfalso; simp only at h; omega)
    | (simp_all; omega)
set_option maxRecDepth 100000 in
set_option maxHeartbeats 2000000 in
theorem dN4 (n b0 b1 b2 b3 : Nat) (h : (decodeN n b0 b1 b2 b3).2 = 4) : decodeN 4 b0 b1 b2 b3 = decodeN n b0 b1 b2 b3 ∧ b1 / 64 = 2 ∧ b2 / 64 = 2 ∧ b3 / 64 = 2 ∧ b0 / 64 ≠ 2 ∧ 4 ≤ n := by
  unfold decodeN at h ⊢
  repeat' split at h
  all_goals first
    | (exfalso; simp only at h; omega)
    | (simp_all; omega)
theorem dN_w (n b0 b1 b2 b3 : Nat) : (decodeN n b0 b1 b2 b3).2 = 1 ∨ (decodeN n b0 b1 b2 b3).2 = 2 ∨ (decodeN n b0 b1 b2 b3).2 = 3 ∨ (decodeN n b0 b1 b2 b3).2 = 4 := by
  unfold decodeN
  repeat' split
  all_goals simp
theorem dN1 (n b0 b1 b2 b3 : Nat) (h : (decodeN n b0 b1 b2 b3).2 = 1) (h0 : 128 ≤ b0) : decodeN n b0 b1 b2 b3 = (65533, 1) := by
  revert h
  unfold decodeN
  repeat' split
  all_goals first
    | (intro _; rfl)
    | (intro h; exfalso; simp only at h; omega)
inductive Bd (s : ByteArray) : Nat → Prop
  | zero : Bd s 0
  | next {i : Nat} : Bd s i → i < s.size → Bd s (i + (Utf8.decode s i).2)
theorem dec_cont (s : ByteArray) (i k : Nat) (h1 : 1 ≤ k) (h2 : k < (Utf8.decode s i).2) : (s.data.toList.getD (i + k) 0).toNat / 64 = 2 := by
  have hd := decode_N s i
  generalize s.data.toList.length - i = n at hd
  rcases dN_w n (s.data.toList.getD i 0).toNat (s.data.toList.getD (i + 1) 0).toNat (s.data.toList.getD (i + 2) 0).toNat (s.data.toList.getD (i + 3) 0).toNat with h | h | h | h
  · rw [hd, h] at h2; omega
  · obtain ⟨_, a1, _⟩ := dN2 _ _ _ _ _ h
    rw [hd, h] at h2
    obtain rfl : k = 1 := by omega
    exact a1
  · obtain ⟨_, a1, a2, _⟩ := dN3 _ _ _ _ _ h
    rw [hd, h] at h2
    obtain rfl | rfl : k = 1 ∨ k = 2 := by omega
    · exact a1
    · exact a2
  · obtain ⟨_, a1, a2, a3, _⟩ := dN4 _ _ _ _ _ h
    rw [hd, h] at h2
    obtain rfl | rfl | rfl : k = 1 ∨ k = 2 ∨ k = 3 := by omega
    · exact a1
    · exact a2
    · exact a3
theorem Bd.fits {s : ByteArray} {i : Nat} (h : Bd s i) : ∀ st, st < i → (s.data.toList.getD st 0).toNat / 64 ≠ 2 → st + (Utf8.decode s st).2 ≤ i := by
  induction h with
  | zero => intro st h; omega
  | @next i hb hi ih =>
    intro st h hc
    by_cases h1 : st < i
    · have := ih st h1 hc; omega
    · by_cases h2 : st = i
      · subst h2; exact Nat.le_refl _
      · exfalso
        apply hc
        have := dec_cont s i (st - i) (by omega) (by omega)
        rwa [show i + (st - i) = st by omega] at this
theorem take2 (l : List UInt8) (i : Nat) (h : i + 2 ≤ l.length) : l.take (i + 2) = l.take i ++ [l.getD i 0, l.getD (i + 1) 0] := by
  rw [List.take_add]
  congr 1
  apply List.ext_getElem?
  intro j
  match j with
  | 0 => simp [List.getElem?_take, List.getElem?_drop, List.getD, List.getElem?_eq_getElem (show i < l.length by omega)]
  | 1 => simp [List.getElem?_take, List.getElem?_drop, List.getD, List.getElem?_eq_getElem (show i + 1 < l.length by omega)]
  | j + 2 => simp [List.getElem?_take]; intro hh; omega
theorem take3 (l : List UInt8) (i : Nat) (h : i + 3 ≤ l.length) : l.take (i + 3) = l.take i ++ [l.getD i 0, l.getD (i + 1) 0, l.getD (i + 2) 0] := by
  rw [List.take_add]
  congr 1
  apply List.ext_getElem?
  intro j
  match j with
  | 0 => simp [List.getElem?_take, List.getElem?_drop, List.getD, List.getElem?_eq_getElem (show i < l.length by omega)]
  | 1 => simp [List.getElem?_take, List.getElem?_drop, List.getD, List.getElem?_eq_getElem (show i + 1 < l.length by omega)]
  | 2 => simp [List.getElem?_take, List.getElem?_drop, List.getD, List.getElem?_eq_getElem (show i + 2 < l.length by omega)]
  | j + 3 => simp [List.getElem?_take]; intro hh; omega
theorem take4 (l : List UInt8) (i : Nat) (h : i + 4 ≤ l.length) : l.take (i + 4) = l.take i ++ [l.getD i 0, l.getD (i + 1) 0, l.getD (i + 2) 0, l.getD (i + 3) 0] := by
  rw [List.take_add]
  congr 1
  apply List.ext_getElem?
  intro j
  match j with
  | 0 => simp [List.getElem?_take, List.getElem?_drop, List.getD, List.getElem?_eq_getElem (show i < l.length by omega)]
  | 1 => simp [List.getElem?_take, List.getElem?_drop, List.getD, List.getElem?_eq_getElem (show i + 1 < l.length by omega)]
  | 2 => simp [List.getElem?_take, List.getElem?_drop, List.getD, List.getElem?_eq_getElem (show i + 2 < l.length by omega)]
  | 3 => simp [List.getElem?_take, List.getElem?_drop, List.getD, List.getElem?_eq_getElem (show i + 3 < l.length by omega)]
  | j + 4 => simp [List.getElem?_take]; intro hh; omega
theorem last_next (s : ByteArray) (i : Nat) (hb : Bd s i) (hi : i < s.size) : (decodeLastL (s.data.toList.take (i + (Utf8.decode s i).2))).1 = (Utf8.decode s i).1 := by
  have hd := decode_N s i
  have hlen : s.data.toList.length = s.size := (size_eq s).symm
  obtain ⟨l, hl⟩ : ∃ l, l = s.data.toList := ⟨_, rfl⟩
  rw [← hl] at hd hlen ⊢
  rcases dN_w (l.length - i) (l.getD i 0).toNat (l.getD (i + 1) 0).toNat (l.getD (i + 2) 0).toNat (l.getD (i + 3) 0).toNat with h | h | h | h
  · by_cases ha : (l.getD i 0).toNat < 128
    · rw [decodeN_ascii _ _ _ _ _ ha] at hd
      rw [hd]
      rcases last_cases l (i + 1) (by omega) (by omega) with ⟨_, h2⟩ | ⟨h1, _⟩ | ⟨h1, _⟩
      · simp only; rw [h2]; rfl
      · exfalso; rw [Nat.add_sub_cancel] at h1; omega
      · exfalso; rw [Nat.add_sub_cancel] at h1; omega
    · rw [dN1 _ _ _ _ _ h (by omega)] at hd
      rw [hd]
      show (decodeLastL (l.take (i + 1))).1 = 65533
      rcases last_cases l (i + 1) (by omega) (by omega) with ⟨h1, _⟩ | ⟨_, h2⟩ | ⟨_, st, hst, h2, hsum⟩
      · exfalso; rw [Nat.add_sub_cancel] at h1; omega
      · rw [h2]
      · rw [h2]
        obtain ⟨K, hK⟩ : ∃ K, (decodeL ((l.take (i + 1)).drop st)).2 = K := ⟨_, rfl⟩
        rw [hK] at hsum
        have hxl : ((l.take (i + 1)).drop st).length = K := by rw [List.length_drop, List.length_take]; omega
        by_cases h1 : st = i
        · subst h1
          rw [decodeL_N, hxl]
          rw [decodeN_alone]
          · rw [getD_dropU, getD_takeU l _ _ (by omega)]; simp only [Nat.add_zero]; omega
          · left; omega
        · exfalso
          have key : decodeL (l.drop st) = decodeL ((l.take (i + 1)).drop st) := by
            rw [decodeL_N (l.drop st), decodeL_N ((l.take (i + 1)).drop st), hxl, List.length_drop]
            rw [decodeL_N, hxl] at hK
            simp only [getD_dropU] at hK ⊢
            rw [getD_takeU l (i + 1) (st + 0) (by omega)] at hK ⊢
            exact decodeN_more K (l.length - st) _ _ _ _ _ _ _ (by omega) (by omega) hK
              (fun h => congrArg UInt8.toNat (getD_takeU l (i + 1) (st + 1) (by omega)).symm) (fun h => congrArg UInt8.toNat (getD_takeU l (i + 1) (st + 2) (by omega)).symm) (fun h => congrArg UInt8.toNat (getD_takeU l (i + 1) (st + 3) (by omega)).symm)
          have hc : (l.getD st 0).toNat / 64 ≠ 2 := fun hc => by
            rw [decodeL_N, getD_dropU, getD_takeU l (i + 1) (st + 0) (by omega), decodeN_cont _ _ _ _ _ (show (l.getD (st + 0) 0).toNat / 64 = 2 from hc)] at hK
            simp only at hK
            omega
          have hf := hb.fits st (by omega) (by rw [← hl]; exact hc)
          rw [← decodeL_drop, ← hl, key, hK] at hf
          omega
  · obtain ⟨a0, a1, a2, a3⟩ := dN2 _ _ _ _ _ h
    have e : decodeL [l.getD i 0, l.getD (i + 1) 0] = Utf8.decode s i := by rw [decodeL_N, hd, ← a0]; rfl
    have h2 : (Utf8.decode s i).2 = 2 := by rw [hd, h]
    rw [h2, take2 l i (by omega), last2 _ _ _ (by omega) (by unfold runeStartB; rw [bne_iff_ne]; exact a2) (by rw [e, h2]), e]
  · obtain ⟨a0, a1, a2, a3, a4⟩ := dN3 _ _ _ _ _ h
    have e : decodeL [l.getD i 0, l.getD (i + 1) 0, l.getD (i + 2) 0] = Utf8.decode s i := by rw [decodeL_N, hd, ← a0]; rfl
    have h2 : (Utf8.decode s i).2 = 3 := by rw [hd, h]
    rw [h2, take3 l i (by omega), last3 _ _ _ _ (by omega) (by unfold runeStartB; rw [a1]; rfl) (by unfold runeStartB; rw [bne_iff_ne]; exact a3) (by rw [e, h2]), e]
  · obtain ⟨a0, a1, a2, a3, a4, a5⟩ := dN4 _ _ _ _ _ h
    have e : decodeL [l.getD i 0, l.getD (i + 1) 0, l.getD (i + 2) 0, l.getD (i + 3) 0] = Utf8.decode s i := by rw [decodeL_N, hd, ← a0]; rfl
    have h2 : (Utf8.decode s i).2 = 4 := by rw [hd, h]
    rw [h2, take4 l i (by omega), Ut.last4 _ _ _ _ _ (by omega) (by unfold runeStartB; rw [a2]; rfl) (by unfold runeStartB; rw [a1]; rfl) (by unfold runeStartB; rw [bne_iff_ne]; exact a4) (by rw [e, h2]), e]
theorem lastR_next (s : ByteArray) (i : Nat) (hb : Bd s i) (hi : i < s.size) : lastR s (i + (dec s i).2) = (dec s i).1 := by
  have hw : 1 ≤ (Utf8.decode s i).2 := decode_width_pos s i hi
  unfold lastR dec
  rw [if_neg (show ¬ s.size ≤ i by omega)]
  rw [if_neg (by simp only; omega)]
  simp only
  rw [last_next s i hb hi]
theorem dec_dec (s : ByteArray) (i : Nat) (h : i < s.size) : (dec s i).2 = (Utf8.decode s i).2 := by
  unfold dec
  rw [if_neg (show ¬ s.size ≤ i by omega)]
end Go.Proofs.YteoljppcafakpaaDoor.PgFnPgSpan
namespace Go.Proofs.YteoljppcafakpaaDoor.PgFnPgSpan
open Go.RowKit Go.Proofs.YteoljppcafakpaaDoor.EvN Go.Proofs.YteoljppcafakpaaDoor.Row Go.Proofs.YteoljppcafakpaaDoor.Sf Go.Proofs.YteoljppcafakpaaDoor.PFnPgSpan Go.Proofs.YteoljppcafakpaaDoorW.PrintWords Go.Proofs.YteoljppcafakpaaDoorW.PrintLast Go.Proofs.YteoljppcafakpaaDoorW.PrintMore
set_option linter.unusedSimpArgs false
set_option linter.unusedVariables false
theorem scF_255 {L : List I} {st nc most : Int} (h : PSound L st nc most) : ∀ (n pc f : Nat), pc < L.length → f < 64 → 0 ≤ scF L n pc (f : Int) ∧ scF L n pc (f : Int) < 64 ∨ scF L n pc (f : Int) = 255 := by
  intro n
  induction n with
  | zero => intro pc f _ hf; rw [scF]; omega
  | succ n ih =>
    intro pc f hpc hf
    rw [scF]
    by_cases g3 : (ins L pc).f0 = 3
    · rw [if_pos g3]
      obtain ⟨x1, x2⟩ := h.arg3 pc hpc g3
      obtain ⟨o1, o2⟩ := h.outIn pc hpc (by omega)
      obtain ⟨a, ha⟩ : ∃ a : Nat, (ins L pc).f2 = (a : Int) := ⟨(ins L pc).f2.toNat, by omega⟩
      obtain ⟨e1, e2, e3⟩ := or6 f a hf (by omega)
      rw [ha, e2]
      exact ih _ _ (by omega) e3
    · rw [if_neg g3]
      by_cases g5 : (ins L pc).f0 = 5
      · rw [if_pos g5]; exact .inr rfl
      · rw [if_neg g5]
        by_cases g26 : (ins L pc).f0 = 2 ∨ (ins L pc).f0 = 6
        · rw [if_pos g26]
          obtain ⟨o1, o2⟩ := h.outIn pc hpc (by omega)
          exact ih _ _ (by omega) hf
        · rw [if_neg g26]; omega
theorem Bd.step {s : ByteArray} {i : Nat} (h : Bd s i) (hi : i < s.size) : Bd s (i + (dec s i).2) := by
  rw [dec_dec s i hi]; exact .next h hi
theorem bordF_ge (s : ByteArray) : ∀ (m i : Nat), ∀ x ∈ bordF s m i, i ≤ x := by
  intro m
  induction m with
  | zero => intro i x hx; rw [bordF, List.mem_singleton] at hx; omega
  | succ m ih =>
    intro i x hx
    rw [bordF] at hx
    split at hx
    · rw [List.mem_singleton] at hx; omega
    · rcases List.mem_cons.1 hx with rfl | hx
      · exact Nat.le_refl _
      · have := ih _ x hx; omega
theorem bordF_lt (s : ByteArray) : ∀ (m i : Nat), (bordF s m i).Pairwise (· < ·) := by
  intro m
  induction m with
  | zero => intro i; rw [bordF]; simp
  | succ m ih =>
    intro i
    rw [bordF]
    split
    · simp
    · rename_i h
      refine List.pairwise_cons.2 ⟨fun x hx => ?_, ih _⟩
      have h1 := bordF_ge s m _ x hx
      have h2 : (dec s i).2 ≠ 0 := fun e => h ((dec_w s i).1 e)
      omega
theorem bordF_le (s : ByteArray) : ∀ (m i : Nat), i ≤ s.size → ∀ x ∈ bordF s m i, x ≤ s.size := by
  intro m
  induction m with
  | zero => intro i hi x hx; rw [bordF, List.mem_singleton] at hx; omega
  | succ m ih =>
    intro i hi x hx
    rw [bordF] at hx
    split at hx
    · rw [List.mem_singleton] at hx; omega
    · rcases List.mem_cons.1 hx with rfl | hx
      · exact hi
      · exact ih _ (dec_le s i hi) x hx
theorem bordF_fuel (s : ByteArray) : ∀ (m m' i : Nat), s.size < i + m → s.size < i + m' → i ≤ s.size → bordF s m i = bordF s m' i := by
  intro m
  induction m with
  | zero => intro m' i h1 h2 h3; omega
  | succ m ih =>
    intro m' i h1 h2 h3
    obtain ⟨m', rfl⟩ : ∃ k, m' = k + 1 := ⟨m' - 1, by omega⟩
    rw [bordF, bordF]
    by_cases h : s.size ≤ i
    · rw [if_pos h, if_pos h]
    · rw [if_neg h, if_neg h]
      have hp : (dec s i).2 ≠ 0 := fun e => h ((dec_w s i).1 e)
      rw [ih m' _ (by omega) (by omega) (dec_le s i h3)]
theorem bordF_mem (s : ByteArray) : ∀ {i : Nat}, Bd s i → i ≤ s.size → ∀ (m : Nat), s.size < i + m → ∀ x, (x ∈ bordF s (s.size + 1) 0 ∧ i ≤ x) ↔ x ∈ bordF s m i := by
  intro i hb
  induction hb with
  | zero => intro hi m hm x; rw [bordF_fuel s m (s.size + 1) 0 (by omega) (by omega) hi]; simp
  | @next i hb hi ih =>
    intro hle m hm x
    have e := dec_dec s i hi
    rw [← e] at hle hm ⊢
    have hp : (dec s i).2 ≠ 0 := fun e => by have := (dec_w s i).1 e; omega
    have h1 := ih (by omega) (m + (dec s i).2) (by omega) x
    obtain ⟨m2, hm2⟩ : ∃ m2, m + (dec s i).2 = m2 + 1 := ⟨m + (dec s i).2 - 1, by omega⟩
    have e1 : bordF s (m + (dec s i).2) i = i :: bordF s m (i + (dec s i).2) := by
      rw [hm2, bordF, if_neg (by omega), bordF_fuel s m2 m _ (by omega) (by omega) (by omega)]
    rw [e1] at h1
    constructor
    · rintro ⟨h2, h3⟩
      rcases List.mem_cons.1 (h1.1 ⟨h2, by omega⟩) with rfl | h4
      · omega
      · exact h4
    · intro h2
      obtain ⟨h3, _⟩ := h1.2 (List.mem_cons_of_mem _ h2)
      exact ⟨h3, bordF_ge s m _ x h2⟩
def endsAt (L : List I) (t : Nat) (s : ByteArray) (i : Nat) : List Nat := endsF L s (s.size + 2 - i) [t] (lastR s i) i
theorem lat_iff (L : List I) (t : Nat) (s : ByteArray) (p : Nat × Nat) : ∀ (k i : Nat), Bd s i → i ≤ s.size → s.size + 2 ≤ k + i → ∀ m, s.size < i + m → (Lat L t s k (lastR s i) i p ↔ p.1 ∈ bordF s m i ∧ p.2 ∈ endsAt L t s p.1) := by
  intro k
  induction k with
  | zero => intro i _ h1 h2; omega
  | succ k ih =>
    intro i hb hi hk m hm
    obtain ⟨m, rfl⟩ : ∃ k, m = k + 1 := ⟨m - 1, by omega⟩
    have hf : endsF L s (k + 1) [t] (lastR s i) i = endsAt L t s i := endsF_fuel L s _ _ _ _ _ hi (by omega) (by omega)
    rw [Lat, hf, bordF]
    by_cases h : s.size ≤ i
    · have h0 : (dec s i).2 = 0 := (dec_w s i).2 h
      rw [if_pos h, List.mem_singleton]
      constructor
      · rintro (⟨h1, h2⟩ | ⟨h1, _⟩)
        · exact ⟨h1, by rw [h1]; exact h2⟩
        · exact absurd h0 h1
      · rintro ⟨h1, h2⟩
        exact .inl ⟨h1, by rw [← h1]; exact h2⟩
    · have h0 : (dec s i).2 ≠ 0 := fun e => h ((dec_w s i).1 e)
      rw [if_neg h, List.mem_cons]
      have hih := ih (i + (dec s i).2) (hb.step (by omega)) (dec_le s i hi) (by omega) m (by omega)
      rw [lastR_next s i hb (by omega)] at hih
      rw [hih]
      constructor
      · rintro (⟨h1, h2⟩ | ⟨_, h2, h3⟩)
        · exact ⟨.inl h1, by rw [h1]; exact h2⟩
        · exact ⟨.inr h2, h3⟩
      · rintro ⟨h1 | h1, h2⟩
        · exact .inl ⟨h1, by rw [← h1]; exact h2⟩
        · exact .inr ⟨h0, h1, h2⟩
theorem endsF_ge (L : List I) (s : ByteArray) : ∀ (n : Nat) (pcs : List Nat) (last : Int) (i : Nat), ∀ x ∈ endsF L s n pcs last i, i ≤ x := by
  intro n
  induction n with
  | zero => intro pcs last i x hx; simp [endsF] at hx
  | succ n ih =>
    intro pcs last i x hx
    rw [endsF_open, List.mem_append] at hx
    rcases hx with hx | hx
    · split at hx
      · rw [List.mem_singleton] at hx; omega
      · simp at hx
    · have := ih _ _ _ x hx; omega
theorem endsF_lt (L : List I) (s : ByteArray) : ∀ (n : Nat) (pcs : List Nat) (last : Int) (i : Nat), (endsF L s n pcs last i).Pairwise (· < ·) := by
  intro n
  induction n with
  | zero => intro pcs last i; simp [endsF]
  | succ n ih =>
    intro pcs last i
    rw [endsF_open]
    refine List.pairwise_append.2 ⟨by split <;> simp, ih _ _ _, fun a ha b hb => ?_⟩
    split at ha
    · rw [List.mem_singleton] at ha
      by_cases h0 : (dec s i).2 = 0
      · rw [if_pos h0, endsF_nil] at hb; simp at hb
      · have := endsF_ge L s _ _ _ _ b hb; omega
    · simp at ha
theorem condZ_text (s : ByteArray) (i : Nat) (hi : i ≠ 0) (hle : i ≤ s.size) (c : Nat) (h : condZ (lastR s i) (dec s i).1 = (c : Int)) : c &&& 4 = 0 := by
  have hl : lastR s i ≠ -1 := by
    unfold lastR
    rw [if_neg hi]
    have := Lib.decodeLastL_rune (s.data.toList.take i)
    omega
  unfold condZ at h
  rw [decide_eq_false hl] at h
  have h2 : ∀ (b10 am a10 wb : Bool), ((cP false b10 am a10 wb).toNat &&& 4) = 0 := by unfold cP; decide
  have h3 := h2 (lastR s i == 10) (decide ((dec s i).1 = -1)) ((dec s i).1 == 10) (wdB (lastR s i) != wdB (dec s i).1)
  rw [h, Int.toNat_natCast] at h3
  exact h3
theorem loop_form {L : List I} {stI nc most : Int} (h : PSound L stI nc most) (s : ByteArray) (st : Nat) (hst : st < L.length) (anch : Bool) : ∀ (k : Nat) (last : Int) (i : Nat) (A : List Ae) (b : Bool) (M : List Int), LI L s last i A b M →
    (mLoop L st true anch s k last i A b M).1 = true → ∃ s0 e0 : Nat, (mLoop L st true anch s k last i A b M).2 = [(s0 : Int), (e0 : Int)] := by
  intro k
  induction k with
  | zero =>
    intro last i A b M hI hb
    obtain ⟨s0, e0, h1, _⟩ := hI.mM hb
    exact ⟨s0, e0, h1⟩
  | succ k ih =>
    intro last i A b M hI hb
    rw [mLoop] at hb ⊢
    by_cases hbr : A = [] ∧ ((anch = true ∧ i ≠ 0) ∨ b = true)
    · rw [if_pos hbr] at hb ⊢
      obtain ⟨s0, e0, h1, _⟩ := hI.mM hb
      exact ⟨s0, e0, h1⟩
    · rw [if_neg hbr] at hb ⊢
      have hlen := hI.len
      obtain ⟨A1, M1, hM1, hA1, hS, hn1, _, _⟩ := put_dm h s st k hst last i A b M hI
      simp only [← hM1] at hb ⊢
      rw [← hA1, hlen] at hb ⊢
      obtain ⟨_, _, d3⟩ := step_dm h s k i last ((i + (dec s i).2 : Nat) : Int) A1 [] b M1 hS
      have hnn := stepF_none L 2 (dec s i).1 (condZ (dec s i).1 (dec s (i + (dec s i).2)).1) (i : Int) ((i + (dec s i).2 : Nat) : Int) A1 [] b M1
      generalize stepF L true 2 (dec s i).1 (condZ (dec s i).1 (dec s (i + (dec s i).2)).1) (i : Int) ((i + (dec s i).2 : Nat) : Int) A1 ([], b, M1) = r at *
      obtain ⟨A2, m2, M2⟩ := r
      simp only at *
      by_cases hw : (dec s i).2 = 0
      · rw [if_pos hw] at hb ⊢
        obtain ⟨s0, e0, h1, _⟩ := d3.mM hb
        exact ⟨s0, e0, h1⟩
      · rw [if_neg hw, if_neg (by omega)] at hb ⊢
        refine ih (dec s i).1 (i + (dec s i).2) A2 m2 M2 ⟨d3.wA, fun a ha' C hC => ?_, (by simpa [starts] using d3.so), d3.oA, fun hm => ?_, fun hm => ?_⟩ hb
        · obtain ⟨t, h1, h2⟩ := d3.fR a (by simpa using ha') C hC
          exact ⟨t, h1, by omega⟩
        · obtain ⟨s0, e0, h1, h2, h3, _⟩ := d3.mM hm
          exact ⟨s0, e0, h1, by omega, by omega⟩
        · obtain ⟨hb, hM⟩ := hnn hm
          exact ⟨_, hM.trans (hn1 hb)⟩
theorem span_says {L : List I} {nc most : Int} {t : Nat} (h : PSound L (t : Int) nc most) (s : ByteArray) (i0 : Nat) (hb : Bd s i0) (hi : i0 ≤ s.size) :
    ((mF L (t : Int) (scF L L.length t 0) true s i0 2).1 = true → ∃ a b : Nat, (mF L (t : Int) (scF L L.length t 0) true s i0 2).2 = [(a : Int), (b : Int)] ∧ a ∈ bordF s (s.size + 1) 0 ∧ i0 ≤ a ∧ b ∈ endsAt L t s a ∧
      (∀ a' ∈ bordF s (s.size + 1) 0, i0 ≤ a' → endsAt L t s a' ≠ [] → a ≤ a') ∧ ∀ b' ∈ endsAt L t s a, b' ≤ b) ∧
    ((mF L (t : Int) (scF L L.length t 0) true s i0 2).1 = false → ∀ a ∈ bordF s (s.size + 1) 0, i0 ≤ a → endsAt L t s a = []) := by
  have ht1 : t < L.length := by have := h.st1; omega
  have hM : ∀ p : Nat × Nat, Lat L t s (s.size + 2) (lastR s i0) i0 p ↔ (p.1 ∈ bordF s (s.size + 1) 0 ∧ i0 ≤ p.1) ∧ p.2 ∈ endsAt L t s p.1 := fun p => by
    rw [lat_iff L t s p (s.size + 2) i0 hb hi (by omega) (s.size + 1) (by omega), bordF_mem s hb hi (s.size + 1) (by omega)]
  have hne : ∀ a, a ∈ bordF s (s.size + 1) 0 → endsAt L t s a ≠ [] → ∃ v c : Nat, scF L L.length t 0 = (v : Int) ∧ v < 64 ∧ condZ (lastR s a) (dec s a).1 = (c : Int) ∧ c < 64 ∧ c &&& v = v := fun a _ hne => ends_lead h t ht1 s _ _ a hne
  unfold mF
  rw [Int.toNat_natCast]
  by_cases h255 : scF L L.length t 0 = 255
  · rw [if_pos h255]
    refine ⟨(fun e => by cases e), fun _ a ha hia => ?_⟩
    apply Decidable.byContradiction
    intro hn
    obtain ⟨v, c, h1, h2, _⟩ := hne a ha hn
    omega
  · rw [if_neg h255]
    have hLI : LI L s (lastR s i0) i0 [] false [-1, -1] := ⟨(fun a ha => by cases ha), (fun a ha => by cases ha), List.Pairwise.nil, ⟨[], (fun x hx => by cases hx), rfl⟩, (fun e => by cases e), fun _ => ⟨-1, rfl⟩⟩
    obtain ⟨d1, d2⟩ := loop_dm h s t ht1 (decide ((scF L L.length t 0).toNat &&& 4 ≠ 0)) (s.size + 2) (lastR s i0) i0 [] false [-1, -1] hLI (fun hanch p hp => by
      obtain ⟨⟨ha, hia⟩, hpe⟩ := (hM p).1 hp
      obtain ⟨v, c, h1, h2, h3, h4, h5⟩ := hne p.1 ha (fun e => by rw [e] at hpe; cases hpe)
      apply Decidable.byContradiction
      intro h0
      have hc := condZ_text s p.1 h0 (bordF_le s _ 0 (Nat.zero_le _) p.1 ha) c h3
      have hv := of_decide_eq_true hanch
      rw [h1, Int.toNat_natCast] at hv
      apply hv
      rw [← h5, Nat.and_assoc, Nat.and_comm v 4, ← Nat.and_assoc, hc, Nat.zero_and])
    have hT : ∀ p, TK L t s (s.size + 2) (lastR s i0) i0 [] false [-1, -1] p ↔ (p.1 ∈ bordF s (s.size + 1) 0 ∧ i0 ≤ p.1) ∧ p.2 ∈ endsAt L t s p.1 := fun p => by
      rw [← hM]
      constructor
      · rintro (⟨x, hx, _⟩ | ⟨hp, _⟩ | ⟨_, hp⟩)
        · cases hx
        · cases hp
        · exact hp
      · exact fun hp => .inr (.inr ⟨rfl, hp⟩)
    rw [show List.replicate 2 (-1 : Int) = [-1, -1] from rfl]
    have hfo := loop_form h s t ht1 (decide ((scF L L.length t 0).toNat &&& 4 ≠ 0)) (s.size + 2) (lastR s i0) i0 [] false [-1, -1] hLI
    generalize mLoop L t true (decide ((scF L L.length t 0).toNat &&& 4 ≠ 0)) s (s.size + 2) (lastR s i0) i0 [] false [-1, -1] = X at *
    refine ⟨fun hx => ?_, fun hx a ha hia => ?_⟩
    · obtain ⟨a, b, hX⟩ := hfo hx
      have hu : ∀ p, KM X.1 X.2 p → p = (a, b) := fun p ⟨_, hp⟩ => by
        rw [hX] at hp
        simp only [List.cons.injEq, Int.natCast_inj, and_true] at hp
        exact Prod.ext hp.1.symm hp.2.symm
      have hbest : ∀ q : Nat × Nat, (q.1 ∈ bordF s (s.size + 1) 0 ∧ i0 ≤ q.1) ∧ q.2 ∈ endsAt L t s q.1 → le_ (a, b) q := fun q hq => by
        obtain ⟨p, hp, hle⟩ := d1 q ((hT q).2 hq)
        rw [hu p hp] at hle
        exact hle
      obtain ⟨p, hp, hle⟩ := d2 (a, b) ⟨hx, hX⟩
      have hp := (hT p).1 hp
      have hle2 := hbest p hp
      have hpe : p = (a, b) := by
        unfold le_ at hle hle2
        simp only at hle hle2
        exact Prod.ext (by simp only; omega) (by simp only; omega)
      subst hpe
      refine ⟨a, b, hX, hp.1.1, hp.1.2, hp.2, fun a' ha' hia hn => ?_, fun b' hb' => ?_⟩
      · obtain ⟨b', hb'⟩ := List.exists_mem_of_ne_nil _ hn
        have := hbest (a', b') ⟨⟨ha', hia⟩, hb'⟩
        unfold le_ at this
        simp only at this
        omega
      · have := hbest (a, b') ⟨hp.1, hb'⟩
        unfold le_ at this
        simp only at this
        omega
    · apply Decidable.byContradiction
      intro hn
      obtain ⟨b, hb⟩ := List.exists_mem_of_ne_nil _ hn
      obtain ⟨p, ⟨hp, _⟩, _⟩ := d1 (a, b) ((hT _).2 ⟨⟨ha, hia⟩, hb⟩)
      rw [hx] at hp
      cases hp
end Go.Proofs.YteoljppcafakpaaDoor.PgFnPgSpan
namespace Go.Proofs.YteoljppcafakpaaDoor.PgFnPgSpan
open Go.RowKit Go.Proofs.YteoljppcafakpaaDoor.EvN Go.Proofs.YteoljppcafakpaaDoor.Row Go.Proofs.YteoljppcafakpaaDoor.PFnPgSpan Go.Proofs.YteoljppcafakpaaDoorW.PrintWords Go.Proofs.YteoljppcafakpaaDoorW.PrintLast Go.Proofs.YteoljppcafakpaaDoorW.PrintMore
set_option linter.unusedSimpArgs false
set_option linter.unusedVariables false
def bordB (s : ByteArray) (pos : Int) : Nat → Nat → Bool
  | 0, _ => false
  | k + 1, i => if (i : Int) < pos then (if (dec s i).2 = 0 then false else bordB s pos k (i + (dec s i).2)) else decide ((i : Int) = pos)
theorem bordB_Bd (s : ByteArray) (pos : Int) : ∀ (k i : Nat), i ≤ s.size → Bd s i → bordB s pos k i = true → ∃ j : Nat, pos = j ∧ Bd s j ∧ j ≤ s.size := by
  intro k
  induction k with
  | zero => intro i _ _ h; rw [bordB] at h; cases h
  | succ k ih =>
    intro i hi hb h
    rw [bordB] at h
    split at h
    · split at h
      · cases h
      · rename_i h2
        have hlt : i < s.size := by
          have := dec_w s i
          omega
        refine ih _ (dec_le s i hi) ?_ h
        rw [dec_dec s i hlt]
        exact .next hb hlt
    · exact ⟨i, (of_decide_eq_true h).symm, hb, hi⟩
set_option maxRecDepth 100000 in
theorem border_calls (s : ByteArray) (pos : Int) (hp : -9223372036854775808 ≤ pos ∧ pos ≤ 9223372036854775807) (w : World) (hs : s.size ≤ 100000) (hT : Tabs w) : Calls Tryd.prog 22 #[.string s, .int .i64 pos] w fun e w' => e = .returned (.bool (bordB s pos (s.size + 1) 0)) ∧ Below w.heap.size w w' := by
  have HT := Lib.hid hT
  obtain ⟨X, hX⟩ : ∃ X, X = bordB s pos (s.size + 1) 0 := ⟨_, rfl⟩
  rw [← hX]
  have HX := Lib.hid hX.symm
  clear hT hX
  go_enter Tryd.func22, Tryd.ntmps22
  go_wp2_with fail
  go_loopg [5] s.size (fun gk s5 wr => ∃ (i m : Nat), Hid (gk + i = s.size ∧ bordB s pos m i = X ∧ Below w.heap.size w wr ∧ s.size < i + m) ∧ i ≤ s.size ∧ s5 = .int .i64 i)
  case atStart => exact ⟨0, s.size + 1, ⟨by omega, HX.out, Below.refl _ _, by omega⟩, by omega, rfl⟩
  case round =>
    obtain ⟨i, m, HI, hi, rfl⟩ := hrel
    obtain ⟨m, rfl⟩ : ∃ m', m = m' + 1 := ⟨m - 1, by have := HI.out.2.2.2; omega⟩
    by_cases hlt : (i : Int) < pos
    · have hd1 : decide ((i : Int) < pos) = true := decide_eq_true hlt
      have hle := dec_le s i hi
      have hw := dec_w s i
      have HN : Hid ((if (dec s i).2 = 0 then false else bordB s pos m (i + (dec s i).2)) = X) := Lib.hid (by have := HI.out.2.1; rw [bordB, if_pos hlt] at this; exact this)
      go_wp2_with fail
      refine (next_calls s i wr hi (by omega) (Utf8Tabs_below HT.out HI.out.2.2.1)).mono ?_
      rintro e w1 ⟨rfl, hb1⟩
      have HB1 := Lib.hid (below_step HI.out.2.2.1 hb1)
      generalize hdn : (dec s i).2 = d at *
      generalize (dec s i).1 = c at *
      clear hdn
      by_cases h0 : d = 0
      · have hd2 : ((d : Int) == 0) = true := by rw [beq_iff_eq]; omega
        have HD0 := Lib.hid h0
        clear h0
        go_wp2_with fail
        refine bodyPost_ret (v := .bool false) (by simp [results, Tryd.results22, go_sem]) rfl ⟨?_, HB1.out⟩
        have := HN.out
        rw [if_pos HD0.out] at this
        rw [this]
      · have hd2 : ((d : Int) == 0) = false := by rw [beq_eq_false_iff_ne]; omega
        go_wp2_with fail
        go_roundg (gk - d)
        case measure => have := HI.out.1; omega
        case rel =>
          refine ⟨i + d, m, ⟨by have := HI.out.1; omega, ?_, HB1.out, by have := HI.out.2.2.2; omega⟩, hle, by first | rfl | go_num⟩
          have := HN.out
          rw [if_neg h0] at this
          exact this
    · have hd1 : decide ((i : Int) < pos) = false := decide_eq_false hlt
      have hX2 : decide ((i : Int) = pos) = X := by have := HI.out.2.1; rw [bordB, if_neg hlt] at this; exact this
      have HX2 := Lib.hid hX2
      clear hX2
      go_wp2_with fail
      go_ret
      exact ⟨by rw [← HX2.out]; rfl, HI.out.2.2.1⟩
def fineP (L : List I) (st nc : Int) (s : ByteArray) (pos ncap : Int) : Bool := decide (s.size ≤ 60000) && decide (L.length * (s.size + 1) ≤ 1048576) && psnd L st nc 2000 && bordB s pos (s.size + 1) 0 && (decide (ncap = 0) || decide (ncap = 2) || decide (ncap = nc))
set_option maxRecDepth 100000 in
set_option maxHeartbeats 4000000 in
theorem finep_calls {L : List I} {st nc : Int} (hL : L.length ≤ 2147483647) (hr : ∀ i ∈ L, i.f3.length ≤ 2147483647) (s : ByteArray) (hz : s.size ≤ 2147483647) (pos ncap : Int) (hp : -9223372036854775808 ≤ pos ∧ pos ≤ 9223372036854775807) (w : World) (hT : Tabs w) (A : Option Addr) (c : Nat) (hK : Kd.C k29 w A L.length L) (hc : L.length ≤ c) :
    Calls Tryd.prog 8 #[.agg #[.slice A L.length c, .int .i64 st, .int .i64 nc], .string s, .int .i64 pos, .int .i64 ncap] w fun e w' => e = .returned (.bool (fineP L st nc s pos ncap)) ∧ Below w.heap.size w w' := by
  have hu24 := Tryd.underlying24
  obtain ⟨kp, hkp⟩ := (ev_psnd L st nc 2000 (by omega) (fun i hi => by have := hr i hi; omega)).get
  have HK := Lib.hid hK
  have HKP := Lib.hid hkp
  have HT := Lib.hid hT
  have HP := Lib.hid hp
  clear hK hr hkp hT hp
  unfold fineP
  go_enter Tryd.func8, Tryd.ntmps8
  by_cases h1 : s.size ≤ 60000
  · have d1 : decide (s.size ≤ 60000) = true := decide_eq_true h1
    have hmul : L.length * (s.size + 1) ≤ 2147483647 * 60001 := Nat.mul_le_mul hL (by omega)
    have hw : wrap64 ((L.length : Int) * ((s.size : Int) + 1)) = ((L.length * (s.size + 1) : Nat) : Int) := by
      rw [show (L.length : Int) * ((s.size : Int) + 1) = ((L.length * (s.size + 1) : Nat) : Int) by push_cast; rfl]
      generalize L.length * (s.size + 1) = m at *
      have := wrap_nat m 0 (by omega)
      simpa using this
    generalize L.length * (s.size + 1) = m at *
    by_cases h2 : m ≤ 1048576
    · have d2 : decide (m ≤ 1048576) = true := decide_eq_true h2
      rw [d1, d2, Bool.true_and, Bool.true_and]
      go_wp2_with fail
      refine (spec_ProgSound.calls kp A c L st nc 2000 (psnd L st nc 2000) _ (Kd.C_below HK.out (below_alloc (Below.refl _ w) _)) hc HKP.out).mono ?_
      rintro e w2 ⟨rfl, hb2⟩
      have HB2 := Lib.hid (below_step (below_alloc (Below.refl _ w) _) hb2)
      have hca := (blk_cell (heap_alloc_new w (.cells #[.slice A L.length c, .int .i64 st, .int .i64 nc] 24)) 2).trans rfl
      have HC2 := Lib.hid hb2
      clear hb2 HKP
      cases hq : psnd L st nc 2000 with
      | false =>
        go_wp2_with fail
        go_ret
        exact ⟨by rw [hq]; rfl, HB2.out⟩
      | true =>
        go_wp2_with fail
        refine (border_calls s pos HP.out _ (by omega) (Utf8Tabs_below HT.out HB2.out)).mono ?_
        rintro e w3 ⟨rfl, hb3⟩
        have HB3 := Lib.hid (below_step HB2.out hb3)
        have HC3 := Lib.hid (below_step HC2.out hb3)
        clear hb3
        cases hb : bordB s pos (s.size + 1) 0 with
        | false =>
          go_wp2_with fail
          go_ret
          exact ⟨by rw [hq, hb]; rfl, HB3.out⟩
        | true =>
          by_cases n0 : ncap = 0
          · have e0 : (ncap == 0) = true := beq_iff_eq.2 n0
            go_wp2_with fail
            go_ret
            exact ⟨by rw [hq, hb, decide_eq_true n0]; rfl, HB3.out⟩
          · have e0 : (ncap == 0) = false := beq_eq_false_iff_ne.2 n0
            by_cases n2 : ncap = 2
            · have e2 : (ncap == 2) = true := beq_iff_eq.2 n2
              go_wp2_with fail
              go_ret
              exact ⟨by rw [hq, hb, decide_eq_false n0, decide_eq_true n2]; rfl, HB3.out⟩
            · have e2 : (ncap == 2) = false := beq_eq_false_iff_ne.2 n2
              have hcl : w3.cell? ⟨w.heap.size, 2, none⟩ = some (.int .i64 nc) := (HC3.out.cell (World.block_lt_of_cell? _ _ hca)).trans hca
              by_cases nn : ncap = nc
              · have e3 : (ncap == nc) = true := beq_iff_eq.2 nn
                go_wp2_with fail
                go_ret
                exact ⟨by rw [hq, hb, decide_eq_false n0, decide_eq_false n2, decide_eq_true nn]; rfl, HB3.out⟩
              · have e3 : (ncap == nc) = false := beq_eq_false_iff_ne.2 nn
                go_wp2_with fail
                go_ret
                exact ⟨by rw [hq, hb, decide_eq_false n0, decide_eq_false n2, decide_eq_false nn]; rfl, HB3.out⟩
    · have d2 : decide (m ≤ 1048576) = false := decide_eq_false h2
      rw [d1, d2, Bool.true_and, Bool.false_and, Bool.false_and, Bool.false_and]
      go_wp2_with fail
      go_ret
      exact ⟨rfl, below_alloc (Below.refl _ w) _⟩
  · have d1 : decide (s.size ≤ 60000) = false := decide_eq_false h1
    rw [d1, Bool.false_and, Bool.false_and, Bool.false_and, Bool.false_and]
    go_wp2_with fail
    go_ret
    exact ⟨rfl, below_alloc (Below.refl _ w) _⟩
end Go.Proofs.YteoljppcafakpaaDoor.PgFnPgSpan
namespace Go.Proofs.YteoljppcafakpaaDoor.PgFnPgSpan
open Go.RowKit Go.Proofs.YteoljppcafakpaaDoor.EvN Go.Proofs.YteoljppcafakpaaDoor.Row Go.Proofs.YteoljppcafakpaaDoor.Sf Go.Proofs.YteoljppcafakpaaDoor.PFnPgSpan Go.Proofs.YteoljppcafakpaaDoorW.PrintWords Go.Proofs.YteoljppcafakpaaDoorW.PrintLast Go.Proofs.YteoljppcafakpaaDoorW.PrintMore
set_option linter.unusedSimpArgs false
set_option linter.unusedVariables false
theorem own_one {w : World} {B g : Nat} {e : TypeId} {v : Value} (hg : w.heap[g]? = some (.cells #[v] e (0, 0))) (hB : B ≤ g) : w.ownsRow B e 1 (.slice (some ⟨g, 0, none⟩) 1 1) 1 [v] :=
  ⟨by simp, .inr ⟨g, 1, #[v], rfl, hB, hg, by omega, by unfold maxLen; omega, by simp, by simp⟩⟩
theorem bordF_len (s : ByteArray) : ∀ (n i : Nat), (bordF s n i).length ≤ n + 1 := by
  intro n
  induction n with
  | zero => intro i; simp [bordF]
  | succ n ih => intro i; rw [bordF]; split <;> simp; exact ih _
set_option maxRecDepth 100000 in
set_option maxHeartbeats 4000000 in
theorem borders_calls (s : ByteArray) (w : World) (hs : s.size ≤ 100000) (hT : Tabs w) :
    Calls Tryd.prog 14 #[.string s] w fun e w' => ∃ lv, e = .returned lv ∧ RowAt w' (fun i => w.heap.size ≤ i ∧ i < w'.heap.size) 3 lv ((bordF s (s.size + 1) 0).map fun x : Nat => Value.int .i64 (x : Int)) ∧ Below w.heap.size w w' := by
  have HT := Lib.hid hT
  clear hT
  go_enter Tryd.func14, Tryd.ntmps14
  go_wp2_with fail
  have HB0 := Lib.hid (below_alloc (Below.refl w.heap.size w) (.cells #[.int .i64 0] 3))
  have HO0 := Lib.hid (own_one (B := w.heap.size) (heap_alloc_new w (.cells #[.int .i64 0] 3)) (Nat.le_refl _))
  generalize w.alloc (.cells #[.int .i64 0] 3) = w0 at *
  go_loopg [3, 4] s.size (fun gk s3 s4 wr => ∃ (i m : Nat) (l : List Nat), Hid (gk + i = s.size ∧ s.size < i + m ∧ wr.ownsRow w.heap.size 3 1 s3 (l.length + 1) ((l ++ [i]).map fun x : Nat => Value.int .i64 (x : Int)) ∧ bordF s (s.size + 1) 0 = l ++ bordF s m i ∧ Below w.heap.size w wr) ∧ i ≤ s.size ∧ l.length ≤ i ∧ s4 = .int .i64 i)
  case atStart => exact ⟨0, s.size + 1, [], ⟨by omega, by omega, HO0.out, rfl, HB0.out⟩, by omega, by simp, rfl⟩
  case round =>
    obtain ⟨i, m, l, HI, hi, hl, rfl⟩ := hrel
    by_cases hlt : i < s.size
    · have hd1 : decide (i < s.size) = true := decide_eq_true hlt
      have hp := dec_pos s i hlt
      have hle := dec_le s i hi
      go_wp2_with fail
      refine (next_calls s i wr hi (by omega) (Utf8Tabs_below HT.out HI.out.2.2.2.2)).mono ?_
      rintro e w1 ⟨rfl, hb1⟩
      have HB1 := Lib.hid (below_step HI.out.2.2.2.2 hb1)
      have HO1 := Lib.hid (HI.out.2.2.1.kept (Row.grown_of_below hb1 none) (by cases u3.ownBlock <;> simp))
      obtain ⟨m, rfl⟩ : ∃ m', m = m' + 1 := ⟨m - 1, by have := HI.out.2.1; omega⟩
      have HN := Lib.hid (show bordF s (m + 1) i = i :: bordF s m (i + (dec s i).2) by rw [bordF, if_neg (by omega)])
      clear hb1
      generalize hdn : (dec s i).2 = d at *
      generalize (dec s i).1 = c at *
      clear hdn
      go_wp2_with (at_builtin; refine My.app1 rfl (.tmp 21) (.tmp 23) 32 rfl 3 (.int .i64 0) 8 Tryd.underlying32 iint rfl _ (l.length + 1) _ rfl w.heap.size w (HO1.out.alloc _) (below_alloc HB1.out _) (Nat.le_refl _) w1.heap.size rfl (.int .i64 ((i : Int) + (d : Int))) (by simp) rfl (by omega) (by unfold maxLen; omega) ?_; intro v1 w3 hown1 hbel1 hg1)
      go_roundg (gk - d)
      case measure => have := HI.out.1; omega
      case rel =>
        refine ⟨i + d, m, l ++ [i], ⟨by have := HI.out.1; omega, by have := HI.out.2.1; omega, ?_, by rw [HI.out.2.2.2.1, HN.out]; simp, hbel1.out⟩, hle, by simp; omega, by first | rfl | go_num⟩
        have := hown1.out
        simpa using this
    · have hd1 : decide (i < s.size) = false := decide_eq_false hlt
      have HN := Lib.hid (show bordF s m i = [i] by cases m with | zero => rfl | succ m => rw [bordF, if_pos (by omega)])
      go_wp2_with fail
      go_ret
      refine ⟨_, rfl, ?_, HI.out.2.2.2.2⟩
      rw [HI.out.2.2.2.1, HN.out]
      have ho : wr.ownsRow w.heap.size 3 1 u3 (l ++ [i]).length ((l ++ [i]).map fun x : Nat => Value.int .i64 (x : Int)) := by rw [List.length_append, List.length_singleton]; exact HI.out.2.2.1
      exact RowAt.of_owns ho fun g hg => ho.lt g hg
end Go.Proofs.YteoljppcafakpaaDoor.PgFnPgSpan
namespace Go.Proofs.YteoljppcafakpaaDoor.PoFnPgSpan
open Go.ChangeShapes Go.WideShapes Go.ChangeAt Go.RowKit Go.Proofs.YteoljppcafakpaaDoor.PFnPgSpan Go.Proofs.YteoljppcafakpaaDoorW.PrintWords Go.Proofs.YteoljppcafakpaaDoorW.PrintLast
set_option linter.unusedSimpArgs false
set_option linter.unusedVariables false
variable {H : Type} {enc : TypeId × Value → H} {w : World} {base : Nat} {spare : Nat → Bool} {held : Bool}
theorem ints_open {t e : TypeId} {k : IntKind} (ht : Tryd.prog.underlying t = some (.slice e)) (he : Tryd.prog.underlying e = some (.int k)) (hc : Tryd.prog.cellsOf e = 1) {fuel : Nat} {cs : List Value} {x : DataW H × List MemPlace} (h : DataW.trod enc Tryd.prog w base spare held fuel t cs = some x) :
    ∃ (A : Option Addr) (c : Nat) (l : List Int), cs = [.slice A l.length c] ∧ l.length ≤ c ∧ Kd.C (Kd.int k) w A l.length l := by
  rcases open_ints ht he hc h with ⟨hcs, _⟩ | ⟨a, len, cap, zs, hcs, _, hl, hm, hz, hx, hcell, hwz⟩
  · exact ⟨none, 0, [], hcs, Nat.le_refl _, ⟨rfl, by simp, fun h => absurd h (by simp)⟩⟩
  · have hzl : len ≤ zs.length := by rw [hz]; split <;> omega
    have hlen : (zs.take len).length = len := by rw [List.length_take]; omega
    refine ⟨some a, cap, zs.take len, by rw [hlen]; exact hcs, by rw [hlen]; exact hl, ⟨rfl, by rw [hlen]; unfold maxLen at hm; omega, fun _ => ⟨a, rfl, fun j p hj => ⟨[.int k p], rfl, rfl, fun i u hu => ?_⟩⟩⟩⟩
    have hj' : j < (zs.take len).length := by
      rcases Nat.lt_or_ge j (zs.take len).length with h | h
      · exact h
      · rw [List.getElem?_eq_none h] at hj; cases hj
    match i, hu with
    | 0, hu =>
      simp at hu
      subst hu
      have e : zs.getD j 0 = p := by
        rw [List.getElem?_take_of_lt (by omega)] at hj
        rw [List.getD_eq_getElem?_getD, hj]; rfl
      show w.cell? (a.add (j * 1 + 0)) = _
      rw [Nat.mul_one, Nat.add_zero, hcell j (by omega), e]
set_option maxRecDepth 100000 in
theorem inst_open (fuel : Nat) {cs : List Value} {x : DataW H × List MemPlace} (h : DataW.trod enc Tryd.prog w base spare held fuel 29 cs = some x) : ∃ t : S29, k29.K w t cs := by
  obtain ⟨xs, n, rfl, hxx, hl, hlen, hf⟩ := DataW.trod_struct Tryd.underlying29 h
  have hc : Tryd.prog.cellsOf 29 = 4 := by kernel_rfl
  rw [hc] at hl
  have hx : xs.length = 4 := hlen
  match cs, hl, xs, hx with
  | [c0, c1, c2, c3], _, [y0, y1, y2, y3], _ =>
    have g0 := hf 0 { name := "Op", type := 3, offset := 0, embedded := false, tag := "", pkgPath := "", byteOffset := 0 } rfl
    have g1 := hf 1 { name := "Out", type := 3, offset := 1, embedded := false, tag := "", pkgPath := "", byteOffset := 8 } rfl
    have g2 := hf 2 { name := "Arg", type := 3, offset := 2, embedded := false, tag := "", pkgPath := "", byteOffset := 16 } rfl
    have g3 := hf 3 { name := "Runes", type := 27, offset := 3, embedded := false, tag := "", pkgPath := "", byteOffset := 24 } rfl
    have ci : Tryd.prog.cellsOf 3 = 1 := by kernel_rfl
    have cr : Tryd.prog.cellsOf 27 = 1 := by kernel_rfl
    simp only [ci, cr, List.drop_succ_cons, List.drop_zero, List.take_succ_cons, List.take_zero, List.getElem?_cons_zero, List.getElem?_cons_succ] at g0 g1 g2 g3
    obtain ⟨a0, e0, _, w0⟩ := DataW.trod_int Tryd.underlying3 g0
    obtain ⟨a1, e1, _, w1⟩ := DataW.trod_int Tryd.underlying3 g1
    obtain ⟨a2, e2, _, w2⟩ := DataW.trod_int Tryd.underlying3 g2
    obtain ⟨A3, n3, l3, e3, le3, C3⟩ := ints_open Tryd.underlying27 Tryd.underlying21 (by kernel_rfl) g3
    cases e0; cases e1; cases e2; cases e3
    exact ⟨⟨a0, a1, a2, l3⟩, k29_mk w ⟨a0, a1, a2, l3⟩ le3 C3⟩
set_option maxRecDepth 100000 in
theorem prog_open (fuel : Nat) {cs : List Value} {x : DataW H × List MemPlace} (h : DataW.trod enc Tryd.prog w base spare held fuel 24 cs = some x) :
    ∃ (A : Option Addr) (c : Nat) (L : List S29) (st nc : Int), cs = [.slice A L.length c, .int .i64 st, .int .i64 nc] ∧ L.length ≤ c ∧ Kd.C k29 w A L.length L := by
  obtain ⟨xs, n, rfl, hxx, hl, hlen, hf⟩ := DataW.trod_struct Tryd.underlying24 h
  have hc0 : Tryd.prog.cellsOf 24 = 3 := by kernel_rfl
  rw [hc0] at hl
  have hx : xs.length = 3 := hlen
  have hc : Tryd.prog.cellsOf 29 = 4 := by kernel_rfl
  match cs, hl, xs, hx with
  | [c0, c1, c2], _, [y0, y1, y2], _ =>
    have g0 := hf 0 { name := "Insts", type := 22, offset := 0, embedded := false, tag := "", pkgPath := "", byteOffset := 0 } rfl
    have g1 := hf 1 { name := "Start", type := 3, offset := 1, embedded := false, tag := "", pkgPath := "", byteOffset := 24 } rfl
    have g2 := hf 2 { name := "NumCap", type := 3, offset := 2, embedded := false, tag := "", pkgPath := "", byteOffset := 32 } rfl
    have ci : Tryd.prog.cellsOf 3 = 1 := by kernel_rfl
    have cr : Tryd.prog.cellsOf 22 = 1 := by kernel_rfl
    simp only [ci, cr, List.drop_succ_cons, List.drop_zero, List.take_succ_cons, List.take_zero, List.getElem?_cons_zero, List.getElem?_cons_succ] at g0 g1 g2
    obtain ⟨a1, e1, _, w1⟩ := DataW.trod_int Tryd.underlying3 g1
    obtain ⟨a2, e2, _, w2⟩ := DataW.trod_int Tryd.underlying3 g2
    have h0 : ∃ (A : Option Addr) (n : Nat) (l : List S29), c0 = .slice A l.length n ∧ l.length ≤ n ∧ Kd.C k29 w A l.length l := by
      rcases DataW.trod_slice Tryd.underlying22 g0 with ⟨hcs, _⟩ | ⟨a, len, cap, elems, rest, m, rfl, hcs, hyy, _, hlc, hmx, hle, hel, _⟩
      · cases hcs
        exact ⟨none, 0, [], rfl, Nat.le_refl _, ⟨rfl, by simp, fun h => absurd h (by simp)⟩⟩
      · cases hcs
        rw [hc] at hel
        have hall : ∀ i, i < len → ∃ t : S29, ∃ c, k29.K w t c ∧ c.length = 4 ∧ ∀ j u, c[j]? = some u → w.cell? (a.add (i * 4 + j)) = some u := by
          intro i hi
          have h1 := hel i hi
          rw [List.getElem?_eq_getElem (by omega)] at h1
          cases hcells : w.cells? base (a.add (i * 4)) 4 with
          | none => rw [hcells] at h1; cases h1
          | some c =>
            rw [hcells] at h1
            obtain ⟨t, ht⟩ := inst_open m h1
            obtain ⟨_, h4, hce⟩ := World.cells?_some hcells
            refine ⟨t, c, ht, h4, fun j u hj => ?_⟩
            have hj4 : j < 4 := by
              rcases Nat.lt_or_ge j 4 with h | h
              · exact h
              · rw [List.getElem?_eq_none (by omega)] at hj; cases hj
            rw [← Deep.add_add, hce j hj4, hj]
        have : Inhabited S29 := ⟨z29⟩
        obtain ⟨f, hfn⟩ := Deep.choose_lt hall
        have hlen : ((List.range len).map f).length = len := by simp
        refine ⟨some a, cap, (List.range len).map f, by rw [hlen], by rw [hlen]; exact hlc, ⟨rfl, by rw [hlen]; unfold maxLen at hmx; omega, fun _ => ⟨a, rfl, fun j p hj => ?_⟩⟩⟩
        rw [List.getElem?_map] at hj
        have hjl : j < len := by
          rcases Nat.lt_or_ge j len with h | h
          · exact h
          · rw [List.getElem?_eq_none (by simpa using h)] at hj; cases hj
        rw [List.getElem?_range hjl] at hj
        cases hj
        obtain ⟨c, hK, hc4, hcell⟩ := hfn j hjl
        exact ⟨c, hc4, hK, hcell⟩
    obtain ⟨A0, n0, l0, hs0, le0, C0⟩ := h0
    cases e1; cases e2
    subst hs0
    exact ⟨A0, n0, l0, a1, a2, rfl, le0, C0⟩
end Go.Proofs.YteoljppcafakpaaDoor.PoFnPgSpan
namespace Go.Proofs.YteoljppcafakpaaDoor.PgFnPgSpan
open Go.RowKit Go.Proofs.YteoljppcafakpaaDoor.EvN Go.Proofs.YteoljppcafakpaaDoor.Row Go.Proofs.YteoljppcafakpaaDoor.Sf Go.Proofs.YteoljppcafakpaaDoor.PFnPgSpan Go.Proofs.YteoljppcafakpaaDoorW.PrintWords Go.Proofs.YteoljppcafakpaaDoorW.PrintLast Go.Proofs.YteoljppcafakpaaDoorW.PrintMore
set_option linter.unusedSimpArgs false
set_option linter.unusedVariables false
theorem New0.text {w w1 : World} {rb mb sp de sp1 de1 mcb p S nc : Nat} {mc : Nat → Value} {m8 v : Value} (h : New0 w w1 rb mb sp de sp1 de1 mcb p S nc mc m8) : New0 w (w1.setCell ⟨mb, 10, none⟩ v) rb mb sp de sp1 de1 mcb p S nc (up mc 10 v) m8 := by
  have k : ∀ {g : Nat} {cs : Array Value} {t : TypeId}, w1.heap[g]? = some (.cells cs t (0, 0)) → t ≠ 115 → (w1.setCell ⟨mb, 10, none⟩ v).heap[g]? = some (.cells cs t (0, 0)) := fun hg ht => (Below.heap_setCell _ _ _ _ (blk_ne hg h.ma ht)).trans hg
  exact ⟨mach_set h.ma 10 (by omega) v, h.m0, h.m1, h.m6, h.m8, h.q2, h.q3, h.q4, h.q5, k h.sa (by decide), k h.da (by decide), k h.sb (by decide), k h.db (by decide), k h.cb (by decide), h.lo, h.ne, below_set h.bl h.lo.1⟩
theorem appm {P : Program} {w : World} {ops : Array Oper} {rest : List Oper} {o : Oper} {a : Act} {Q : Exit → Act → World → Prop} (hgd : o.guard = none) (s x : Operand) (t : TypeId)
    (ho : o.op = .call { callee := .builtin .append, args := #[s, x], argTypes := #[t, t] })
    (e : TypeId) (z : Value) (bytes : Nat) (ht : P.underlying t = some (.slice e)) (hinfo : (P.info? e).map (fun i => (i.zero, i.size, i.bytes)) = some (some z, 1, bytes)) (hz1 : z.cells.size = 1)
    (v : Value) (n : Nat) (xs : List Value) (hs : a.eval s = v) (B : Nat) (w0 : World) (hown : w.ownsRow B e 1 v n xs) (hB : Below B w0 w) (hBw : B ≤ w0.heap.size)
    (vx : Value) (S : Nat → Prop) (news : List Value) (hx : a.eval x = vx) (hrow : RowAt w S e vx news) (h1 : ∀ u ∈ news, u.oneCell' = true)
    (hbytes : (n + news.length) * bytes ≤ 140737488355328) (hn : n + news.length ≤ maxLen)
    (h : ∀ v' w', Hid (w'.ownsRow B e 1 v' (n + news.length) (xs ++ news)) → Hid (Below B w0 w') → Hid (w.grownBy w' v.ownBlock) → wpList P ops Q rest (a.put o.dst v') w') : wpList P ops Q (o :: rest) a w := by
  obtain ⟨i, hi, hz, hsize, hby⟩ := info_parts hinfo
  rcases hrow with ⟨rfl, rfl⟩ | ⟨g, cap, cur, rfl, _, hg, k1, k2, k3, k4⟩
  · refine wpList_append_own_none hgd s x t ho B e i 1 ht hi v n xs hs hown hx ?_
    exact h v w (Lib.hid (by simpa using hown)) (Lib.hid hB) (Lib.hid (grown_refl w _))
  · refine wpList_append_own w hgd s x t ho B e i z 1 bytes ht hi hz hsize hby hz1 (by decide) v n xs hs hown ⟨g, 0, none⟩ news.length cap news hx (by omega) ?_ h1 hn hbytes (Nat.le_trans hBw hB.size) ?_
    · intro j u hj
      have e1 : (⟨g, 0, none⟩ : Addr).add j = ⟨g, j, none⟩ := by unfold Addr.add; split <;> simp_all
      rw [e1, blk_cell hg j, ← Array.getElem?_toList]
      have hjl : j < news.length := (List.getElem?_eq_some_iff.1 hj).1
      rw [← hj, ← k4, List.getElem?_take_of_lt hjl]
    · intro v' w' hown' hgrow _
      exact h v' w' hown' (hB.grown hgrow (Nat.le_trans hBw hB.size) (fun k hk => (hown.lt k hk).1)) hgrow
theorem own_zero {w : World} {B g : Nat} {e : TypeId} (hg : w.heap[g]? = some (.cells #[] e (0, 0))) (hB : B ≤ g) : w.ownsRow B e 1 (.slice (some ⟨g, 0, none⟩) 0 0) 0 [] :=
  ⟨by simp, .inr ⟨g, 0, #[], rfl, hB, hg, by omega, by unfold maxLen; omega, by simp, by simp⟩⟩
theorem CapAt.row {w : World} {n cc cb : Nat} {C : List Int} {S : Nat → Prop} (h : CapAt w n cc cb C) (hS : S cb) (hc : cc ≤ 100000) : RowAt w S 3 (.slice (some ⟨cb, 0, none⟩) n cc) (C.map (Value.int .i64)) := by
  obtain ⟨r, h1, h2, h3⟩ := h
  subst h2
  exact .inr ⟨cb, cc, _, by rw [List.length_map], hS, h1, by rw [List.length_map]; omega, by unfold maxLen; omega, by simp; omega, by simp⟩
def ThrV (w w' : World) (m : Bool) (M : List Int) (v : Value) : Prop :=
  (m = false → v = .slice none 0 0) ∧ (m = true → (∃ g n c, v = .slice (some g) n c) ∧ RowAt w' (fun i => w.heap.size ≤ i ∧ i < w'.heap.size) 3 v (M.map (Value.int .i64)))
set_option maxRecDepth 100000 in
set_option maxHeartbeats 4000000 in
theorem zzthreads_calls {L : List I} {st nc : Int} (h : PSound L st nc 2000) (p : Nat) (w : World) (hP : ProgAt w p L st nc) (hS : Sizes w) (hF : Folds w) (hT : Tabs w) (s : ByteArray) (i0 : Nat) (hi : i0 ≤ s.size) (hsz : s.size ≤ 1000000) (hwk : L.length * (s.size + 1) ≤ 1048576)
    (rb mcv : Nat) (hre : ReAt w rb p (mpool L.length) mcv) (hmc : 2 ≤ mcv ∧ mcv ≤ 100000) (cv : Int) (long : Bool) (hrx : ReX w rb cv long) (hlg : long = true) (hcv : 0 ≤ cv ∧ cv < 64 ∨ cv = 255) (n : Nat) (hn : 2 ≤ n) (hnm : n ≤ mcv) :
    Calls Tryd.prog 35 #[.pointer (some ⟨rb, 0, none⟩), .string s, .int .i64 (i0 : Int), .int .i64 (n : Int)] w fun e w' => ∃ v, e = .returned v ∧ Below w.heap.size w w' ∧ ThrV w w' (mF L st cv long s i0 n).1 (mF L st cv long s i0 n).2 v := by
  have hm : L.length ≤ 2000 := by have := h.most; omega
  obtain ⟨z, hz1, hz2, hz3, hz4, hz5⟩ := mpool_way L.length hm
  obtain ⟨ad, hprg⟩ := hP.prg h.pos
  have hsz2 := hS (mpool L.length) hz5
  rw [hz1] at hsz2
  obtain ⟨b, m, hpb, _⟩ := id hP
  have hst : w.cell? ⟨p, 1, none⟩ = some (.int .i64 st) := (blk_cell hpb 1).trans rfl
  have HST := Lib.hid hst
  have HS := Lib.hid h
  have HP := Lib.hid hP
  have HPG := Lib.hid hprg
  have HF := Lib.hid hF
  have HT := Lib.hid hT
  have HRX := Lib.hid hrx
  have HWK := Lib.hid hwk
  obtain ⟨X, hX⟩ : ∃ X, X = mF L st cv long s i0 n := ⟨_, rfl⟩
  rw [← hX]
  have HX := Lib.hid hX
  have HG := Lib.hid (get_calls w rb p (mpool L.length) mcv z hre hmc hsz2 hz5 ⟨hz3, hz4⟩)
  clear h hP hprg hF hT hrx hwk hS hre hsz2 hX hpb hst
  go_enter Tryd.func35, Tryd.ntmps35
  go_wp2_with fail
  refine HG.out.mono ?_
  rintro e w1 ⟨mb, sp, de, sp1, de1, mcb, mc, rfl, hnew, h9, h11⟩
  have HN := Lib.hid hnew
  have H9 := Lib.hid h9
  have H11 := Lib.hid h11
  clear hnew h9 h11 HG
  have HIN := Lib.hid (inputs_calls s w1 mb mc (by omega) HN.out.ma)
  go_wp2_with fail
  refine HIN.out.mono ?_
  rintro e w2 ⟨rfl, hw2⟩
  have hn2 := HN.out.text (v := .string s)
  rw [← hw2] at hn2
  have HN2 := Lib.hid hn2
  clear hn2 hw2 HIN HN
  have HIT := Lib.hid (init_calls w2 mb mcb mcv mcv n _ HN2.out.ma HN2.out.m6 HN2.out.m8 hnm)
  go_wp2_with fail
  refine HIT.out.mono ?_
  rintro e w3 ⟨rfl, hw3⟩
  have hn3 := HN2.out.cut (v := .slice (some ⟨mcb, 0, none⟩) n mcv)
  rw [← hw3] at hn3
  have HN3 := Lib.hid hn3
  clear hn3 hw3 HIT HN2
  have HMT := Lib.hid (match_calls HS.out hm w p ad HPG.out HST.out HF.out HT.out s i0 hi hsz HWK.out rb cv long HRX.out hlg hcv mb sp de sp1 de1 mcb z n mcv (.inr hn) hnm (by omega) hz2 hz4 _ w3 HN3.out ((up_ne _ _ (by decide)).trans (up_same _ _ _)))
  rw [← HX.out] at HMT
  go_wp2_with fail
  refine HMT.out.mono ?_
  rintro e w4 ⟨rfl, hb4, mr, ma4, m84, hcp4, m94, m114⟩
  have HPUT := fun w5 (hm5 : w5.heap[mb]? = some (mach mr)) => put_calls w5 rb mb mr hm5 (m94.trans (((up_ne _ _ (by decide)).trans (up_ne _ _ (by decide))).trans H9.out)) (m114.trans (((up_ne _ _ (by decide)).trans (up_ne _ _ (by decide))).trans H11.out))
  have HPT := Lib.hid HPUT
  have HB4 := Lib.hid hb4
  have HMA := Lib.hid ma4
  have HCP := Lib.hid hcp4
  have hz48 := (mach_cell ma4 8 (by omega)).trans (congrArg some m84)
  have hlo := HN3.out.lo
  clear HPUT hb4 ma4 hcp4 HMT HN3 HX m94 m114 m84
  obtain ⟨m1, M⟩ := X
  simp only at HCP ⊢
  cases m1 with
  | false =>
    have HP4 := Lib.hid (HPT.out w4 HMA.out)
    go_wp2_with fail
    refine HP4.out.mono ?_
    rintro e w5 ⟨rfl, hfr⟩
    go_wp2_with fail
    exact bodyPost_ret (v := .slice none 0 0) (by simp [results, Tryd.results35, go_sem]) rfl ⟨_, rfl, HB4.out.trans (hfr.to_below HB4.out.size (fun i e => by rw [e]; exact hlo.1)), fun _ => rfl, fun e => by cases e⟩
  | true =>
    have hcp := HCP.out rfl
    have hML : M.length = n := by obtain ⟨_, _, k, _⟩ := hcp; exact k
    have hmbl := blk_lt HMA.out
    have hcl := hcp.lt
    have HO0 := Lib.hid (own_zero (B := w.heap.size) (heap_alloc_new w4 (.cells #[] 3)) HB4.out.size)
    have HBA := Lib.hid (below_alloc HB4.out (.cells #[] 3))
    have HROW := Lib.hid ((hcp.keep (w' := w4.alloc (.cells #[] 3)) (Below.heap_alloc _ _ _ hcl)).row (S := fun _ => True) trivial hmc.2)
    have HMA1 := Lib.hid (blk_alloc HMA.out (.cells #[] 3))
    have hz48a := mach_cell HMA1.out 8 (by omega)
    have hz48b : ∀ o, (w4.alloc o).cell? ⟨mb, 8, none⟩ = some (.slice (some ⟨mcb, 0, none⟩) n mcv) := fun o => ((below_alloc (Below.refl _ w4) o).cell (World.block_lt_of_cell? w4 _ hz48)).trans hz48
    clear hcp hz48a
    go_wp2_with (at_builtin; refine appm rfl (.tmp 34) (.tmp 38) 32 rfl 3 (.int .i64 0) 8 Tryd.underlying32 iint rfl _ 0 [] rfl w.heap.size w HO0.out HBA.out (Nat.le_refl _) _ _ (M.map (Value.int .i64)) rfl HROW.out (by intro u hu; obtain ⟨y, _, rfl⟩ := List.mem_map.1 hu; rfl) (by rw [List.length_map]; omega) (by rw [List.length_map]; unfold maxLen; omega) ?_; intro v1 w5 hown1 hbel1 hg1)
    have hm5 : w5.heap[mb]? = some (mach mr) := (hg1.out.block mb (by simp; omega) (fun e => by have e2 : mb = w4.heap.size := Option.some.inj (show some mb = some w4.heap.size from e); omega)).trans HMA1.out
    have HP5 := Lib.hid (HPT.out w5 hm5)
    have HM5 := Lib.hid hm5
    clear hm5 HPT
    refine HP5.out.mono ?_
    rintro e w6 ⟨rfl, hfr⟩
    have HFR := Lib.hid hfr
    have hown2 := hown1.out
    rw [List.nil_append, Nat.zero_add] at hown2
    have HO2 := Lib.hid hown2
    have HB5 := Lib.hid hbel1.out
    clear hown1 hbel1 hg1 hfr HP5 hown2
    go_wp2_with fail
    go_ret
    have hb6 : Below w.heap.size w w6 := HB5.out.trans (HFR.out.to_below HB5.out.size (fun i e => by rw [e]; exact hlo.1))
    have hown3 := HFR.out.own HO2.out (fun g hg e => own_not HO2.out HM5.out (by decide) (by rw [hg, e]))
    refine ⟨v1, rfl, hb6, fun e => (by cases e), fun _ => ⟨?_, ?_⟩⟩
    · obtain ⟨gg, cpp, hv1, _, _⟩ := HO2.out.form (by rw [List.length_map]; omega)
      exact ⟨_, _, _, hv1⟩
    · exact RowAt.of_owns hown3 fun g hg => hown3.lt g hg
end Go.Proofs.YteoljppcafakpaaDoor.PgFnPgSpan
namespace Go.Proofs.YteoljppcafakpaaDoor.PgFnPgSpan
open Go.RowKit Go.Proofs.YteoljppcafakpaaDoor.EvN Go.Proofs.YteoljppcafakpaaDoor.Row Go.Proofs.YteoljppcafakpaaDoor.Sf Go.Proofs.YteoljppcafakpaaDoor.PFnPgSpan Go.Proofs.YteoljppcafakpaaDoorW.PrintWords Go.Proofs.YteoljppcafakpaaDoorW.PrintLast Go.Proofs.YteoljppcafakpaaDoorW.PrintMore
set_option linter.unusedSimpArgs false
set_option linter.unusedVariables false
set_option maxRecDepth 100000 in
set_option maxHeartbeats 4000000 in
theorem run_calls {L : List I} {st nc : Int} (h : PSound L st nc 2000) (hr : ∀ i ∈ L, i.f3.length * 4 ≤ 140737488351232) (W0 w : World) (hW : Below W0.heap.size W0 w) (A : Option Addr) (c0 : Nat) (hK : Kd.C k29 W0 A L.length L) (hc : L.length ≤ c0) (hS : Sizes W0)
    (s : ByteArray) (i0 : Nat) (hi : i0 ≤ s.size) (hsz : s.size ≤ 1000000) (long : Bool) (n : Nat) (hn : n = 2) :
    Calls Tryd.prog 34 #[.agg #[.slice A L.length c0, .int .i64 st, .int .i64 nc], .bool long, .string s, .int .i64 (i0 : Int), .int .i64 (n : Int)] w fun e w' => ∃ (rb p mcv : Nat), e = .returned (.tuple #[.pointer (some ⟨rb, 0, none⟩), .pointer (some ⟨p, 0, none⟩), .bool true]) ∧ Below w.heap.size w w' ∧ ProgAt w' p L st nc ∧ ReAt w' rb p (mpool L.length) mcv ∧ (2 ≤ mcv ∧ mcv ≤ 100000) ∧ ReX w' rb (scF L L.length st.toNat 0) long := by
  have hu24 := Tryd.underlying24
  have hm : L.length ≤ 2000 := by have := h.most; omega
  have hn0 : ((n : Int) != 0) = true := by rw [bne_iff_ne]; omega
  have hn2 : ((n : Int) != 2) = false := by rw [hn]; rfl
  have hi0 : decide ((i0 : Int) < 0) = false := decide_eq_false (by omega)
  have hi1 : decide ((s.size : Int) < (i0 : Int)) = false := decide_eq_false (by omega)
  have hnc1 := h.nc1
  have HS := Lib.hid h
  have HR := Lib.hid hr
  have HK := Lib.hid hK
  have HW := Lib.hid hW
  have HSZ := Lib.hid (hS.below hW)
  have HI := Lib.hid hi
  clear h hr hK hS hn hi hW
  go_enter Tryd.func34, Tryd.ntmps34
  go_wp2_with fail
  obtain ⟨gb, hgb⟩ : ∃ gb, gb = w.heap.size := ⟨_, rfl⟩
  have HB1 := Lib.hid (below_alloc (Below.refl w.heap.size w) (.cells #[.slice A L.length c0, .int .i64 st, .int .i64 nc] 24))
  have HW1 := Lib.hid (below_step HW.out HB1.out)
  rw [← hgb]
  clear hgb
  generalize w.alloc (.cells #[.slice A L.length c0, .int .i64 st, .int .i64 nc] 24) = w1 at *
  refine (prog_calls HS.out HR.out W0 w1 A c0 HK.out hc HW1.out).mono ?_
  rintro e w2 ⟨p, rfl, hlp, hpa, hb2⟩
  have HPA := Lib.hid hpa
  have HB2 := Lib.hid (below_step HB1.out hb2)
  clear hpa hb2 hlp
  go_wp2_with fail
  have HB3 := Lib.hid (below_alloc HB2.out (.cells #[.string ⟨#[]⟩] 9))
  have HPA3 := Lib.hid (HPA.out.below (below_alloc (Below.refl _ w2) (.cells #[.string ⟨#[]⟩] 9)))
  generalize w2.alloc (.cells #[.string ⟨#[]⟩] 9) = w3 at *
  refine (of_calls HS.out hm HS.out.op p w3 HPA3.out (HSZ.out.below HB3.out) _ 1 long).mono ?_
  rintro e w4 ⟨rb, mcv, rfl, hmc, hmc2, hrb, hre, hb4, hrx⟩
  obtain ⟨ncn, rfl⟩ : ∃ n : Nat, mcv = (n : Int) := ⟨mcv.toNat, by omega⟩
  have HQ := Lib.hid (And.intro hre (And.intro hb4 hrx))
  have HM := Lib.hid (show 2 ≤ ncn ∧ ncn ≤ 100000 by omega)
  clear hmc hmc2 hrb hre hb4 hrx
  go_wp2_with fail
  go_ret3
  exact ⟨rb, p, ncn, rfl, below_step HB3.out HQ.out.2.1, HPA3.out.below HQ.out.2.1, HQ.out.1, HM.out, HQ.out.2.2⟩
set_option maxRecDepth 100000 in
set_option maxHeartbeats 4000000 in
theorem pgthreads_calls {L : List I} {st nc : Int} (h : PSound L st nc 2000) (hr : ∀ i ∈ L, i.f3.length * 4 ≤ 140737488351232) (W0 w : World) (hW : Below W0.heap.size W0 w) (A : Option Addr) (c0 : Nat) (hK : Kd.C k29 W0 A L.length L) (hc : L.length ≤ c0) (hS : Sizes W0) (hF : Folds W0) (hT : Tabs W0)
    (s : ByteArray) (i0 : Nat) (hi : i0 ≤ s.size) (hsz : s.size ≤ 1000000) (hwk : L.length * (s.size + 1) ≤ 1048576) (long : Bool) (hlg : long = true) (n : Nat) (hn : n = 2) :
    Calls Tryd.prog 17 #[.agg #[.slice A L.length c0, .int .i64 st, .int .i64 nc], .bool long, .string s, .int .i64 (i0 : Int), .int .i64 (n : Int)] w fun e w' => ∃ v, e = .returned (.tuple #[v, .bool true]) ∧ Below w.heap.size w w' ∧ ThrV w w' (mF L st (scF L L.length st.toNat 0) long s i0 n).1 (mF L st (scF L L.length st.toNat 0) long s i0 n).2 v := by
  have hu24 := Tryd.underlying24
  have hcv : 0 ≤ scF L L.length st.toNat 0 ∧ scF L L.length st.toNat 0 < 64 ∨ scF L L.length st.toNat 0 = 255 := scF_255 h L.length st.toNat 0 (by have := h.st1; have := h.st0; omega) (by omega)
  have hu : ∀ w1, Below w.heap.size w w1 → _ := fun w1 hb => run_calls h hr W0 w1 (below_step hW hb) A c0 hK hc hS s i0 hi hsz long n hn
  have HU := Lib.hid hu
  have HS := Lib.hid h
  have HW := Lib.hid hW
  have HQ := Lib.hid (And.intro (hS.below hW) (And.intro (hF.below hW) (Utf8Tabs_below hT hW)))
  have HN := Lib.hid (And.intro hi (And.intro hwk (And.intro hcv hn)))
  have HLG := Lib.hid hlg
  clear h hr hK hS hF hT hn hi hwk hcv hu hW hlg
  go_enter Tryd.func17, Tryd.ntmps17
  go_wp2_with fail
  have HB1 := Lib.hid (below_alloc (Below.refl w.heap.size w) (.cells #[.slice A L.length c0, .int .i64 st, .int .i64 nc] 24))
  obtain ⟨gb, hgb⟩ : ∃ gb, gb = w.heap.size := ⟨_, rfl⟩
  rw [← hgb]
  clear hgb
  generalize w.alloc (.cells #[.slice A L.length c0, .int .i64 st, .int .i64 nc] 24) = w1 at *
  refine (HU.out w1 HB1.out).mono ?_
  rintro e w2 ⟨rb, p, mcv, rfl, hb2, hpa, hre, hmc, hrx⟩
  have HB2 := Lib.hid (below_step HB1.out hb2)
  have hth := zzthreads_calls HS.out p w2 hpa (HQ.out.1.below HB2.out) (HQ.out.2.1.below HB2.out) (Utf8Tabs_below HQ.out.2.2 HB2.out) s i0 HN.out.1 hsz HN.out.2.1 rb mcv hre hmc (scF L L.length st.toNat 0) long hrx HLG.out HN.out.2.2.1 n (by have := HN.out.2.2.2; omega) (by have := HN.out.2.2.2; omega)
  have HTH := Lib.hid hth
  clear hpa hre hrx hb2 hth HU
  go_wp2_with fail
  refine HTH.out.mono ?_
  rintro e w3 ⟨v, rfl, hb3, hv⟩
  have HV := Lib.hid (And.intro hb3 hv)
  clear hb3 hv HTH
  go_wp2_with fail
  have hz := HB2.out.size
  exact bodyPost_ret (v := .tuple #[v, .bool true]) (by simp [results, Tryd.results17, go_sem]) rfl ⟨v, rfl, below_step HB2.out HV.out.1, HV.out.2.1, fun e => ⟨(HV.out.2.2 e).1, (HV.out.2.2 e).2.mono fun i hi hs => ⟨⟨by omega, hs.2⟩, rfl⟩⟩⟩
end Go.Proofs.YteoljppcafakpaaDoor.PgFnPgSpan
namespace Go.Proofs.YteoljppcafakpaaDoor.PgFnPgSpan
open Go.RowKit Go.Proofs.YteoljppcafakpaaDoor.EvN Go.Proofs.YteoljppcafakpaaDoor.Row Go.Proofs.YteoljppcafakpaaDoor.Sf Go.Proofs.YteoljppcafakpaaDoor.PFnPgSpan Go.Proofs.YteoljppcafakpaaDoorW.PrintWords Go.Proofs.YteoljppcafakpaaDoorW.PrintLast Go.Proofs.YteoljppcafakpaaDoorW.PrintMore
set_option linter.unusedSimpArgs false
set_option linter.unusedVariables false
set_option maxRecDepth 100000 in
set_option maxHeartbeats 8000000 in
theorem law_calls {L : List I} {st nc : Int} (w : World) (A : Option Addr) (c : Nat) (hK : Kd.C k29 w A L.length L) (hc : L.length ≤ c) (s : ByteArray) (pos : Int) (hp : -9223372036854775808 ≤ pos ∧ pos ≤ 9223372036854775807) (hT : Tabs w) (hF : Folds w) (hSz : Sizes w) :
    Calls Tryd.prog 5 #[.agg #[.slice A L.length c, .int .i64 st, .int .i64 nc], .string s, .int .i64 pos] w fun e w' => e = .returned (.bool true) ∧ Below w.heap.size w w' := by
  have hu24 := Tryd.underlying24
  obtain ⟨kf, hkf⟩ := (ev_fits L st nc).get
  have HK := Lib.hid hK
  have HT := Lib.hid hT
  have HF := Lib.hid hF
  have HSZ := Lib.hid hSz
  have HPO := Lib.hid hp
  clear hK hT hF hSz hp
  go_enter Tryd.func5, Tryd.ntmps5
  go_wp2_with fail
  obtain ⟨gb, hgb⟩ : ∃ gb, gb = w.heap.size := ⟨_, rfl⟩
  have BK := Lib.hid (heap_alloc_new w (.cells #[.slice A L.length c, .int .i64 st, .int .i64 nc] 24))
  have HB1 := Lib.hid (below_alloc (Below.refl w.heap.size w) (.cells #[.slice A L.length c, .int .i64 st, .int .i64 nc] 24))
  have GB := Lib.hid (show w.heap.size ≤ gb by omega)
  rw [← hgb] at BK ⊢
  clear hgb
  generalize w.alloc (.cells #[.slice A L.length c, .int .i64 st, .int .i64 nc] 24) = w1 at *
  refine (laws_zzFits3.calls kf A c L st nc (fits L) w1 (Kd.C_below HK.out HB1.out) hc hkf).mono ?_
  rintro e w2 ⟨rfl, hb2⟩
  have HB2 := Lib.hid (below_step HB1.out hb2)
  have BK2 := Lib.hid (blk_below BK.out hb2)
  clear hb2 BK HB1 hkf
  cases hf : fits L with
  | false =>
    go_wp2_with fail
    go_ret
    exact ⟨rfl, HB2.out⟩
  | true =>
    have hfl : L.length ≤ 2147483647 ∧ ∀ i ∈ L, i.f3.length ≤ 2147483647 := by
      unfold fits at hf
      simp only [Bool.and_eq_true, decide_eq_true_eq, List.all_eq_true] at hf
      exact hf
    have HFL := Lib.hid hfl.2
    have hfl1 := hfl.1
    clear hfl hf
    by_cases hz : s.size > 2147483647
    · have hzd : decide (s.size > 2147483647) = true := decide_eq_true hz
      go_wp2_with fail
      go_ret
      exact ⟨rfl, HB2.out⟩
    · have hzd : decide ((2147483647 : Int) < (s.size : Int)) = false := decide_eq_false (by omega)
      by_cases hz1 : s.size > 1000
      · have hzd1 : decide (s.size > 1000) = true := decide_eq_true hz1
        go_wp2_with fail
        go_ret
        exact ⟨rfl, HB2.out⟩
      · have hzd1 : decide ((1000 : Int) < (s.size : Int)) = false := decide_eq_false (by omega)
        obtain ⟨hz0, hz1, hz2⟩ := blk3 BK2.out
        go_wp2_with fail
        refine (finep_calls hfl1 HFL.out s (by omega) pos 2 HPO.out w2 (Utf8Tabs_below HT.out HB2.out) A c (Kd.C_below HK.out HB2.out) hc).mono ?_
        rintro e w3 ⟨rfl, hb3⟩
        have HB3 := Lib.hid (below_step HB2.out hb3)
        have BK3 := Lib.hid (blk_below BK2.out hb3)
        clear hz0 hz1 hz2 hb3 BK2 HB2
        cases hfi : fineP L st nc s pos 2 with
        | false =>
          go_wp2_with fail
          go_ret
          exact ⟨rfl, HB3.out⟩
        | true =>
          unfold fineP at hfi
          simp only [Bool.and_eq_true] at hfi
          have hps : PSound L st nc 2000 := psnd_says hfi.1.1.2
          have hwk : L.length * (s.size + 1) ≤ 1048576 := of_decide_eq_true hfi.1.1.1.2
          obtain ⟨i0, rfl, hbd, hi0⟩ := bordB_Bd s pos _ 0 (Nat.zero_le _) .zero hfi.1.2
          have hm : L.length ≤ 2000 := by have := hps.most; omega
          obtain ⟨t, rfl⟩ : ∃ t : Nat, st = (t : Int) := ⟨st.toNat, by have := hps.st0; omega⟩
          have ht1 : t < L.length := by have := hps.st1; omega
          have hsz : s.size ≤ 1000 := by omega
          obtain ⟨sp1, sp2⟩ := span_says hps s i0 hbd hi0
          have hcall := pgthreads_calls hps (fun i hi => by have := HFL.out i hi; omega) w w3 HB3.out A c HK.out hc HSZ.out HF.out HT.out s i0 hi0 (by omega) hwk true rfl 2 rfl
          rw [Int.toNat_natCast] at hcall
          generalize mF L (t : Int) (scF L L.length t 0) true s i0 2 = X at sp1 sp2 hcall
          have HCALL := Lib.hid hcall
          have HSP := Lib.hid (And.intro sp1 sp2)
          have HPS := Lib.hid hps
          clear hps hfi hz hzd hzd1 hcall sp1 sp2 hwk hbd HPO hfl1
          obtain ⟨hz0, hz1, hz2⟩ := blk3 BK3.out
          have lb := blk_lt BK3.out
          obtain ⟨Bs, hBs⟩ : ∃ Bs, Bs = bordF s (s.size + 1) 0 := ⟨_, rfl⟩
          have hBl : Bs.length ≤ 1002 := by rw [hBs]; have := bordF_len s (s.size + 1) 0; omega
          rw [← hBs] at HSP
          have HBs := Lib.hid hBs
          have HDL := Lib.hid (show (dI Bs).length = Bs.length by unfold dI; rw [List.length_map])
          clear hBs
          go_wp2_with fail
          refine HCALL.out.mono ?_
          rintro e w4 ⟨v, rfl, hb4, hv⟩
          have HV := Lib.hid hv
          have HB4 := Lib.hid (below_step HB3.out hb4)
          have BK4 := Lib.hid (blk_below BK3.out hb4)
          clear hz0 hz1 hz2 hb4 hv HCALL HB3 BK3
          go_wp2_with fail
          refine (borders_calls s w4 (by omega) (Utf8Tabs_below HT.out HB4.out)).mono ?_
          rintro e w5 ⟨lv, rfl, hrow, hb5⟩
          rw [← HBs.out] at hrow
          obtain ⟨AB, cB, rfl, hcB, hkB⟩ := rowAt_kd (l := dI Bs) (enc := Value.int .i64) (h1 := fun _ => rfl) (by unfold dI; rw [List.map_map]; exact hrow)
          have HKB := Lib.hid hkB
          have HB5 := Lib.hid hb5
          have BK5 := Lib.hid (blk_below BK4.out hb5)
          rw [HDL.out] at hcB ⊢
          clear hrow hb5 hkB BK4
          go_wp2_with fail
          go_loopg [42] Bs.length (fun gk s42 wr => ∃ (k : Nat), Hid (gk + k = Bs.length ∧ Below w5.heap.size w5 wr ∧ ∀ (j a : Nat), j < k → Bs[j]? = some a → i0 ≤ a → endsAt L t s a = []) ∧ k ≤ Bs.length ∧ s42 = .int .i64 k)
          case atStart => exact ⟨0, ⟨by omega, Below.refl _ w5, fun j a hj => by omega⟩, Nat.zero_le _, rfl⟩
          case round =>
            obtain ⟨k, HI, hk, rfl⟩ := hrel
            by_cases hlt : k < Bs.length
            · have hd1 : decide (k < Bs.length) = true := decide_eq_true hlt
              obtain ⟨adB, hAB, hat⟩ := kd_cell HKB.out HI.out.2.1 k (by rw [HDL.out]; exact hlt)
              obtain ⟨i, hi⟩ : ∃ i, i = Bs[k] := ⟨_, rfl⟩
              have hbk : (dI Bs)[k]'(by rw [HDL.out]; exact hlt) = (i : Int) := by unfold dI; rw [List.getElem_map, hi]
              rw [hbk] at hat
              subst hAB
              have his : i ≤ s.size := bordF_le s _ 0 (Nat.zero_le _) i (by rw [← HBs.out, hi]; exact List.getElem_mem hlt)
              have HBI := Lib.hid (show Bs[k]? = some i by rw [hi]; exact List.getElem?_eq_getElem hlt)
              obtain ⟨hz0, hz1, hz2⟩ := blk3 (blk_below BK5.out HI.out.2.1)
              have HBW := Lib.hid (below_step (below_step HB4.out HB5.out) HI.out.2.1)
              have hcall := ends_calls HPS.out hm (fun i hi => by have := HFL.out i hi; omega) HPS.out.op w wr A c HK.out HBW.out s (by omega) i his HT.out HF.out
              rw [Int.toNat_natCast] at hcall
              have HEC := Lib.hid hcall
              clear hcall hi hbk
              go_wp2_with fail
              refine HEC.out.mono ?_
              rintro e w6 ⟨lv, rfl, hrow, hb6⟩
              obtain ⟨Ed, hEd⟩ : ∃ Ed, Ed = endsAt L t s i := ⟨_, rfl⟩
              rw [show endsF L s (s.size + 2 - i) [t] (lastR s i) i = Ed from hEd.symm] at hrow
              have hEl : Ed.length ≤ 1002 := by rw [hEd]; exact Nat.le_trans (endsF_len L s _ _ _ _) (by omega)
              have HED := Lib.hid hEd
              have HROW := Lib.hid hrow
              obtain ⟨AE, cE, rfl, hcE, hkE⟩ := rowAt_kd (l := dI Ed) (enc := Value.int .i64) (h1 := fun _ => rfl) (by unfold dI; rw [List.map_map]; exact hrow)
              have hdl : (dI Ed).length = Ed.length := by unfold dI; rw [List.length_map]
              have HKE := Lib.hid hkE
              have HB6 := Lib.hid (below_step HI.out.2.1 hb6)
              have HDE := Lib.hid hdl
              rw [hdl] at hcE ⊢
              clear hEd hrow hkE hb6 hdl HEC hz0 hz1 hz2 hat
              by_cases hge : i0 ≤ i
              · have hg1 : decide ((i : Int) ≥ (i0 : Int)) = true := decide_eq_true (by omega)
                by_cases hem : Ed = []
                · subst hem
                  have hl0 : decide (0 < ([] : List Nat).length) = false := rfl
                  go_wp2_with fail
                  go_roundg (gk - 1)
                  case measure => have := HI.out.1; omega
                  case rel => exact ⟨k + 1, ⟨by have := HI.out.1; omega, HB6.out, fun j a hj ha hia => by
                    by_cases hjk : j = k
                    · subst hjk
                      rw [HBI.out] at ha
                      cases ha
                      exact HED.out.symm
                    · exact HI.out.2.2 j a (by omega) ha hia⟩, by omega, by go_num⟩
                · have hl0 : decide (0 < Ed.length) = true := decide_eq_true (List.length_pos_iff.2 hem)
                  have HEM := Lib.hid hem
                  go_upto_region 13 with (fail)
                  obtain ⟨m1, M⟩ := X
                  cases m1 with
                  | false => exact absurd (by rw [HED.out]; exact HSP.out.2 rfl i (List.mem_of_getElem? HBI.out) hge) hem
                  | true =>
                    obtain ⟨a, b, hM, ha, hia, hb, hmin, hmax⟩ := HSP.out.1 rfl
                    have hai : a = i := by
                      have h1 := hmin i (List.mem_of_getElem? HBI.out) hge (by rw [← HED.out]; exact hem)
                      obtain ⟨j, hj⟩ := List.mem_iff_getElem?.1 ha
                      rcases Nat.lt_trichotomy j k with h2 | h2 | h2
                      · have := HI.out.2.2 j a h2 hj hia
                        rw [this] at hb
                        cases hb
                      · subst h2
                        rw [HBI.out] at hj
                        cases hj; rfl
                      · have hp := bordF_lt s (s.size + 1) 0
                        rw [← HBs.out] at hp
                        have h3 := (List.getElem?_eq_some_iff.1 hj)
                        have h4 := (List.getElem?_eq_some_iff.1 HBI.out)
                        have h5 := List.pairwise_iff_getElem.1 hp k j h4.1 h3.1 h2
                        rw [h4.2, h3.2] at h5
                        omega
                    subst hai
                    have hlast : Ed[Ed.length - 1]? = some b := by
                      have hpos := List.length_pos_iff.2 hem
                      rw [← HED.out] at hb hmax
                      obtain ⟨j, hj⟩ := List.mem_iff_getElem?.1 hb
                      have h3 := (List.getElem?_eq_some_iff.1 hj)
                      have h31 := h3.1
                      have hx : Ed[Ed.length - 1]? = some (Ed[Ed.length - 1]'(by omega)) := List.getElem?_eq_getElem (by omega)
                      by_cases hjl : j = Ed.length - 1
                      · rw [← hjl]; exact hj
                      · have hp := endsF_lt L s (s.size + 2 - a) [t] (lastR s a) a
                        have h6 : (endsAt L t s a).Pairwise (· < ·) := hp
                        rw [← HED.out] at h6
                        have h5 := List.pairwise_iff_getElem.1 h6 j (Ed.length - 1) h3.1 (by omega) (by omega)
                        have h7 := hmax _ (List.getElem_mem (show Ed.length - 1 < Ed.length by omega))
                        rw [h3.2] at h5
                        omega
                    obtain ⟨_, hvr⟩ := HV.out.2 rfl
                    replace hM : M = [(a : Int), (b : Int)] := hM
                    subst hM
                    obtain ⟨g, cap, hv, _, hn2, hcap, _, hcx⟩ := hvr.cell (by simp)
                    obtain ⟨g2, cap2, hv2, _, hn3, hcap3, _, hcy⟩ := HROW.out.cell (by unfold iv; simpa using hem)
                    have hv3 : v = .slice (some ⟨g, 0, none⟩) 2 cap := hv
                    have HW46 := Lib.hid (below_step HB5.out HB6.out)
                    have hc0 : w6.cell? ⟨g, 0, none⟩ = some (.int .i64 (a : Int)) := (HW46.out.cell (World.block_lt_of_cell? w4 _ (hcx 0 (by simp)))).trans (hcx 0 (by simp))
                    have hc1 : w6.cell? ⟨g, 1, none⟩ = some (.int .i64 (b : Int)) := (HW46.out.cell (World.block_lt_of_cell? w4 _ (hcx 1 (by simp)))).trans (hcx 1 (by simp))
                    obtain ⟨q, hq⟩ : ∃ q, Ed.length = q + 1 := ⟨Ed.length - 1, by have := List.length_pos_iff.2 hem; omega⟩
                    have hivl : (iv Ed).length = Ed.length := by unfold iv; simp
                    have hc2 : w6.cell? ⟨g2, q, none⟩ = some (.int .i64 (b : Int)) := by
                      rw [hcy q (by rw [hivl]; omega)]
                      have h1 : Ed[q]? = some b := by rw [hq] at hlast; exact hlast
                      have h2 := (List.getElem?_eq_some_iff.1 h1).2
                      unfold iv
                      rw [List.getElem_map, h2]
                    have hAE : AE = some ⟨g2, 0, none⟩ := by
                      injection hv2
                    subst hAE
                    subst hv3
                    have hcE2 : q + 1 ≤ cE := by omega
                    have e0 : (((a : Nat) : Int) == ((a : Nat) : Int)) = true := beq_self_eq_true _
                    have e1 : (((b : Nat) : Int) == ((b : Nat) : Int)) = true := beq_self_eq_true _
                    clear HV HROW HSP hv hv2 hvr hcx hcy hn2 hn3 hcap hcap3 hlast hem HEM hl0 hcE hivl HKE HDE hmin hmax hb ha
                    rw [hq] at hEl ⊢
                    clear hq HED
                    go_quiet (fail)
                    go_wp2_with fail
                    go_ret
                    exact ⟨rfl, pw_below_drewN (below_step (below_step HB4.out HB5.out) HB6.out) _⟩
              · have hg1 : decide ((i : Int) ≥ (i0 : Int)) = false := decide_eq_false (by omega)
                go_wp2_with fail
                go_roundg (gk - 1)
                case measure => have := HI.out.1; omega
                case rel => exact ⟨k + 1, ⟨by have := HI.out.1; omega, HB6.out, fun j a hj ha hia => by
                  by_cases hjk : j = k
                  · subst hjk
                    rw [HBI.out] at ha
                    cases ha
                    exact absurd hia hge
                  · exact HI.out.2.2 j a (by omega) ha hia⟩, by omega, by go_num⟩
            · have hd1 : decide (k < Bs.length) = false := decide_eq_false hlt
              obtain ⟨m1, M⟩ := X
              cases m1 with
              | true =>
                exfalso
                obtain ⟨a, b, hM, ha, hia, hb, _⟩ := HSP.out.1 rfl
                obtain ⟨j, hj⟩ := List.mem_iff_getElem?.1 ha
                have := HI.out.2.2 j a (by have := (List.getElem?_eq_some_iff.1 hj).1; omega) hj hia
                rw [this] at hb
                cases hb
              | false =>
                obtain rfl : v = .slice none 0 0 := HV.out.1 rfl
                have hnil : ∀ w : World, (binOp .eql 32 (.slice none 0 0) (.slice none 0 0)).run Tryd.prog w = .ok (.bool true) w := fun w => Lib.run_eql_slice_nil w _ _ none 0 0 0 0 Tryd.underlying32
                go_wp2_with fail
                go_ret
                exact ⟨rfl, below_step (below_step HB4.out HB5.out) HI.out.2.1⟩
end Go.Proofs.YteoljppcafakpaaDoor.PgFnPgSpan
namespace Go.Proofs.YteoljppcafakpaaDoor.fnPgSpan
open Go.ChangeShapes Go.WideShapes Go.ChangeAt Go.RowKit Go.Proofs.YteoljppcafakpaaDoor.PoFnPgSpan Go.Proofs.YteoljppcafakpaaDoor.PFnPgSpan Go.Proofs.YteoljppcafakpaaDoor.PgFnPgSpan Go.Proofs.YteoljppcafakpaaDoor.Sf Go.Proofs.YteoljppcafakpaaDoorW.PrintWords
open Go.ChangeMaps (open_string shut_string)
set_option linter.unusedVariables false
theorem own : ownKnob Tryd.prog.godebug = none := by kernel_rfl
theorem laidOut : laidOutB Tryd.prog = true := by kernel_rfl
theorem first_data : (Rows.laid_unicode_utf8_first : DataW Unit) = Lib.firstData := by kernel_rfl
theorem accept_data : (Rows.laid_unicode_utf8_acceptRanges : DataW Unit) = Lib.acceptData := by kernel_rfl
theorem extra : U8Extra Tryd.prog Tryd.lays260_ren := ⟨by kernel_rfl, by kernel_rfl, by kernel_rfl, by kernel_rfl, by kernel_rfl, by kernel_rfl, by kernel_rfl⟩
theorem msz_data : (Rows.laid_pub_searce_pub_regexp_matchSize : DataW Unit) = Lib.tabData .i64 msz := by kernel_rfl
theorem sizes_of_reads {w : World} (h : Lib.VarReads Tryd.prog w "pub-searce/pub/regexp.matchSize" Rows.laid_pub_searce_pub_regexp_matchSize) : Sizes w := by
  intro r hr
  obtain ⟨g, t, cs, fuel, p, hg, hty, hvar, hd⟩ := h
  rw [msz_data] at hd
  obtain rfl := Option.some.inj ((show Tryd.prog.globalNamed "pub-searce/pub/regexp.matchSize" = some 0 by kernel_rfl).symm.trans hg)
  obtain rfl := Option.some.inj ((show (Tryd.prog.globals[0]?).map (·.type) = some 163 by kernel_rfl).symm.trans hty)
  have hcs := Lib.cells_of_tab Tryd.underlying163 Tryd.underlying3 (by kernel_rfl) (by kernel_rfl) hd
  rw [World.var?_cell hg hvar r, ← Array.getElem?_toList, hcs]
  have hl : msz.length = 5 := rfl
  rw [List.getElem?_map, List.getElem?_eq_getElem (by omega), List.getD_eq_getElem?_getD, List.getElem?_eq_getElem (by omega)]; rfl
theorem laid_says {W : World} (h : laidMetH Tryd.prog Rows.fnPgSpanRow.laid W) : Tabs W ∧ Folds W ∧ Sizes W := by
  rw [MakeChecks.laidMetH_plain _ _ _ (by kernel_rfl)] at h
  have h0 : laidMet Tryd.prog Rows.fnPgSpanRow.laid W := h
  refine ⟨?_, folds_of_reads (Lib.laidMet.reads h0 (by simp [Rows.fnPgSpanRow])) (Lib.laidMet.reads h0 (by simp [Rows.fnPgSpanRow])) (Lib.laidMet.reads h0 (by simp [Rows.fnPgSpanRow])), sizes_of_reads (Lib.laidMet.reads h0 (by simp [Rows.fnPgSpanRow]))⟩
  have h1 : Lib.VarReads Tryd.prog W "unicode/utf8.first" Rows.laid_unicode_utf8_first := Lib.laidMet.reads h0 (by simp [Rows.fnPgSpanRow])
  have h2 : Lib.VarReads Tryd.prog W "unicode/utf8.acceptRanges" Rows.laid_unicode_utf8_acceptRanges := Lib.laidMet.reads h0 (by simp [Rows.fnPgSpanRow])
  rw [first_data] at h1
  rw [accept_data] at h2
  exact utf8Tabs_of_reads Tryd.lays260 extra h1 h2
theorem arg_prog {H : Type} {enc : TypeId × Value → H} {W : World} {v : Value} {d : DataW H} {p : List MemPlace} (h : DataW.Trod enc Tryd.prog W 0 (fun _ => true) true 24 v d p) :
    ∃ (A : Option Addr) (c : Nat) (L : List S29) (st nc : Int), v = .agg #[.slice A L.length c, .int .i64 st, .int .i64 nc] ∧ L.length ≤ c ∧ Kd.C k29 W A L.length L := by
  obtain ⟨fuel, hf⟩ := h
  obtain ⟨A, c, L, st, nc, e, hl, hK⟩ := prog_open fuel hf
  refine ⟨A, c, L, st, nc, ?_, hl, hK⟩
  have e2 : v.cells.toList = _ := e
  cases v <;> simp [Value.cells] at e2
  rw [← e2]
set_option maxRecDepth 100000 in
theorem lifted (os : Os) (started : os.Started) (H : Type) (enc : TypeId × Value → H) :
    ReturnsInHanded {} Tryd.checked os 5 .any (fun w args => (Rows.fnPgSpanSpec.pre enc Tryd.prog Tryd.f5 Rows.fnPgSpanRow.domain false w args ∧ laidMetH Tryd.prog Rows.fnPgSpanRow.laid w) ∧ sizedMet enc Tryd.prog Tryd.f5 (OpenSpec.ofChange Rows.fnPgSpanSpec) false w args)
      (Rows.fnPgSpanSpec.post enc Tryd.prog Tryd.f5 false true false false) := by
  refine returnsInHanded_of_change_and (C := Tryd.checked) (X := fun w _ => laidMetH Tryd.prog Rows.fnPgSpanRow.laid w) (fun _ _ _ hh h => h.of_heap hh) own started (by kernel_rfl) Tryd.func5
    (ChangeSpec.witness_shaped (enc := enc) (C := Tryd.checked) (os := os) (X := fun w _ => laidMetH Tryd.prog Rows.fnPgSpanRow.laid w) false (World.laidAll Tryd.prog os Rows.fnPgSpanRow.laid) #[.agg #[.slice none 0 0, .int .i64 0, .int .i64 0], .string ByteArray.empty, .int .i64 0] 8 (World.laidAll_os _ _ _)
      (World.shaped_of_ZipB (by kernel_rfl) (by kernel_rfl)) (by kernel_rfl) (by kernel_rfl) (by kernel_rfl)
      (by rw [MakeChecks.laidMetH_plain _ _ _ (by kernel_rfl)]; exact laidMet_laidAll _ (by kernel_rfl) (by kernel_rfl))) ?_
  intro W base args ds gs before hval0 hW hcnd _ hL _
  have hval : ∀ (j : Nat) t v, Tryd.f5.params[j]? = some t → args[j]? = some v → Value.okWide Tryd.prog W .any base t v := hval0
  have hW' := hW
  obtain ⟨p, q, hA0, hV, rfl, hfz, hnd⟩ := hW
  have hA : DataW.TrodAll enc Tryd.prog W 0 (fun _ => true) true Tryd.f5.params.toList args.toList ds p := hA0
  rw [Tryd.params5] at hA hval
  obtain ⟨v0, vs0, d0, ds0, p0, q0, hargs, rfl, rfl, h0, r0⟩ := trodAll_cons hA
  obtain ⟨v1, vs1, d1, ds1, p1, q1, rfl, rfl, rfl, h1, r1⟩ := trodAll_cons r0
  obtain ⟨v2, vs2, d2, ds2, p2, q2, rfl, rfl, rfl, h2, r2⟩ := trodAll_cons r1
  obtain ⟨rfl, rfl, rfl⟩ := trodAll_nil r2
  obtain rfl : args = #[v0, v1, v2] := by cases args; simp_all
  obtain ⟨rfl, rfl⟩ := trodVars_none hV
  obtain ⟨s, rfl, rfl, rfl, ws⟩ := open_string Tryd.underlying9 (hval 1 9 v1 rfl rfl) h1
  obtain ⟨x2, rfl, rfl, rfl, wx2⟩ := open_int Tryd.underlying3 (hval 2 3 v2 rfl rfl) h2
  have k0 := h0
  have lt0 : ∀ x ∈ p0, x.block < W.heap.size := by obtain ⟨m, hm⟩ := k0; exact DataW.trod_lt m _ _ _ hm
  obtain ⟨A0, c0, L, st, nc, rfl, hl0, hK0⟩ := arg_prog h0
  obtain ⟨hTB, hFD, hSZ⟩ := laid_says hL
  have hx2 : -9223372036854775808 ≤ x2 ∧ x2 ≤ 9223372036854775807 := by
    have h : IntKind.i64.min ≤ x2 ∧ x2 ≤ 9223372036854775807 := by simpa [Lit.wf] using wx2
    have e : IntKind.i64.min = -9223372036854775808 := by decide
    omega
  clear hA0 hval0 hval
  refine (law_calls W A0 c0 hK0 hl0 s x2 hx2 hTB hFD hSZ).mono fun e W' ⟨he, bel⟩ => ?_
  subst he
  exact ⟨_, rfl, _, _, _, [], _, [], hW', trodAll_mk1 (shut_bool Tryd.underlying4 _), (trodAll_cons_mk (Below.trod laidOut (by kernel_rfl) (of_decide_eq_true (by kernel_rfl)) k0 bel lt0) (trodAll_cons_mk (shut_string Tryd.underlying9 ws) (trodAll_cons_mk (shut_int Tryd.underlying3 wx2) trodAll_mk0))), rfl, bel.frame _, fun h => by cases h⟩
theorem over : Rows.fnPgSpanRow.holds Tryd.pinned (OpenSpec.ofChange Rows.fnPgSpanSpec) :=
  OpenClaim.holds_of_wide 5 Tryd.f5 rfl rfl rfl rfl rfl rfl rfl ⟨rfl, rfl, rfl, rfl, rfl⟩ rfl rfl rfl rfl rfl (by kernel_rfl) Tryd.func5 (by kernel_rfl)
    (of_decide_eq_true (by kernel_rfl)) (by unfold Func.isWrapper; first | (rw [if_pos (by decide +kernel)]; kernel_rfl) | (rw [if_neg (by decide +kernel)]; exact ⟨rfl, rfl⟩))
    (fun os started H enc _ => lifted os started H enc)
end Go.Proofs.YteoljppcafakpaaDoor.fnPgSpan
namespace Go.Proofs.YteoljppcafakpaaDoor
open Go.ChangeShapes Go.WideShapes Go.ChangeAt Go.RowKit
theorem fnPgSpan_card : Rows.FnPgSpanCardSaid :=
  Claim7.holds_tied_plain_at .later [] [.data, .data, .data, .data, .pinned, .pinned] true (true, "8dfcac6fdb26901e0359ae2b5ce616577dea012875e254e14c1872422586cd18") false fnPgSpan.over (fun _ h => by cases h) (by kernel_rfl) (fun _ h => by cases h) fnPgSpan_row_tie rfl ⟨rfl, rfl⟩ (by kernel_rfl) rfl
    (fun f fn hf hfn => by
      obtain rfl : f = 5 := Option.some.inj ((show Tryd.prog.funcNamed "pub-searce/laws.FnPgSpan" = some 5 by kernel_rfl).symm.trans hf) |>.symm
      obtain rfl : fn = Tryd.f5 := (Option.some.inj (Tryd.func5.symm.trans hfn)).symm
      exact ⟨by kernel_rfl, fun j t ht => by
        rw [Tryd.params5] at ht
        have hm : t ∈ [24, 9, 3] := by simpa using Array.mem_of_getElem? ht
        have hall : ([24, 9, 3].all fun u => !Tryd.prog.wantsStandIn u) = true := by kernel_rfl
        exact (show Tryd.prog.wantsStandIn t = false by simpa using List.all_eq_true.1 hall t hm)⟩)
    (by kernel_rfl)
#print axioms fnPgSpan_card
end Go.Proofs.YteoljppcafakpaaDoor
