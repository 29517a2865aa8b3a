import Derived.Test.YtmccgfjhmbioeaaDoorVxFnPgThreads
import Derived.Laws.AppendOwnNone
import Derived.Test.YtmccgfjhmbioeaaDoorJxFnPgThreads
import Derived.Test.YtmccgfjhmbioeaaDoorSxFnPgThreads
import Derived.Test.YtmccgfjhmbioeaaDoorTgFnPgThreads
import Derived.Test.YtmccgfjhmbioeaaDoorVeFnPgThreads
import Derived.Test.YtmccgfjhmbioeaaDoorCbFnPgThreads
import Derived.StillTailTactics
namespace Go.Proofs.YtmccgfjhmbioeaaDoor.PgFnPgThreads
open Go.RowKit Go.Proofs.YtmccgfjhmbioeaaDoor.EvN Go.Proofs.YtmccgfjhmbioeaaDoor.Row Go.Proofs.YtmccgfjhmbioeaaDoor.PFnPgThreads Go.Proofs.YtmccgfjhmbioeaaDoorW.PrintWords Go.Proofs.YtmccgfjhmbioeaaDoorW.PrintLast Go.Proofs.YtmccgfjhmbioeaaDoorW.PrintMore
set_option linter.unusedSimpArgs false
set_option linter.unusedVariables false
theorem appm {P : Program} {w : World} {ops : Array Oper} {rest : List Oper} {o : Oper} {a : Act} {Q : Exit → Act → World → Prop} (hgd : o.guard = none) (s x : Operand) (t : TypeId)
    (ho : o.op = .call { callee := .builtin .append, args := #[s, x], argTypes := #[t, t] })
    (e : TypeId) (z : Value) (bytes : Nat) (ht : P.underlying t = some (.slice e)) (hinfo : (P.info? e).map (fun i => (i.zero, i.size, i.bytes)) = some (some z, 1, bytes)) (hz1 : z.cells.size = 1)
    (v : Value) (n : Nat) (xs : List Value) (hs : a.eval s = v) (B : Nat) (w0 : World) (hown : w.ownsRow B e 1 v n xs) (hB : Below B w0 w) (hBw : B ≤ w0.heap.size)
    (vx : Value) (S : Nat → Prop) (news : List Value) (hx : a.eval x = vx) (hrow : RowAt w S e vx news) (h1 : ∀ u ∈ news, u.oneCell' = true)
    (hbytes : (n + news.length) * bytes ≤ 140737488355328) (hn : n + news.length ≤ maxLen)
    (h : ∀ v' w', Hid (w'.ownsRow B e 1 v' (n + news.length) (xs ++ news)) → Hid (Below B w0 w') → Hid (w.grownBy w' v.ownBlock) → wpList P ops Q rest (a.put o.dst v') w') : wpList P ops Q (o :: rest) a w := by
  obtain ⟨i, hi, hz, hsize, hby⟩ := info_parts hinfo
  rcases hrow with ⟨rfl, rfl⟩ | ⟨g, cap, cur, rfl, _, hg, k1, k2, k3, k4⟩
  · refine wpList_append_own_none hgd s x t ho B e i 1 ht hi v n xs hs hown hx ?_
    exact h v w (Lib.hid (by simpa using hown)) (Lib.hid hB) (Lib.hid (grown_refl w _))
  · refine wpList_append_own w hgd s x t ho B e i z 1 bytes ht hi hz hsize hby hz1 (by decide) v n xs hs hown ⟨g, 0, none⟩ news.length cap news hx (by omega) ?_ h1 hn hbytes (Nat.le_trans hBw hB.size) ?_
    · intro j u hj
      have e1 : (⟨g, 0, none⟩ : Addr).add j = ⟨g, j, none⟩ := by unfold Addr.add; split <;> simp_all
      rw [e1, blk_cell hg j, ← Array.getElem?_toList]
      have hjl : j < news.length := (List.getElem?_eq_some_iff.1 hj).1
      rw [← hj, ← k4, List.getElem?_take_of_lt hjl]
    · intro v' w' hown' hgrow _
      exact h v' w' hown' (hB.grown hgrow (Nat.le_trans hBw hB.size) (fun k hk => (hown.lt k hk).1)) hgrow
theorem appmn {P : Program} {w : World} {ops : Array Oper} {rest : List Oper} {o : Oper} {a : Act} {Q : Exit → Act → World → Prop} (hgd : o.guard = none) (s x : Operand) (t : TypeId)
    (ho : o.op = .call { callee := .builtin .append, args := #[s, x], argTypes := #[t, t] })
    (e : TypeId) (z : Value) (bytes : Nat) (ht : P.underlying t = some (.slice e)) (hinfo : (P.info? e).map (fun i => (i.zero, i.size, i.bytes)) = some (some z, 1, bytes)) (hz1 : z.cells.size = 1)
    (v : Value) (n : Nat) (xs : List Value) (hs : a.eval s = v) (B : Nat) (w0 : World) (hown : w.ownsRow B e 1 v n xs) (hB : Below B w0 w) (hBw : B ≤ w0.heap.size)
    (vx : Value) (S : Nat → Prop) (news : List Value) (hx : a.eval x = vx) (hrow : RowAt w S e vx news) (h1 : ∀ u ∈ news, u.oneCell' = true)
    (hbytes : (n + news.length) * bytes ≤ 140737488355328) (hn : n + news.length ≤ maxLen)
    (h : ∀ v' w', Hid (w'.ownsRow B e 1 v' (n + news.length) (xs ++ news)) → Hid (Below B w0 w') → Hid (w.grownBy w' v.ownBlock) → Hid (v ≠ .slice none 0 0 → v' ≠ .slice none 0 0) → wpList P ops Q rest (a.put o.dst v') w') : wpList P ops Q (o :: rest) a w := by
  obtain ⟨i, hi, hz, hsize, hby⟩ := info_parts hinfo
  rcases hrow with ⟨rfl, rfl⟩ | ⟨g, cap, cur, rfl, _, hg, k1, k2, k3, k4⟩
  · refine wpList_append_own_none hgd s x t ho B e i 1 ht hi v n xs hs hown hx ?_
    exact h v w (Lib.hid (by simpa using hown)) (Lib.hid hB) (Lib.hid (grown_refl w _)) (Lib.hid id)
  · refine wpList_append_own w hgd s x t ho B e i z 1 bytes ht hi hz hsize hby hz1 (by decide) v n xs hs hown ⟨g, 0, none⟩ news.length cap news hx (by omega) ?_ h1 hn hbytes (Nat.le_trans hBw hB.size) ?_
    · intro j u hj
      have e1 : (⟨g, 0, none⟩ : Addr).add j = ⟨g, j, none⟩ := by unfold Addr.add; split <;> simp_all
      rw [e1, blk_cell hg j, ← Array.getElem?_toList]
      have hjl : j < news.length := (List.getElem?_eq_some_iff.1 hj).1
      rw [← hj, ← k4, List.getElem?_take_of_lt hjl]
    · intro v' w' hown' hgrow hnil
      exact h v' w' hown' (hB.grown hgrow (Nat.le_trans hBw hB.size) (fun k hk => (hown.lt k hk).1)) hgrow (Lib.hid fun hv e => hv (hnil.1 e).1)
theorem own_zero {w : World} {B g : Nat} {e : TypeId} (hg : w.heap[g]? = some (.cells #[] e (0, 0))) (hB : B ≤ g) : w.ownsRow B e 1 (.slice (some ⟨g, 0, none⟩) 0 0) 0 [] :=
  ⟨by simp, .inr ⟨g, 0, #[], rfl, hB, hg, by omega, by unfold maxLen; omega, by simp, by simp⟩⟩
theorem CapAt.row {w : World} {n cc cb : Nat} {C : List Int} {S : Nat → Prop} (h : CapAt w n cc cb C) (hS : S cb) (hc : cc ≤ 100000) : RowAt w S 3 (.slice (some ⟨cb, 0, none⟩) n cc) (C.map (Value.int .i64)) := by
  obtain ⟨r, h1, h2, h3⟩ := h
  subst h2
  exact .inr ⟨cb, cc, _, by rw [List.length_map], hS, h1, by rw [List.length_map]; omega, by unfold maxLen; omega, by simp; omega, by simp⟩
end Go.Proofs.YtmccgfjhmbioeaaDoor.PgFnPgThreads
namespace Go.Proofs.YtmccgfjhmbioeaaDoor.PgFnPgThreads
open Go Go.Lib Go.RowKit
set_option linter.unusedVariables false
set_option linter.unusedSimpArgs false
set_option maxRecDepth 100000 in
set_option maxHeartbeats 2000000 in
theorem dN2 (n b0 b1 b2 b3 : Nat) (h : (decodeN n b0 b1 b2 b3).2 = 2) : decodeN 2 b0 b1 0 0 = decodeN n b0 b1 b2 b3 ∧ b1 / 64 = 2 ∧ b0 / 64 ≠ 2 ∧ 2 ≤ n := by
  unfold decodeN at h ⊢
  repeat' split at h
  all_goals first
    | (exfalso; simp only at h; omega)
    | (simp_all; omega)
set_option maxRecDepth 100000 in
set_option maxHeartbeats 2000000 in
theorem dN3 (n b0 b1 b2 b3 : Nat) (h : (decodeN n b0 b1 b2 b3).2 = 3) : decodeN 3 b0 b1 b2 0 = decodeN n b0 b1 b2 b3 ∧ b1 / 64 = 2 ∧ b2 / 64 = 2 ∧ b0 / 64 ≠ 2 ∧ 3 ≤ n := by
  unfold decodeN at h ⊢
  repeat' split at h
  all_goals first
    | (exfalso; simp only at h; omega)
    | (simp_all; omega)
set_option maxRecDepth 100000 in
set_option maxHeartbeats 2000000 in
theorem dN4 (n b0 b1 b2 b3 : Nat) (h : (decodeN n b0 b1 b2 b3).2 = 4) : decodeN 4 b0 b1 b2 b3 = decodeN n b0 b1 b2 b3 ∧ b1 / 64 = 2 ∧ b2 / 64 = 2 ∧ b3 / 64 = 2 ∧ b0 / 64 ≠ 2 ∧ 4 ≤ n := by
  unfold decodeN at h ⊢
  repeat' split at h
  all_goals first
    | (exfalso; simp only at h; omega)
    | (simp_all; omega)
theorem dN_w (n b0 b1 b2 b3 : Nat) : (decodeN n b0 b1 b2 b3).2 = 1 ∨ (decodeN n b0 b1 b2 b3).2 = 2 ∨ (decodeN n b0 b1 b2 b3).2 = 3 ∨ (decodeN n b0 b1 b2 b3).2 = 4 := by
  unfold decodeN
  repeat' split
  all_goals simp
theorem dN1 (n b0 b1 b2 b3 : Nat) (h : (decodeN n b0 b1 b2 b3).2 = 1) (h0 : 128 ≤ b0) : decodeN n b0 b1 b2 b3 = (65533, 1) := by
  revert h
  unfold decodeN
  repeat' split
  all_goals first
    | (intro _; rfl)
    | (intro h; exfalso; simp only at h; omega)
inductive Bd (s : ByteArray) : Nat → Prop
  | zero : Bd s 0
  | next {i : Nat} : Bd s i → i < s.size → Bd s (i + (Utf8.decode s i).2)
theorem dec_cont (s : ByteArray) (i k : Nat) (h1 : 1 ≤ k) (h2 : k < (Utf8.decode s i).2) : (s.data.toList.getD (i + k) 0).toNat / 64 = 2 := by
  have hd := decode_N s i
  generalize s.data.toList.length - i = n at hd
  rcases dN_w n (s.data.toList.getD i 0).toNat (s.data.toList.getD (i + 1) 0).toNat (s.data.toList.getD (i + 2) 0).toNat (s.data.toList.getD (i + 3) 0).toNat with h | h | h | h
  · rw [hd, h] at h2; omega
  · obtain ⟨_, a1, _⟩ := dN2 _ _ _ _ _ h
    rw [hd, h] at h2
    obtain rfl : k = 1 := by omega
    exact a1
  · obtain ⟨_, a1, a2, _⟩ := dN3 _ _ _ _ _ h
    rw [hd, h] at h2
    obtain rfl | rfl : k = 1 ∨ k = 2 := by omega
    · exact a1
    · exact a2
  · obtain ⟨_, a1, a2, a3, _⟩ := dN4 _ _ _ _ _ h
    rw [hd, h] at h2
    obtain rfl | rfl | rfl : k = 1 ∨ k = 2 ∨ k = 3 := by omega
    · exact a1
    · exact a2
    · exact a3
theorem Bd.fits {s : ByteArray} {i : Nat} (h : Bd s i) : ∀ st, st < i → (s.data.toList.getD st 0).toNat / 64 ≠ 2 → st + (Utf8.decode s st).2 ≤ i := by
  induction h with
  | zero => intro st h; omega
  | @next i hb hi ih =>
    intro st h hc
    by_cases h1 : st < i
    · have := ih st h1 hc; omega
    · by_cases h2 : st = i
      · subst h2; exact Nat.le_refl _
      · exfalso
        apply hc
        have := dec_cont s i (st - i) (by omega) (by omega)
        rwa [show i + (st - i) = st by omega] at this
theorem take2 (l : List UInt8) (i : Nat) (h : i + 2 ≤ l.length) : l.take (i + 2) = l.take i ++ [l.getD i 0, l.getD (i + 1) 0] := by
  rw [List.take_add]
  congr 1
  apply List.ext_getElem?
  intro j
  match j with
  | 0 => simp [List.getElem?_take, List.getElem?_drop, List.getD, List.getElem?_eq_getElem (show i < l.length by omega)]
  | 1 => simp [List.getElem?_take, List.getElem?_drop, List.getD, List.getElem?_eq_getElem (show i + 1 < l.length by omega)]
  | j + 2 => simp [List.getElem?_take]; intro hh; omega
theorem take3 (l : List UInt8) (i : Nat) (h : i + 3 ≤ l.length) : l.take (i + 3) = l.take i ++ [l.getD i 0, l.getD (i + 1) 0, l.getD (i + 2) 0] := by
  rw [List.take_add]
  congr 1
  apply List.ext_getElem?
  intro j
  match j with
  | 0 => simp [List.getElem?_take, List.getElem?_drop, List.getD, List.getElem?_eq_getElem (show i < l.length by omega)]
  | 1 => simp [List.getElem?_take, List.getElem?_drop, List.getD, List.getElem?_eq_getElem (show i + 1 < l.length by omega)]
  | 2 => simp [List.getElem?_take, List.getElem?_drop, List.getD, List.getElem?_eq_getElem (show i + 2 < l.length by omega)]
  | j + 3 => simp [List.getElem?_take]; intro hh; omega
theorem take4 (l : List UInt8) (i : Nat) (h : i + 4 ≤ l.length) : l.take (i + 4) = l.take i ++ [l.getD i 0, l.getD (i + 1) 0, l.getD (i + 2) 0, l.getD (i + 3) 0] := by
  rw [List.take_add]
  congr 1
  apply List.ext_getElem?
  intro j
  match j with
  | 0 => simp [List.getElem?_take, List.getElem?_drop, List.getD, List.getElem?_eq_getElem (show i < l.length by omega)]
  | 1 => simp [List.getElem?_take, List.getElem?_drop, List.getD, List.getElem?_eq_getElem (show i + 1 < l.length by omega)]
  | 2 => simp [List.getElem?_take, List.getElem?_drop, List.getD, List.getElem?_eq_getElem (show i + 2 < l.length by omega)]
  | 3 => simp [List.getElem?_take, List.getElem?_drop, List.getD, List.getElem?_eq_getElem (show i + 3 < l.length by omega)]
  | j + 4 => simp [List.getElem?_take]; intro hh; omega
theorem last_next (s : ByteArray) (i : Nat) (hb : Bd s i) (hi : i < s.size) : (decodeLastL (s.data.toList.take (i + (Utf8.decode s i).2))).1 = (Utf8.decode s i).1 := by
  have hd := decode_N s i
  have hlen : s.data.toList.length = s.size := (size_eq s).symm
  obtain ⟨l, hl⟩ : ∃ l, l = s.data.toList := ⟨_, rfl⟩
  rw [← hl] at hd hlen ⊢
  rcases dN_w (l.length - i) (l.getD i 0).toNat (l.getD (i + 1) 0).toNat (l.getD (i + 2) 0).toNat (l.getD (i + 3) 0).toNat with h | h | h | h
  · by_cases ha : (l.getD i 0).toNat < 128
    · rw [decodeN_ascii _ _ _ _ _ ha] at hd
      rw [hd]
      rcases last_cases l (i + 1) (by omega) (by omega) with ⟨_, h2⟩ | ⟨h1, _⟩ | ⟨h1, _⟩
      · simp only; rw [h2]; rfl
      · exfalso; rw [Nat.add_sub_cancel] at h1; omega
      · exfalso; rw [Nat.add_sub_cancel] at h1; omega
    · rw [dN1 _ _ _ _ _ h (by omega)] at hd
      rw [hd]
      show (decodeLastL (l.take (i + 1))).1 = 65533
      rcases last_cases l (i + 1) (by omega) (by omega) with ⟨h1, _⟩ | ⟨_, h2⟩ | ⟨_, st, hst, h2, hsum⟩
      · exfalso; rw [Nat.add_sub_cancel] at h1; omega
      · rw [h2]
      · rw [h2]
        obtain ⟨K, hK⟩ : ∃ K, (decodeL ((l.take (i + 1)).drop st)).2 = K := ⟨_, rfl⟩
        rw [hK] at hsum
        have hxl : ((l.take (i + 1)).drop st).length = K := by rw [List.length_drop, List.length_take]; omega
        by_cases h1 : st = i
        · subst h1
          rw [decodeL_N, hxl]
          rw [decodeN_alone]
          · rw [getD_dropU, getD_takeU l _ _ (by omega)]; simp only [Nat.add_zero]; omega
          · left; omega
        · exfalso
          have key : decodeL (l.drop st) = decodeL ((l.take (i + 1)).drop st) := by
            rw [decodeL_N (l.drop st), decodeL_N ((l.take (i + 1)).drop st), hxl, List.length_drop]
            rw [decodeL_N, hxl] at hK
            simp only [getD_dropU] at hK ⊢
            rw [getD_takeU l (i + 1) (st + 0) (by omega)] at hK ⊢
            exact decodeN_more K (l.length - st) _ _ _ _ _ _ _ (by omega) (by omega) hK
              (fun h => congrArg UInt8.toNat (getD_takeU l (i + 1) (st + 1) (by omega)).symm) (fun h => congrArg UInt8.toNat (getD_takeU l (i + 1) (st + 2) (by omega)).symm) (fun h => congrArg UInt8.toNat (getD_takeU l (i + 1) (st + 3) (by omega)).symm)
          have hc : (l.getD st 0).toNat / 64 ≠ 2 := fun hc => by
            rw [decodeL_N, getD_dropU, getD_takeU l (i + 1) (st + 0) (by omega), decodeN_cont _ _ _ _ _ (show (l.getD (st + 0) 0).toNat / 64 = 2 from hc)] at hK
            simp only at hK
            omega
          have hf := hb.fits st (by omega) (by rw [← hl]; exact hc)
          rw [← decodeL_drop, ← hl, key, hK] at hf
          omega
  · obtain ⟨a0, a1, a2, a3⟩ := dN2 _ _ _ _ _ h
    have e : decodeL [l.getD i 0, l.getD (i + 1) 0] = Utf8.decode s i := by rw [decodeL_N, hd, ← a0]; rfl
    have h2 : (Utf8.decode s i).2 = 2 := by rw [hd, h]
    rw [h2, take2 l i (by omega), last2 _ _ _ (by omega) (by unfold runeStartB; rw [bne_iff_ne]; exact a2) (by rw [e, h2]), e]
  · obtain ⟨a0, a1, a2, a3, a4⟩ := dN3 _ _ _ _ _ h
    have e : decodeL [l.getD i 0, l.getD (i + 1) 0, l.getD (i + 2) 0] = Utf8.decode s i := by rw [decodeL_N, hd, ← a0]; rfl
    have h2 : (Utf8.decode s i).2 = 3 := by rw [hd, h]
    rw [h2, take3 l i (by omega), last3 _ _ _ _ (by omega) (by unfold runeStartB; rw [a1]; rfl) (by unfold runeStartB; rw [bne_iff_ne]; exact a3) (by rw [e, h2]), e]
  · obtain ⟨a0, a1, a2, a3, a4, a5⟩ := dN4 _ _ _ _ _ h
    have e : decodeL [l.getD i 0, l.getD (i + 1) 0, l.getD (i + 2) 0, l.getD (i + 3) 0] = Utf8.decode s i := by rw [decodeL_N, hd, ← a0]; rfl
    have h2 : (Utf8.decode s i).2 = 4 := by rw [hd, h]
    rw [h2, take4 l i (by omega), Ut.last4 _ _ _ _ _ (by omega) (by unfold runeStartB; rw [a2]; rfl) (by unfold runeStartB; rw [a1]; rfl) (by unfold runeStartB; rw [bne_iff_ne]; exact a4) (by rw [e, h2]), e]
theorem lastR_next (s : ByteArray) (i : Nat) (hb : Bd s i) (hi : i < s.size) : lastR s (i + (dec s i).2) = (dec s i).1 := by
  have hw : 1 ≤ (Utf8.decode s i).2 := decode_width_pos s i hi
  unfold lastR dec
  rw [if_neg (show ¬ s.size ≤ i by omega)]
  rw [if_neg (by simp only; omega)]
  simp only
  rw [last_next s i hb hi]
theorem dec_dec (s : ByteArray) (i : Nat) (h : i < s.size) : (dec s i).2 = (Utf8.decode s i).2 := by
  unfold dec
  rw [if_neg (show ¬ s.size ≤ i by omega)]
end Go.Proofs.YtmccgfjhmbioeaaDoor.PgFnPgThreads
namespace Go.Proofs.YtmccgfjhmbioeaaDoor.PgFnPgThreads
open Go.RowKit Go.Proofs.YtmccgfjhmbioeaaDoor.EvN Go.Proofs.YtmccgfjhmbioeaaDoor.Row Go.Proofs.YtmccgfjhmbioeaaDoor.PFnPgThreads Go.Proofs.YtmccgfjhmbioeaaDoorW.PrintWords Go.Proofs.YtmccgfjhmbioeaaDoorW.PrintLast Go.Proofs.YtmccgfjhmbioeaaDoorW.PrintMore
set_option linter.unusedVariables false
set_option linter.unusedSimpArgs false
def BV (W0 w : World) (cb n : Nat) (bv : Value) (o : Option (List Int)) : Prop :=
  match o with
  | none => bv = .slice none 0 0
  | some M => ∃ bb cp, bv = .slice (some ⟨bb, 0, none⟩) n cp ∧ CapAt w n cp bb M ∧ W0.heap.size ≤ bb ∧ bb ≠ cb ∧ cp ≤ maxLen
structure VS (W0 : World) (A : Option Addr) (c0 : Nat) (L : List I) (st nc : Int) (s : ByteArray) (long : Bool) (g sb cb n : Nat) (S : Mk) (C : List Int) (o : Option (List Int)) (w : World) : Prop where
  nd : ∃ bv, w.heap[g]? = some (.cells #[.slice A L.length c0, .int .i64 st, .int .i64 nc, .string s, .bool long, .slice (some ⟨sb, 0, none⟩) (L.length * (s.size + 1)) (L.length * (s.size + 1)), .slice (some ⟨cb, 0, none⟩) n n, bv] 46 (0, 0)) ∧ BV W0 w cb n bv o
  sn : ∃ sa : Array Value, w.heap[sb]? = some (.cells sa 4 (0, 0)) ∧ sa.size = L.length * (s.size + 1) ∧ ∀ pc j, pc < L.length → j ≤ s.size → ∃ b, sa[pc * (s.size + 1) + j]? = some (.bool b) ∧ (pc ≠ 0 → b = decide (pc ∈ S j))
  cp : CapAt w n n cb C
  lo : W0.heap.size ≤ g ∧ W0.heap.size ≤ sb ∧ W0.heap.size ≤ cb
  bl : Below W0.heap.size W0 w
section
variable {W0 : World} {A : Option Addr} {c0 : Nat} {L : List I} {st nc : Int} {s : ByteArray} {long : Bool} {g sb cb n : Nat} {S : Mk} {C : List Int} {o : Option (List Int)} {w w' : World}
theorem BV.keep {bv : Value} (h : BV W0 w cb n bv o) (hk : ∀ bb cs, w.heap[bb]? = some (.cells cs 3 (0, 0)) → bb ≠ cb → w'.heap[bb]? = w.heap[bb]?) : BV W0 w' cb n bv o := by
  cases o with
  | none => exact h
  | some M =>
    obtain ⟨bb, cp, e, hc, h1, h2, h3⟩ := h
    have hc2 := hc
    obtain ⟨r, k1, _⟩ := hc2
    exact ⟨bb, cp, e, hc.keep (hk bb _ k1 h2), h1, h2, h3⟩
theorem VS.grow (h : VS W0 A c0 L st nc s long g sb cb n S C o w) (hb : Below w.heap.size w w') : VS W0 A c0 L st nc s long g sb cb n S C o w' := by
  obtain ⟨bv, h1, h2⟩ := h.nd
  obtain ⟨sa, k1, k2⟩ := h.sn
  exact ⟨⟨bv, blk_below h1 hb, h2.keep fun bb cs hg _ => hb.block _ (blk_lt hg)⟩, ⟨sa, blk_below k1 hb, k2⟩, h.cp.keep (hb.block _ h.cp.lt), h.lo, below_step h.bl hb⟩
theorem VS.drewN (h : VS W0 A c0 L st nc s long g sb cb n S C o w) (m : Nat) : VS W0 A c0 L st nc s long g sb cb n S C o (w.drewN m) :=
  ⟨h.nd, h.sn, h.cp, h.lo, ⟨h.bl.os, h.bl.tape, h.bl.output, h.bl.size, h.bl.block⟩⟩
theorem key_lt {N z pc j : Nat} (hp : pc < N) (hj : j ≤ z) : pc * (z + 1) + j < N * (z + 1) := by
  have : (pc + 1) * (z + 1) ≤ N * (z + 1) := Nat.mul_le_mul_right _ hp
  rw [Nat.add_mul] at this
  omega
theorem key_inj {z pc j pc' j' : Nat} (hj : j ≤ z) (hj' : j' ≤ z) (h : pc * (z + 1) + j = pc' * (z + 1) + j') : pc = pc' ∧ j = j' := by
  have h1 : pc = pc' := by
    have a1 : (pc * (z + 1) + j) / (z + 1) = pc := by rw [Nat.mul_comm, Nat.mul_add_div (by omega), Nat.div_eq_of_lt (by omega)]; omega
    have a2 : (pc' * (z + 1) + j') / (z + 1) = pc' := by rw [Nat.mul_comm, Nat.mul_add_div (by omega), Nat.div_eq_of_lt (by omega)]; omega
    rw [← a1, ← a2, h]
  subst h1
  exact ⟨rfl, by omega⟩
theorem VS.mark (h : VS W0 A c0 L st nc s long g sb cb n S C o w) {pc i : Nat} (hp : pc < L.length) (hi : i ≤ s.size) (S' : Mk) (hS' : ∀ x j, x ≠ 0 → (x ∈ S' j ↔ x ∈ S j ∨ (x = pc ∧ j = i))) :
    VS W0 A c0 L st nc s long g sb cb n S' C o (w.setCell ⟨sb, pc * (s.size + 1) + i, none⟩ (.bool true)) := by
  obtain ⟨bv, h1, h2⟩ := h.nd
  obtain ⟨sa, k1, k2, k3⟩ := h.sn
  obtain ⟨r, c1, c2⟩ := h.cp
  have e1 : g ≠ sb := blk_ne h1 k1 (by decide)
  have e2 : cb ≠ sb := blk_ne c1 k1 (by decide)
  refine ⟨⟨bv, (Below.heap_setCell _ _ _ _ e1).trans h1, h2.keep fun bb cs hg _ => Below.heap_setCell _ _ _ _ (blk_ne hg k1 (by decide))⟩, ⟨_, blk_set k1 (pc * (s.size + 1) + i) (.bool true), by simpa using k2, fun x j hx hj => ?_⟩, h.cp.keep (Below.heap_setCell _ _ _ _ e2), h.lo, below_set h.bl h.lo.2.1⟩
  have hlt := key_lt (N := L.length) hp hi
  obtain ⟨b, b1, b2⟩ := k3 x j hx hj
  by_cases e : x = pc ∧ j = i
  · obtain ⟨rfl, rfl⟩ := e
    refine ⟨true, ?_, fun h0 => ?_⟩
    · rw [Array.getElem?_setIfInBounds_self_of_lt (by omega)]
    · exact (decide_eq_true ((hS' x j h0).2 (.inr ⟨rfl, rfl⟩))).symm
  · refine ⟨b, ?_, fun h0 => ?_⟩
    · rw [Array.getElem?_setIfInBounds_ne (fun e3 => e (by have := key_inj hi hj e3; exact ⟨this.1.symm, this.2.symm⟩))]
      exact b1
    · rw [b2 h0]
      by_cases q : x ∈ S j
      · rw [decide_eq_true q, decide_eq_true ((hS' x j h0).2 (.inl q))]
      · rw [decide_eq_false q, decide_eq_false (fun q2 => by rcases (hS' x j h0).1 q2 with q3 | q3; exact q q3; exact e q3)]
theorem VS.caps (h : VS W0 A c0 L st nc s long g sb cb n S C o w) {a : Nat} (ha : a < n) (v : Int) : VS W0 A c0 L st nc s long g sb cb n S (C.set a v) o (w.setCell ⟨cb, a, none⟩ (.int .i64 v)) := by
  obtain ⟨bv, h1, h2⟩ := h.nd
  obtain ⟨sa, k1, k2⟩ := h.sn
  obtain ⟨r, c1, c2⟩ := h.cp
  have e1 : g ≠ cb := blk_ne h1 c1 (by decide)
  have e2 : sb ≠ cb := blk_ne k1 c1 (by decide)
  exact ⟨⟨bv, (Below.heap_setCell _ _ _ _ e1).trans h1, h2.keep fun bb cs hg hne => Below.heap_setCell _ _ _ _ hne⟩, ⟨sa, (Below.heap_setCell _ _ _ _ e2).trans k1, k2⟩, h.cp.set ha v, h.lo, below_set h.bl h.lo.2.2⟩
def bestR (o : Option (List Int)) (H : List (List Int)) : Option (List Int) :=
  H.foldl (fun o h => match o with
    | none => some h
    | some M => if M.getD 1 0 < h.getD 1 0 then some h else some M) o
theorem bestR_append (o : Option (List Int)) (H K : List (List Int)) : bestR o (H ++ K) = bestR (bestR o H) K := by unfold bestR; rw [List.foldl_append]
def VR (long : Bool) (C : List Int) (o : Option (List Int)) (H : List (List Int) × Mk) (b : Bool) (S' : Mk) (C' : List Int) (o' : Option (List Int)) : Prop :=
  (b = false ∧ S' = H.2 ∧ C' = C ∧ (long = true → o' = bestR o H.1) ∧ (long = false → H.1 = [] ∧ o' = o)) ∨ (b = true ∧ long = false ∧ ∃ h t, H.1 = h :: t ∧ o' = some h)
end
end Go.Proofs.YtmccgfjhmbioeaaDoor.PgFnPgThreads
namespace Go.Proofs.YtmccgfjhmbioeaaDoor.PgFnPgThreads
open Go.RowKit Go.Proofs.YtmccgfjhmbioeaaDoor.EvN Go.Proofs.YtmccgfjhmbioeaaDoor.Row Go.Proofs.YtmccgfjhmbioeaaDoor.Sf Go.Proofs.YtmccgfjhmbioeaaDoor.PFnPgThreads Go.Proofs.YtmccgfjhmbioeaaDoorW.PrintWords Go.Proofs.YtmccgfjhmbioeaaDoorW.PrintLast Go.Proofs.YtmccgfjhmbioeaaDoorW.PrintMore
set_option linter.unusedSimpArgs false
set_option linter.unusedVariables false
set_option maxRecDepth 100000 in
set_option maxHeartbeats 4000000 in
theorem condat_calls (s : ByteArray) (i : Nat) (w : World) (hi : i ≤ s.size) (hs : s.size ≤ 100000) (hT : Tabs w) :
    Calls Tryd.prog 29 #[.string s, .int .i64 (i : Int)] w fun e w' => e = .returned (.int .i64 (condZ (lastR s i) (dec s i).1)) ∧ Below w.heap.size w w' := by
  have HT := Lib.hid hT
  clear hT
  go_enter Tryd.func29, Tryd.ntmps29
  go_wp2_with fail
  refine (next_calls s i w hi (by omega) HT.out).mono ?_
  rintro e w1 ⟨rfl, hb1⟩
  have HB1 := Lib.hid hb1
  clear hb1
  go_wp2_with fail
  refine (last_calls s i w1 hi (by omega) (Utf8Tabs_below HT.out HB1.out)).mono ?_
  rintro e w2 ⟨rfl, hb2⟩
  have HB2 := Lib.hid (below_step HB1.out hb2)
  clear hb2
  go_wp2_with fail
  refine (spec_CondBetween.calls 6 (lastR s i) (dec s i).1 (condZ (lastR s i) (dec s i).1) w2 (cond_z _ _)).mono ?_
  rintro e w3 ⟨rfl, hd⟩
  go_wp2_with fail
  go_ret
  exact ⟨rfl, below_step HB2.out hd.below⟩
end Go.Proofs.YtmccgfjhmbioeaaDoor.PgFnPgThreads
namespace Go.Proofs.YtmccgfjhmbioeaaDoor.PgFnPgThreads
open Go.RowKit Go.Proofs.YtmccgfjhmbioeaaDoor.EvN Go.Proofs.YtmccgfjhmbioeaaDoor.Row Go.Proofs.YtmccgfjhmbioeaaDoor.PFnPgThreads Go.Proofs.YtmccgfjhmbioeaaDoorW.PrintWords Go.Proofs.YtmccgfjhmbioeaaDoorW.PrintLast Go.Proofs.YtmccgfjhmbioeaaDoorW.PrintMore
set_option linter.unusedVariables false
set_option linter.unusedSimpArgs false
def visH (L : List I) (s : ByteArray) (k m pc i : Nat) (S : Mk) (C : List Int) : List (List Int) × Mk :=
  hitD L s k i (aF L (condZ (lastR s i) (dec s i).1) (i : Int) m (S i) pc C) (put S i (S i ++ (aF L (condZ (lastR s i) (dec s i).1) (i : Int) m (S i) pc C).map Prod.fst))
def mk1 (S : Mk) (i pc : Nat) : Mk := put S i (S i ++ [pc])
section
variable {L : List I} {s : ByteArray} {k m pc i : Nat} {S : Mk} {C : List Int}
theorem mk1_at : mk1 S i pc i = S i ++ [pc] := put_same _ _ _
theorem mk1_ne {j : Nat} (h : j ≠ i) : mk1 S i pc j = S j := put_ne _ _ h
theorem visH_skip (h : pc = 0 ∨ pc ∈ S i) : visH L s k (m + 1) pc i S C = ([], S) := by
  unfold visH
  rw [aF, if_pos h, List.map_nil, List.append_nil, put_self, hitD_nil]
theorem visH_one {C' : List Int} {q : Nat} (he : aF L (condZ (lastR s i) (dec s i).1) (i : Int) (m + 1) (S i) pc C = (pc, none) :: aF L (condZ (lastR s i) (dec s i).1) (i : Int) m (S i ++ [pc]) q C') :
    visH L s k (m + 1) pc i S C = visH L s k m q i (mk1 S i pc) C' := by
  unfold visH
  rw [he, hitD_none, mk1_at]
  unfold mk1
  rw [put_put, List.map_cons, List.append_assoc]
  rfl
theorem visH_nop (h : ¬ (pc = 0 ∨ pc ∈ S i)) (h0 : (ins L pc).f0 = 6) : visH L s k (m + 1) pc i S C = visH L s k m (ins L pc).f1.toNat i (mk1 S i pc) C := visH_one (aF_nop h h0)
theorem visH_cap (h : ¬ (pc = 0 ∨ pc ∈ S i)) (h0 : (ins L pc).f0 = 2) : visH L s k (m + 1) pc i S C = visH L s k m (ins L pc).f1.toNat i (mk1 S i pc) (C.set (ins L pc).f2.toNat (i : Int)) := visH_one (aF_cap h h0)
theorem visH_none (he : aF L (condZ (lastR s i) (dec s i).1) (i : Int) (m + 1) (S i) pc C = [(pc, none)]) : visH L s k (m + 1) pc i S C = ([], mk1 S i pc) := by
  unfold visH
  rw [he, hitD_none, hitD_nil]
  rfl
theorem visH_emp (h : ¬ (pc = 0 ∨ pc ∈ S i)) (h0 : (ins L pc).f0 = 3) : visH L s k (m + 1) pc i S C = if holds (condZ (lastR s i) (dec s i).1) (ins L pc).f2 = true then visH L s k m (ins L pc).f1.toNat i (mk1 S i pc) C else ([], mk1 S i pc) := by
  have he := aF_emp (L := L) (cond := condZ (lastR s i) (dec s i).1) (pos := (i : Int)) (k := m) (C := C) h h0
  split
  · rename_i hh
    rw [if_pos hh] at he
    exact visH_one he
  · rename_i hh
    rw [if_neg hh] at he
    exact visH_none he
theorem visH_fail (h : ¬ (pc = 0 ∨ pc ∈ S i)) (h0 : (ins L pc).f0 = 5) : visH L s k (m + 1) pc i S C = ([], mk1 S i pc) := visH_none (aF_fail h h0)
theorem visH_alt (h : ¬ (pc = 0 ∨ pc ∈ S i)) (h0 : (ins L pc).f0 = 0) (H1 : List (List Int) × Mk) (hH1 : H1 = visH L s k m (ins L pc).f1.toNat i (mk1 S i pc) C) :
    visH L s k (m + 1) pc i S C = (H1.1 ++ (visH L s k m (ins L pc).f2.toNat i H1.2 C).1, (visH L s k m (ins L pc).f2.toNat i H1.2 C).2) := by
  have he := aF_alt (L := L) (cond := condZ (lastR s i) (dec s i).1) (pos := (i : Int)) (k := m) (C := C) h h0
  unfold visH at hH1
  rw [mk1_at] at hH1
  generalize ha1 : aF L (condZ (lastR s i) (dec s i).1) (i : Int) m (S i ++ [pc]) (ins L pc).f1.toNat C = a1 at *
  unfold mk1 at hH1
  rw [put_put] at hH1
  have hi1 : H1.2 i = S i ++ pc :: a1.map Prod.fst := by
    rw [hH1, hitD_keep _ _ _ _ _ (Nat.le_refl _), put_same, List.append_assoc]; rfl
  unfold visH
  rw [he, hitD_none, hi1]
  generalize aF L (condZ (lastR s i) (dec s i).1) (i : Int) m (S i ++ pc :: a1.map Prod.fst) (ins L pc).f2.toNat C = a2
  rw [hitD_chain k i a1 a2 S (S i ++ [pc] ++ a1.map Prod.fst), ← hH1]
  have e : S i ++ pc :: a1.map Prod.fst ++ a2.map Prod.fst = S i ++ List.map Prod.fst ((pc, none) :: (a1 ++ a2)) := by simp
  rw [e]
theorem visH_hit (h : ¬ (pc = 0 ∨ pc ∈ S i)) (h0 : (ins L pc).f0 = 4) : visH L s (k + 1) (m + 1) pc i S C = ([C.set 1 (i : Int)], mk1 S i pc) := by
  unfold visH
  rw [aF_leaf h (.inl h0), hitD_hit _ _ _ _ _ _ h0, hitD_nil]
  rfl
theorem visH_no (h : ¬ (pc = 0 ∨ pc ∈ S i)) (h0 : 7 ≤ (ins L pc).f0) (hg : goB L s i pc = false) : visH L s (k + 1) (m + 1) pc i S C = ([], mk1 S i pc) := by
  unfold visH
  rw [aF_leaf h (.inr h0), hitD_skip _ _ _ _ _ _ (by omega) hg, hitD_nil]
  rfl
theorem visH_go (h : ¬ (pc = 0 ∨ pc ∈ S i)) (h0 : 7 ≤ (ins L pc).f0) (hg : goB L s i pc = true) (hb : Bd s i) (hi : i < s.size) : visH L s (k + 1) (m + 1) pc i S C = visH L s k (L.length + 1) (ins L pc).f1.toNat (nxt s i) (mk1 S i pc) C := by
  have hn := nxt_lt hg
  have hl : lastR s (nxt s i) = (dec s i).1 := lastR_next s i hb hi
  unfold visH
  rw [aF_leaf h (.inr h0), hitD_go _ _ _ _ _ _ (by omega) hg _ rfl, hitD_nil, List.append_nil, hl, mk1_ne (by omega)]
  rw [show put S i (S i ++ List.map Prod.fst [(pc, some C)]) = mk1 S i pc from rfl, mk1_ne (show nxt s i ≠ i by omega)]
  rfl
theorem hitD_fine {st nc most : Int} (hp : PSound L st nc most) {n : Nat} : ∀ (k i : Nat) (A : List Ae) (S : Mk), WR L n A → (∀ j, Fine L.length (S j)) → ∀ j, Fine L.length ((hitD L s k i A S).2 j) := by
  intro k
  induction k with
  | zero => intro i A S hW hS j; exact hS j
  | succ k ihk =>
    intro i A
    induction A with
    | nil => intro S hW hS j; rw [hitD_nil]; exact hS j
    | cons a r ih =>
      intro S hW hS j
      obtain ⟨pc, o⟩ := a
      cases o with
      | none => rw [hitD_none]; exact ih S hW.tail hS j
      | some C =>
        by_cases h4 : (ins L pc).f0 = 4
        · rw [hitD_hit k i pc C r S h4]; exact ih S hW.tail hS j
        · by_cases hg : goB L s i pc = true
          · rw [hitD_go k i pc C r S h4 hg _ rfl]
            refine ih _ hW.tail (fun j => ihk _ _ _ (WR.new hp _ _ _ _ _ _ _ (hW.out hp h4) hW.len) (fun j => ?_) j) j
            by_cases e : j = nxt s i
            · subst e
              rw [put_same]
              unfold newE
              rw [aF_rF]
              exact (rF_fine hp.leads _ _ _ (hS _) (hW.out hp h4)).1
            · rw [put_ne _ _ e]; exact hS j
          · rw [hitD_skip k i pc C r S h4 (by simpa using hg)]; exact ih S hW.tail hS j
theorem visH_fine {st nc most : Int} (hp : PSound L st nc most) (hpc : pc < L.length) (hS : ∀ j, Fine L.length (S j)) : ∀ j, Fine L.length ((visH L s k m pc i S C).2 j) := by
  unfold visH
  refine hitD_fine hp (n := C.length) k i _ _ (WR.new hp _ _ _ _ _ _ _ hpc rfl) (fun j => ?_)
  by_cases e : j = i
  · subst e
    rw [put_same, aF_rF]
    exact (rF_fine hp.leads _ _ _ (hS _) hpc).1
  · rw [put_ne _ _ e]; exact hS j
theorem visH_len : (S i).length ≤ ((visH L s k m pc i S C).2 i).length := by
  unfold visH
  rw [hitD_keep _ _ _ _ _ (Nat.le_refl _), put_same, List.length_append]
  omega
theorem mk1_fine (hpc : pc < L.length) (hn : pc ∉ S i) (hS : ∀ j, Fine L.length (S j)) : ∀ j, Fine L.length (mk1 S i pc j) := fun j => by
  by_cases e : j = i
  · subst e; rw [mk1_at]; exact (hS _).add hpc hn
  · rw [mk1_ne e]; exact hS j
theorem mk1_mem : ∀ x j, x ≠ 0 → (x ∈ mk1 S i pc j ↔ x ∈ S j ∨ (x = pc ∧ j = i)) := fun x j _ => by
  by_cases e : j = i
  · subst e; rw [mk1_at]; simp
  · rw [mk1_ne e]; simp [e]
end
section
variable (W0 : World) (A : Option Addr) (c0 : Nat) (L : List I) (st nc : Int) (s : ByteArray) (long : Bool) (g sb cb n : Nat)
def VPost (w : World) (H : List (List Int) × Mk) (C : List Int) (o : Option (List Int)) (e : Ending) (w' : World) : Prop :=
  ∃ b S' C' o', e = .returned (.bool b) ∧ Fr (fun x => x = g ∨ x = sb ∨ x = cb) w w' ∧ VS W0 A c0 L st nc s long g sb cb n S' C' o' w' ∧ VR long C o H b S' C' o'
def VisC (k m : Nat) : Prop :=
  ∀ (pc i : Nat) (S : Mk) (C : List Int) (o : Option (List Int)) (w : World), pc < L.length → i ≤ s.size → Bd s i → (∀ j, Fine L.length (S j)) → L.length - (S i).length < m → s.size < i + k → C.length = n → (long = false → o = none) →
    VS W0 A c0 L st nc s long g sb cb n S C o w →
    Calls Tryd.prog 16 #[.pointer (some ⟨g, 0, none⟩), .int .i64 (pc : Int), .int .i64 (i : Int)] w (VPost W0 A c0 L st nc s long g sb cb n w (visH L s k m pc i S C) C o)
end
end Go.Proofs.YtmccgfjhmbioeaaDoor.PgFnPgThreads
namespace Go.Proofs.YtmccgfjhmbioeaaDoor.PgFnPgThreads
open Go.RowKit Go.Proofs.YtmccgfjhmbioeaaDoor.EvN Go.Proofs.YtmccgfjhmbioeaaDoor.Row Go.Proofs.YtmccgfjhmbioeaaDoor.Sf Go.Proofs.YtmccgfjhmbioeaaDoor.PFnPgThreads Go.Proofs.YtmccgfjhmbioeaaDoorW.PrintWords Go.Proofs.YtmccgfjhmbioeaaDoorW.PrintLast Go.Proofs.YtmccgfjhmbioeaaDoorW.PrintMore
set_option linter.unusedVariables false
set_option linter.unusedSimpArgs false
section
variable {W0 : World} {A : Option Addr} {c0 : Nat} {L : List I} {st nc : Int} {s : ByteArray} {long : Bool} {g sb cb n : Nat} {S : Mk} {C : List Int} {o : Option (List Int)} {w w' : World}
theorem blk8 {w : World} {g : Nat} {ty : TypeId} {v0 v1 v2 v3 v4 v5 v6 v7 : Value} (h : w.heap[g]? = some (.cells #[v0, v1, v2, v3, v4, v5, v6, v7] ty (0, 0))) :
    w.cell? ⟨g, 0, none⟩ = some v0 ∧ w.cell? ⟨g, 1, none⟩ = some v1 ∧ w.cell? ⟨g, 2, none⟩ = some v2 ∧ w.cell? ⟨g, 3, none⟩ = some v3 ∧ w.cell? ⟨g, 4, none⟩ = some v4 ∧ w.cell? ⟨g, 5, none⟩ = some v5 ∧ w.cell? ⟨g, 6, none⟩ = some v6 ∧ w.cell? ⟨g, 7, none⟩ = some v7 :=
  ⟨(blk_cell h 0).trans rfl, (blk_cell h 1).trans rfl, (blk_cell h 2).trans rfl, (blk_cell h 3).trans rfl, (blk_cell h 4).trans rfl, (blk_cell h 5).trans rfl, (blk_cell h 6).trans rfl, (blk_cell h 7).trans rfl⟩
theorem VS.cells (h : VS W0 A c0 L st nc s long g sb cb n S C o w) : ∃ bv, w.cell? ⟨g, 0, none⟩ = some (.slice A L.length c0) ∧ w.cell? ⟨g, 3, none⟩ = some (.string s) ∧ w.cell? ⟨g, 4, none⟩ = some (.bool long) ∧
    w.cell? ⟨g, 5, none⟩ = some (.slice (some ⟨sb, 0, none⟩) (L.length * (s.size + 1)) (L.length * (s.size + 1))) ∧ w.cell? ⟨g, 6, none⟩ = some (.slice (some ⟨cb, 0, none⟩) n n) ∧ w.cell? ⟨g, 7, none⟩ = some bv ∧ BV W0 w cb n bv o := by
  obtain ⟨bv, h1, h2⟩ := h.nd
  obtain ⟨e0, e1, e2, e3, e4, e5, e6, e7⟩ := blk8 h1
  exact ⟨bv, e0, e3, e4, e5, e6, e7, h2⟩
theorem VS.seen (h : VS W0 A c0 L st nc s long g sb cb n S C o w) {pc i : Nat} (hp : pc < L.length) (hi : i ≤ s.size) : ∃ b, w.cell? ⟨sb, pc * (s.size + 1) + i, none⟩ = some (.bool b) ∧ (pc ≠ 0 → b = decide (pc ∈ S i)) ∧ w.frozen? ⟨sb, pc * (s.size + 1) + i, none⟩ = false := by
  obtain ⟨sa, k1, k2, k3⟩ := h.sn
  obtain ⟨b, b1, b2⟩ := k3 pc i hp hi
  exact ⟨b, (blk_cell k1 _).trans b1, b2, blk_frozen k1 _⟩
theorem VS.best (h : VS W0 A c0 L st nc s long g sb cb n S C o w) (hn : 2 ≤ n) {v : Value} (hb : Below w.heap.size w w') (hown : w'.ownsRow w.heap.size 3 1 v n (C.map (Value.int .i64))) :
    ∃ gg cp, v = .slice (some ⟨gg, 0, none⟩) n cp ∧ w.heap.size ≤ gg ∧ gg ≠ g ∧ CapAt (w'.setCell ⟨g, 7, none⟩ v) n cp gg C ∧ VS W0 A c0 L st nc s long g sb cb n S C (some C) (w'.setCell ⟨g, 7, none⟩ v) ∧
      ∀ x : Int, VS W0 A c0 L st nc s long g sb cb n S C (some (C.set 1 x)) ((w'.setCell ⟨g, 7, none⟩ v).setCell ⟨gg, 1, none⟩ (.int .i64 x)) := by
  obtain ⟨bv, h1, h2⟩ := h.nd
  obtain ⟨sa, k1, k2⟩ := h.sn
  have hcp := h.cp
  obtain ⟨r, c1, c2⟩ := h.cp
  have hlC : C.length = n := c2.1
  rcases hown.2 with ⟨e, q⟩ | ⟨gg, cp, cur, e, hB, hg, q1, q2, q3, q4⟩
  · exfalso
    omega
  · have e0 : g ≠ sb := blk_ne h1 k1 (by decide)
    have e1 : g ≠ cb := blk_ne h1 c1 (by decide)
    have lg := blk_lt h1
    have lsb := blk_lt k1
    have lcb := blk_lt c1
    have ng : gg ≠ g := by omega
    have ngs : sb ≠ gg := by omega
    have ngc : cb ≠ gg := by omega
    have hca : CapAt w' n cp gg C := by
      refine ⟨cur.toList.drop n, ?_, hlC, ?_⟩
      · rw [hg]
        congr 2
        have : (C.map (Value.int .i64)) ++ cur.toList.drop n = cur.toList := by
          rw [← q4, Nat.mul_one, List.take_append_drop]
        rw [this]
      · rw [List.length_drop]
        have : cur.toList.length = cur.size := by simp
        omega
    have hv1 : VS W0 A c0 L st nc s long g sb cb n S C (some C) (w'.setCell ⟨g, 7, none⟩ v) := by
      refine ⟨⟨v, blk_set (blk_below h1 hb) 7 v, ⟨gg, cp, e, hca.keep (Below.heap_setCell _ _ _ _ ng), by have := h.bl.size; omega, by omega, q2⟩⟩, ⟨sa, (Below.heap_setCell _ _ _ _ (Ne.symm e0)).trans (blk_below k1 hb), k2⟩, (hcp.keep (hb.block _ lcb)).keep (Below.heap_setCell _ _ _ _ (Ne.symm e1)), h.lo, below_set (below_step h.bl hb) h.lo.1⟩
    refine ⟨gg, cp, e, hB, by omega, hca.keep (Below.heap_setCell _ _ _ _ ng), hv1, fun x => ?_⟩
    obtain ⟨bv', n1, n2⟩ := hv1.nd
    obtain ⟨bb, cp2, m1, m2, m3, m4, m5⟩ := n2
    have hbv : bv' = v := by
      have := n1.symm.trans (blk_set (blk_below h1 hb) 7 v)
      simpa using this
    rw [hbv, e] at m1
    cases m1
    obtain ⟨sa', s1, s2⟩ := hv1.sn
    refine ⟨⟨bv', (Below.heap_setCell _ _ _ _ (Ne.symm ng)).trans n1, ⟨gg, cp, by rw [hbv, e], m2.set (by omega) x, m3, m4, m5⟩⟩, ⟨sa', (Below.heap_setCell _ _ _ _ ngs).trans s1, s2⟩, hv1.cp.keep (Below.heap_setCell _ _ _ _ ngc), h.lo, below_set hv1.bl (by have := h.bl.size; omega)⟩
set_option maxRecDepth 100000 in
set_option maxHeartbeats 4000000 in
theorem visit_seen (hsz : s.size ≤ 60000) (hwk : L.length * (s.size + 1) ≤ 1048576) (k m pc i : Nat) (hp : pc < L.length) (hi : i ≤ s.size) (hm : L.length - (S i).length < m) (h : VS W0 A c0 L st nc s long g sb cb n S C o w) (hs : w.cell? ⟨sb, pc * (s.size + 1) + i, none⟩ = some (.bool true)) (hin : pc = 0 ∨ pc ∈ S i) :
    Calls Tryd.prog 16 #[.pointer (some ⟨g, 0, none⟩), .int .i64 (pc : Int), .int .i64 (i : Int)] w (VPost W0 A c0 L st nc s long g sb cb n w (visH L s k m pc i S C) C o) := by
  obtain ⟨m', rfl⟩ : ∃ m', m = m' + 1 := ⟨m - 1, by omega⟩
  rw [visH_skip hin]
  have hkey := key_lt (N := L.length) hp hi
  obtain ⟨bv, e0, e3, e4, e5, e6, e7, -⟩ := h.cells
  have HH := Lib.hid h
  clear h e0 e4 e6 e7
  have hk1 : (pc : Int) * ((s.size : Int) + 1) = ((pc * (s.size + 1) : Nat) : Int) := by push_cast; rfl
  generalize hK : L.length * (s.size + 1) = K at *
  generalize hQ : pc * (s.size + 1) = q at *
  go_enter Tryd.func16, Tryd.ntmps16
  go_wp2_with fail
  go_ret
  exact ⟨false, S, C, o, rfl, Fr.refl _ _, HH.out, .inl ⟨rfl, rfl, rfl, fun _ => rfl, fun _ => ⟨rfl, rfl⟩⟩⟩
end
end Go.Proofs.YtmccgfjhmbioeaaDoor.PgFnPgThreads
namespace Go.Proofs.YtmccgfjhmbioeaaDoor.PgFnPgThreads
open Go.RowKit Go.Proofs.YtmccgfjhmbioeaaDoor.EvN Go.Proofs.YtmccgfjhmbioeaaDoor.Row Go.Proofs.YtmccgfjhmbioeaaDoor.PFnPgThreads Go.Proofs.YtmccgfjhmbioeaaDoorW.PrintWords Go.Proofs.YtmccgfjhmbioeaaDoorW.PrintLast Go.Proofs.YtmccgfjhmbioeaaDoorW.PrintMore
set_option linter.unusedVariables false
set_option linter.unusedSimpArgs false
section
variable {L : List I} {s : ByteArray}
def pickF (long : Bool) (H : List (List Int)) : Option (List Int) := if long = true then bestR none H else H.head?
def findF (L : List I) (st : Nat) (s : ByteArray) (long : Bool) : Nat → Int → Nat → Mk → List Int → Option (List Int)
  | 0, _, _, _, _ => none
  | k + 1, last, i, S, M =>
    match pickF long (oneD L st s (k + 1) last i S M).1 with
    | some h => some h
    | none => if (dec s i).2 = 0 then none else findF L st s long k (dec s i).1 (nxt s i) (oneD L st s (k + 1) last i S M).2 M
theorem find_first (st : Nat) : ∀ (k : Nat) (last : Int) (i : Nat) (S : Mk) (M : List Int), findF L st s false k last i S M = (stD L st s k last i S M).head? := by
  intro k
  induction k with
  | zero => intros; rfl
  | succ k ih =>
    intro last i S M
    rw [findF, stD, List.head?_append]
    have hp : pickF false (oneD L st s (k + 1) last i S M).1 = (oneD L st s (k + 1) last i S M).1.head? := by unfold pickF; rw [if_neg (by simp)]
    rw [hp]
    cases (oneD L st s (k + 1) last i S M).1.head? with
    | some h => rfl
    | none =>
      simp only [Option.none_or]
      split
      · rfl
      · exact ih _ _ _ _
theorem bestR_bestF (v : Int) : ∀ (H : List (List Int)) (o : Option (List Int)), (∀ x ∈ H, x.getD 0 0 = v) → (∀ M, o = some M → M.getD 0 0 = v) → bestR o H = bestF o H ∧ ∀ M, bestF o H = some M → M.getD 0 0 = v := by
  intro H
  induction H with
  | nil => intro o _ ho; exact ⟨rfl, ho⟩
  | cons h H ih =>
    intro o hH ho
    have hh := hH h (by simp)
    have hb : ∀ M, better o h = some M → M.getD 0 0 = v := fun M hM => by
      cases o with
      | none => cases hM; exact hh
      | some M0 =>
        have h0 := ho M0 rfl
        simp only [better] at hM
        split at hM
        · cases hM; exact h0
        · split at hM
          · cases hM; exact hh
          · cases hM; exact h0
    have hr : bestR o (h :: H) = bestR (better o h) H := by
      cases o with
      | none => rfl
      | some M =>
        have h0 := ho M rfl
        have e : better (some M) h = (if M.getD 1 0 < h.getD 1 0 then some h else some M) := by
          simp only [better]
          rw [if_neg (show ¬ M.getD 0 0 < h.getD 0 0 by omega)]
        rw [e]; rfl
    rw [hr, bestF_cons]
    exact ih (better o h) (fun x hx => hH x (by simp [hx])) hb
theorem bestF_none_iff : ∀ (H : List (List Int)), bestF none H = none → H = [] := by
  intro H hH
  cases H with
  | nil => rfl
  | cons h t =>
    rw [bestF_cons] at hH
    obtain ⟨x, e, _⟩ := bestF_some h t
    exact absurd (e.symm.trans hH) (by simp)
theorem find_long {stI nc most : Int} (h : PSound L stI nc most) {n : Nat} (hn : 2 ≤ n) (st : Nat) (hst : st < L.length) : ∀ (k : Nat) (last : Int) (i : Nat) (S : Mk) (M : List Int), M.length = n → findF L st s true k last i S M = bestF none (stD L st s k last i S M) := by
  intro k
  induction k with
  | zero => intros; rfl
  | succ k ih =>
    intro last i S M hM
    rw [findF, stD, bestF_append]
    have hW : WR L n (startE L st s last i (S i) M) := WR.new h _ _ _ _ _ _ _ hst (by rw [List.length_set]; exact hM)
    have hst0 : ∀ x ∈ (oneD L st s (k + 1) last i S M).1, x.getD 0 0 = (i : Int) := fun x hx => by
      unfold oneD at hx
      obtain ⟨⟨p1, C1, m1, e1⟩, _⟩ := hitD_from h hn (k + 1) i _ _ hW x hx
      rw [e1, startE_frm h st hst last i (S i) M (by omega) _ m1 C1 rfl]
    obtain ⟨q1, q2⟩ := bestR_bestF (i : Int) (oneD L st s (k + 1) last i S M).1 none hst0 (fun M e => by cases e)
    have hp : pickF true (oneD L st s (k + 1) last i S M).1 = bestF none (oneD L st s (k + 1) last i S M).1 := by unfold pickF; rw [if_pos rfl, q1]
    rw [hp]
    cases hb : bestF none (oneD L st s (k + 1) last i S M).1 with
    | some b =>
      have hb0 := q2 b hb
      simp only
      split
      · rfl
      · rename_i hd
        refine (bestF_far b _ (fun y hy => ?_)).symm
        have := stD_far h hn st hst k _ _ _ M hM y hy
        have hn2 : i < nxt s i := by unfold nxt; omega
        omega
    | none =>
      simp only
      split
      · rfl
      · exact ih _ _ _ _ hM
end
end Go.Proofs.YtmccgfjhmbioeaaDoor.PgFnPgThreads
