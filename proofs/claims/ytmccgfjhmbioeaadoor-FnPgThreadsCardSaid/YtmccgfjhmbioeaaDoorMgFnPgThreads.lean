import Derived.Test.YtmccgfjhmbioeaaDoorNxFnPgThreads
import Derived.Test.YtmccgfjhmbioeaaDoorJxFnPgThreads
import Derived.Laws.BitsLemmas
import Derived.Test.YtmccgfjhmbioeaaDoorVzFnPgThreads
import Derived.Test.YtmccgfjhmbioeaaDoorMmFnPgThreads
import Derived.Test.YtmccgfjhmbioeaaDoorVyFnPgThreads
import Derived.Test.YtmccgfjhmbioeaaDoorPxFnPgThreads
import Derived.Test.YtmccgfjhmbioeaaDoorFiFnPgThreads
import Derived.Test.YtmccgfjhmbioeaaDoorVxFnPgThreads
import Derived.Lib.SliceRun
import Derived.Test.YtmccgfjhmbioeaaDoorVvFnPgThreads
import Derived.Laws.Cover3
import Derived.IntWalk
import Derived.Test.YtmccgfjhmbioeaaDoorPimFnPgThreads
import Derived.ProofKit
import Derived.Deep.Slices
import Derived.Test.YtmccgfjhmbioeaaDoorSh
import Derived.Test.YtmccgfjhmbioeaaDoorRows
import Derived.Lib.LaidU8
import Derived.Test.YtmccgfjhmbioeaaDoorTie
import Derived.Test.YtmccgfjhmbioeaaDoorCards
import Derived.OpenShut
import Derived.ChangeOld
import Derived.ShutString
import Derived.Below
import Derived.Carry
import Derived.SizedLaws
import Derived.LaidMore
import Derived.Lay
import Derived.SevenTiedAt
import Derived.Stop.Joined
namespace Go.Proofs.YtmccgfjhmbioeaaDoor.PgFnPgThreads
open Go.RowKit Go.Proofs.YtmccgfjhmbioeaaDoor.EvN Go.Proofs.YtmccgfjhmbioeaaDoor.Row Go.Proofs.YtmccgfjhmbioeaaDoor.Sf Go.Proofs.YtmccgfjhmbioeaaDoor.PFnPgThreads Go.Proofs.YtmccgfjhmbioeaaDoorW.PrintWords Go.Proofs.YtmccgfjhmbioeaaDoorW.PrintLast Go.Proofs.YtmccgfjhmbioeaaDoorW.PrintMore
set_option linter.unusedSimpArgs false
set_option linter.unusedVariables false
theorem or6 (a b : Nat) (ha : a < 64) (hb : b < 64) : bits .or .i64 (a : Int) (b : Int) = ((a ||| b : Nat) : Int) ∧ bits .or .u8 (a : Int) (b : Int) = ((a ||| b : Nat) : Int) ∧ (a ||| b) < 64 :=
  ⟨(bits_nat .i64 6 (by decide) (fun n h0 h1 => by rw [IntKind.wrap_i64]; omega) a b ha hb).2, (bits_nat .u8 6 (by decide) (fun n h0 h1 => by rw [IntKind.wrap_u8]; omega) a b ha hb).2, Nat.or_lt_two_pow (n := 6) ha hb⟩
theorem and6 (a b : Nat) (ha : a < 64) (hb : b < 64) : bits .and .i64 (a : Int) (b : Int) = ((a &&& b : Nat) : Int) := (bits_nat .i64 6 (by decide) (fun n h0 h1 => by rw [IntKind.wrap_i64]; omega) a b ha hb).1
theorem cP_lt : ∀ (bm b10 am a10 wb : Bool), 0 ≤ cP bm b10 am a10 wb ∧ cP bm b10 am a10 wb < 64 := by
  unfold cP
  decide
theorem condZ_nat (b a : Int) : ∃ c : Nat, condZ b a = (c : Int) ∧ c < 64 := by
  obtain ⟨h1, h2⟩ := cP_lt (decide (b = -1)) (b == 10) (decide (a = -1)) (a == 10) (wdB b != wdB a)
  exact ⟨(condZ b a).toNat, by unfold condZ; omega, by unfold condZ; omega⟩
end Go.Proofs.YtmccgfjhmbioeaaDoor.PgFnPgThreads
namespace Go.Proofs.YtmccgfjhmbioeaaDoor.PgFnPgThreads
open Go.RowKit Go.Proofs.YtmccgfjhmbioeaaDoor.EvN Go.Proofs.YtmccgfjhmbioeaaDoor.Row Go.Proofs.YtmccgfjhmbioeaaDoor.Sf Go.Proofs.YtmccgfjhmbioeaaDoor.PFnPgThreads Go.Proofs.YtmccgfjhmbioeaaDoorW.PrintWords Go.Proofs.YtmccgfjhmbioeaaDoorW.PrintLast Go.Proofs.YtmccgfjhmbioeaaDoorW.PrintMore
set_option linter.unusedSimpArgs false
set_option linter.unusedVariables false
theorem scF_255 {L : List I} {st nc most : Int} (h : PSound L st nc most) : ∀ (n pc f : Nat), pc < L.length → f < 64 → 0 ≤ scF L n pc (f : Int) ∧ scF L n pc (f : Int) < 64 ∨ scF L n pc (f : Int) = 255 := by
  intro n
  induction n with
  | zero => intro pc f _ hf; rw [scF]; omega
  | succ n ih =>
    intro pc f hpc hf
    rw [scF]
    by_cases g3 : (ins L pc).f0 = 3
    · rw [if_pos g3]
      obtain ⟨x1, x2⟩ := h.arg3 pc hpc g3
      obtain ⟨o1, o2⟩ := h.outIn pc hpc (by omega)
      obtain ⟨a, ha⟩ : ∃ a : Nat, (ins L pc).f2 = (a : Int) := ⟨(ins L pc).f2.toNat, by omega⟩
      obtain ⟨e1, e2, e3⟩ := or6 f a hf (by omega)
      rw [ha, e2]
      exact ih _ _ (by omega) e3
    · rw [if_neg g3]
      by_cases g5 : (ins L pc).f0 = 5
      · rw [if_pos g5]; exact .inr rfl
      · rw [if_neg g5]
        by_cases g26 : (ins L pc).f0 = 2 ∨ (ins L pc).f0 = 6
        · rw [if_pos g26]
          obtain ⟨o1, o2⟩ := h.outIn pc hpc (by omega)
          exact ih _ _ (by omega) hf
        · rw [if_neg g26]; omega
theorem Bd.step {s : ByteArray} {i : Nat} (h : Bd s i) (hi : i < s.size) : Bd s (i + (dec s i).2) := by
  rw [dec_dec s i hi]; exact .next h hi
end Go.Proofs.YtmccgfjhmbioeaaDoor.PgFnPgThreads
namespace Go.Proofs.YtmccgfjhmbioeaaDoor.PgFnPgThreads
open Go.RowKit Go.Proofs.YtmccgfjhmbioeaaDoor.EvN Go.Proofs.YtmccgfjhmbioeaaDoor.Row Go.Proofs.YtmccgfjhmbioeaaDoor.PFnPgThreads Go.Proofs.YtmccgfjhmbioeaaDoorW.PrintWords Go.Proofs.YtmccgfjhmbioeaaDoorW.PrintLast Go.Proofs.YtmccgfjhmbioeaaDoorW.PrintMore
set_option linter.unusedVariables false
set_option linter.unusedSimpArgs false
section
variable {L : List I} {s : ByteArray}
theorem lead_new {st nc most : Int} (h : PSound L st nc most) (c : Nat) (hc : c < 64) (pos : Int) : ∀ (n m pc : Nat) (D : List Nat) (C : List Int) (f : Nat), pc < L.length → (∃ a ∈ aF L (c : Int) pos m D pc C, a.2.isSome = true) → f < 64 → c &&& f = f →
    ∃ v : Nat, scF L n pc (f : Int) = (v : Int) ∧ v < 64 ∧ c &&& v = v := by
  intro n
  induction n with
  | zero => intro m pc D C f _ _ hf hs; exact ⟨f, rfl, hf, hs⟩
  | succ n ih =>
    intro m pc D C f hpc hx hf hs
    cases m with
    | zero => obtain ⟨a, ha, _⟩ := hx; simp [aF] at ha
    | succ m =>
      rw [scF]
      by_cases h0 : pc = 0 ∨ pc ∈ D
      · obtain ⟨a, ha, _⟩ := hx; rw [aF, if_pos h0] at ha; cases ha
      · by_cases g3 : (ins L pc).f0 = 3
        · rw [if_pos g3]
          rw [aF_emp h0 g3] at hx
          obtain ⟨a, ha, ha2⟩ := hx
          rcases List.mem_cons.1 ha with rfl | ha
          · cases ha2
          · by_cases hh : holds (c : Int) (ins L pc).f2 = true
            · rw [if_pos hh] at ha
              obtain ⟨x1, x2⟩ := h.arg3 pc hpc g3
              obtain ⟨o1, o2⟩ := h.outIn pc hpc (by omega)
              obtain ⟨q, hq⟩ : ∃ q : Nat, (ins L pc).f2 = (q : Int) := ⟨(ins L pc).f2.toNat, by omega⟩
              obtain ⟨e1, e2, e3⟩ := or6 f q hf (by omega)
              have hca : c &&& q = q := by
                unfold holds at hh
                rw [hq, and6 c q hc (by omega)] at hh
                have := eq_of_beq hh
                omega
              rw [hq, e2]
              exact ih m _ (D ++ [pc]) C (f ||| q) (by omega) ⟨a, ha, ha2⟩ e3 (by rw [Nat.and_or_distrib_left, hs, hca])
            · rw [if_neg hh] at ha; cases ha
        · rw [if_neg g3]
          by_cases g5 : (ins L pc).f0 = 5
          · rw [aF_fail h0 g5] at hx
            obtain ⟨a, ha, ha2⟩ := hx
            rw [List.mem_singleton.1 ha] at ha2
            cases ha2
          · rw [if_neg g5]
            by_cases g26 : (ins L pc).f0 = 2 ∨ (ins L pc).f0 = 6
            · rw [if_pos g26]
              obtain ⟨o1, o2⟩ := h.outIn pc hpc (by omega)
              rcases g26 with g | g
              · rw [aF_cap h0 g] at hx
                obtain ⟨a, ha, ha2⟩ := hx
                rcases List.mem_cons.1 ha with rfl | ha
                · cases ha2
                · exact ih m _ (D ++ [pc]) _ f (by omega) ⟨a, ha, ha2⟩ hf hs
              · rw [aF_nop h0 g] at hx
                obtain ⟨a, ha, ha2⟩ := hx
                rcases List.mem_cons.1 ha with rfl | ha
                · cases ha2
                · exact ih m _ (D ++ [pc]) _ f (by omega) ⟨a, ha, ha2⟩ hf hs
            · rw [if_neg g26]; exact ⟨f, rfl, hf, hs⟩
theorem start_lead {nc most : Int} {st : Int} (h : PSound L st nc most) (t : Nat) (ht : t < L.length) (last : Int) (i : Nat) (D : List Nat) (M : List Int) (a : Ae) (ha : a ∈ startE L t s last i D M) (h2 : a.2 ≠ none) :
    ∃ v c : Nat, scF L L.length t 0 = (v : Int) ∧ v < 64 ∧ condZ last (dec s i).1 = (c : Int) ∧ c < 64 ∧ c &&& v = v := by
  obtain ⟨c, hc, hc2⟩ := condZ_nat last (dec s i).1
  unfold startE at ha
  rw [hc] at ha
  obtain ⟨v, v1, v2, v3⟩ := lead_new h c hc2 (i : Int) L.length (L.length + 1) t D (M.set 0 (i : Int)) 0 ht ⟨a, ha, by cases e : a.2 with | none => exact absurd e h2 | some x => rfl⟩ (by omega) (by simp)
  exact ⟨v, c, v1, v2, hc, hc2, v3⟩
theorem stD_nil (t : Nat) (P : Int → Prop) (hnone : ∀ (last : Int) (i : Nat) (D : List Nat) (M : List Int), P last → ∀ a ∈ startE L t s last i D M, a.2 = none) (hdec : ∀ i, (dec s i).2 ≠ 0 → P (dec s i).1) :
    ∀ (k : Nat) (last : Int) (i : Nat) (S : Mk) (M : List Int), P last → stD L t s k last i S M = [] := by
  have hrow : ∀ (k i : Nat) (A : List Ae) (S : Mk), (∀ a ∈ A, a.2 = none) → (hitD L s k i A S).1 = [] := by
    intro k i A
    induction A with
    | nil => intro S _; rw [hitD_nil]
    | cons a r ih =>
      intro S hA
      obtain ⟨pc, o⟩ := a
      have := hA (pc, o) (by simp)
      simp only at this
      subst this
      rw [hitD_none]
      exact ih S (fun a ha => hA a (by simp [ha]))
  intro k
  induction k with
  | zero => intros; rfl
  | succ k ih =>
    intro last i S M hl
    rw [stD]
    have h1 : (oneD L t s (k + 1) last i S M).1 = [] := hrow _ _ _ _ (hnone last i _ M hl)
    rw [h1, List.nil_append]
    split
    · rfl
    · rename_i hd
      exact ih _ _ _ _ (hdec i hd)
theorem condZ_text2 (last a : Int) (hl : last ≠ -1) (c : Nat) (h : condZ last a = (c : Int)) : c &&& 4 = 0 := by
  unfold condZ at h
  rw [decide_eq_false hl] at h
  have h2 : ∀ (b10 am a10 wb : Bool), ((cP false b10 am a10 wb).toNat &&& 4) = 0 := by unfold cP; decide
  have h3 := h2 (last == 10) (decide (a = -1)) (a == 10) (wdB last != wdB a)
  rw [h, Int.toNat_natCast] at h3
  exact h3
theorem anch_nil {nc most : Int} {st : Int} (h : PSound L st nc most) (t : Nat) (ht : t < L.length) (hanch : (scF L L.length t 0).toNat &&& 4 ≠ 0) (k : Nat) (last : Int) (i : Nat) (S : Mk) (M : List Int) (hl : last ≠ -1) : stD L t s k last i S M = [] := by
  refine stD_nil t (fun x => x ≠ -1) (fun last i D M hl a ha => ?_) (fun i hd e => hd ((dec_z s i).1 e)) k last i S M hl
  apply Decidable.byContradiction
  intro h2
  obtain ⟨v, c, h1, _, h3, _, h5⟩ := start_lead h t ht last i D M a ha h2
  have hc := condZ_text2 last _ hl c h3
  rw [h1, Int.toNat_natCast] at hanch
  apply hanch
  rw [← h5, Nat.and_assoc, Nat.and_comm v 4, ← Nat.and_assoc, hc, Nat.zero_and]
theorem fail_nil {nc most : Int} {st : Int} (h : PSound L st nc most) (t : Nat) (ht : t < L.length) (h255 : scF L L.length t 0 = 255) (k : Nat) (last : Int) (i : Nat) (S : Mk) (M : List Int) : stD L t s k last i S M = [] := by
  refine stD_nil t (fun _ => True) (fun last i D M _ a ha => ?_) (fun _ _ => trivial) k last i S M trivial
  apply Decidable.byContradiction
  intro h2
  obtain ⟨v, c, h1, h3, _⟩ := start_lead h t ht last i D M a ha h2
  omega
theorem lastR_ne (s : ByteArray) (i : Nat) (h : i ≠ 0) : lastR s i ≠ -1 := by
  unfold lastR
  rw [if_neg h]
  have := Lib.decodeLastL_rune (s.data.toList.take i)
  omega
theorem stD_len {nc most : Int} {st : Int} (h : PSound L st nc most) (t : Nat) (ht : t < L.length) {n : Nat} : ∀ (k : Nat) (last : Int) (i : Nat) (S : Mk) (M : List Int), M.length = n → ∀ x ∈ stD L t s k last i S M, x.length = n := by
  intro k
  induction k with
  | zero => intro last i S M _ x hx; cases hx
  | succ k ih =>
    intro last i S M hM x hx
    rw [stD] at hx
    rcases List.mem_append.1 hx with hx | hx
    · unfold oneD at hx
      exact hitD_len h (k + 1) i _ _ (WR.new h _ _ _ _ _ _ _ ht (by rw [List.length_set]; exact hM)) x hx
    · split at hx
      · cases hx
      · exact ih _ _ _ _ hM x hx
theorem bestF_mem : ∀ (H : List (List Int)) (o : Option (List Int)) (M : List Int), bestF o H = some M → o = some M ∨ M ∈ H := by
  intro H
  induction H with
  | nil => intro o M h; exact .inl h
  | cons x H ih =>
    intro o M h
    rw [bestF_cons] at h
    rcases ih _ M h with h1 | h1
    · cases o with
      | none => cases h1; exact .inr (by simp)
      | some M0 =>
        simp only [better] at h1
        split at h1
        · exact .inl h1
        · split at h1
          · cases h1; exact .inr (by simp)
          · exact .inl h1
    · exact .inr (by simp [h1])
theorem threads_says {nc most : Int} {t : Nat} (h : PSound L (t : Int) nc most) (i0 : Nat) (long : Bool) (nn n : Nat) (hn2 : 2 ≤ nn) (hn : n = 0 ∨ 2 ≤ n) (hnn : n ≤ nn) :
    (findF L t s long (s.size + 2) (lastR s i0) i0 (fun _ => []) (List.replicate nn (-1)) = none → (mF L (t : Int) (scF L L.length t 0) long s i0 n).1 = false) ∧
    ∀ M, findF L t s long (s.size + 2) (lastR s i0) i0 (fun _ => []) (List.replicate nn (-1)) = some M → (mF L (t : Int) (scF L L.length t 0) long s i0 n).1 = true ∧ (mF L (t : Int) (scF L L.length t 0) long s i0 n).2 = M.take n ∧ M.length = nn := by
  have ht1 : t < L.length := by have := h.st1; omega
  obtain ⟨H, hH⟩ : ∃ H, H = stD L t s (s.size + 2) (lastR s i0) i0 (fun _ => []) (List.replicate nn (-1)) := ⟨_, rfl⟩
  have hHl : ∀ x ∈ H, x.length = nn := by rw [hH]; exact stD_len h t ht1 _ _ _ _ _ (by simp)
  have hcut : stD L t s (s.size + 2) (lastR s i0) i0 (fun _ => []) (List.replicate n (-1)) = H.map (·.take n) := by
    rw [hH, ← stD_cut]
    rw [List.take_replicate, Nat.min_eq_left hnn]
  have hX : findF L t s long (s.size + 2) (lastR s i0) i0 (fun _ => []) (List.replicate nn (-1)) = if long = true then bestF none H else H.head? := by
    cases long with
    | true => rw [if_pos rfl, find_long h hn2 t ht1 _ _ _ _ _ (by simp), hH]
    | false => rw [if_neg (by simp), find_first, hH]
  rw [hX]
  unfold mF
  rw [Int.toNat_natCast]
  by_cases h255 : scF L L.length t 0 = 255
  · rw [if_pos h255]
    have hH0 : H = [] := by rw [hH]; exact fail_nil h t ht1 h255 _ _ _ _ _
    rw [hH0]
    refine ⟨fun _ => rfl, fun M e => ?_⟩
    cases long <;> cases e
  · rw [if_neg h255]
    obtain ⟨an, han⟩ : ∃ an, an = decide ((scF L L.length t 0).toNat &&& 4 ≠ 0) := ⟨_, rfl⟩
    rw [← han]
    have ha1 : ∀ k, an = true → i0 ≠ 0 → ∀ S M, stD L t s k (lastR s i0) i0 S M = [] := fun k e hi S M => anch_nil h t ht1 (of_decide_eq_true (han.symm.trans e)) _ _ _ _ _ (lastR_ne s i0 hi)
    have ha2 : ∀ q, an = true → (dec s q).2 ≠ 0 → ∀ k S M, stD L t s k (dec s q).1 (nxt s q) S M = [] := fun q e hd k S M => anch_nil h t ht1 (of_decide_eq_true (han.symm.trans e)) _ _ _ _ _ (fun e => hd ((dec_z s q).1 e))
    have hfirst : ∀ m, m ≤ nn → (mLoop L t false an s (s.size + 2) (lastR s i0) i0 [] false (List.replicate m (-1))).1 = !H.isEmpty ∧ ∀ x, H.head? = some x → (mLoop L t false an s (s.size + 2) (lastR s i0) i0 [] false (List.replicate m (-1))).2 = x.take m := fun m hm => by
      have hcm : stD L t s (s.size + 2) (lastR s i0) i0 (fun _ => []) (List.replicate m (-1)) = H.map (·.take m) := by
        rw [hH, ← stD_cut, List.take_replicate, Nat.min_eq_left hm]
      obtain ⟨l1, l2⟩ := loop_first h t ht1 an m (s.size + 2) (lastR s i0) i0 [] (fun _ => []) (List.replicate m (-1)) rfl (fun _ _ => rfl) WR.nil (by simp) (ha1 _) ha2
      rw [hitD_nil, List.nil_append, hcm] at l1 l2
      refine ⟨by rw [l1]; cases H <;> rfl, fun x hx => l2 _ (by rw [List.head?_map, hx]; rfl)⟩
    cases long with
    | false =>
      rw [if_neg (by simp)]
      obtain ⟨l1, l2⟩ := hfirst n hnn
      refine ⟨fun e => ?_, fun M e => ⟨?_, l2 M e, hHl M (List.mem_of_mem_head? e)⟩⟩
      · rw [l1, List.head?_eq_none_iff.1 e]; rfl
      · rw [l1]; cases H with
        | nil => cases e
        | cons a b => rfl
    | true =>
      rw [if_pos rfl]
      have hbm : ∀ M, bestF none H = some M → M ∈ H := fun M e => by
        rcases bestF_mem H none M e with h1 | h1
        · cases h1
        · exact h1
      rcases hn with rfl | hn
      · rw [show List.replicate 0 (-1 : Int) = [] from rfl, loop_zero]
        obtain ⟨l1, l2⟩ := hfirst 0 (by omega)
        refine ⟨fun e => ?_, fun M e => ⟨?_, ?_, hHl M (hbm M e)⟩⟩
        · rw [show ([] : List Int) = List.replicate 0 (-1 : Int) from rfl, l1, bestF_none_iff H e]; rfl
        · rw [show ([] : List Int) = List.replicate 0 (-1 : Int) from rfl, l1]; cases H with
          | nil => cases e
          | cons a b => rfl
        · cases hh : H with
          | nil => rw [hh] at e; cases e
          | cons a b =>
            rw [show ([] : List Int) = List.replicate 0 (-1 : Int) from rfl, l2 a (by rw [hh]; rfl)]
            rfl
      · have l1 := loop_long h hn t ht1 an (s.size + 2) (lastR s i0) i0 [] (fun _ => []) false (List.replicate n (-1)) rfl (fun _ _ => rfl) WR.nil (by simp) List.Pairwise.nil (fun a ha => by cases ha) (fun e => by cases e) (ha1 _) ha2
        rw [hitD_nil, List.nil_append, if_neg (by simp), hcut] at l1
        have l2 := bestF_cut n hn H none
        rw [Option.map_none] at l2
        rw [show oM false (List.replicate n (-1 : Int)) = none from rfl, l2] at l1
        generalize mLoop L t true an s (s.size + 2) (lastR s i0) i0 [] false (List.replicate n (-1)) = Y at *
        refine ⟨fun e => ?_, fun M e => ?_⟩
        · rw [e] at l1
          unfold oM at l1
          cases hy : Y.1 with
          | false => rfl
          | true => rw [hy, if_pos rfl] at l1; cases l1
        · rw [e] at l1
          unfold oM at l1
          cases hy : Y.1 with
          | false => rw [hy, if_neg (by simp)] at l1; cases l1
          | true =>
            rw [hy, if_pos rfl, Option.map_some] at l1
            exact ⟨rfl, Option.some.inj l1, hHl M (hbm M e)⟩
end
end Go.Proofs.YtmccgfjhmbioeaaDoor.PgFnPgThreads
namespace Go.Proofs.YtmccgfjhmbioeaaDoor.PgFnPgThreads
open Go.RowKit Go.Proofs.YtmccgfjhmbioeaaDoor.EvN Go.Proofs.YtmccgfjhmbioeaaDoor.Row Go.Proofs.YtmccgfjhmbioeaaDoor.Sf Go.Proofs.YtmccgfjhmbioeaaDoor.PFnPgThreads Go.Proofs.YtmccgfjhmbioeaaDoorW.PrintWords Go.Proofs.YtmccgfjhmbioeaaDoorW.PrintLast Go.Proofs.YtmccgfjhmbioeaaDoorW.PrintMore
set_option linter.unusedSimpArgs false
set_option linter.unusedVariables false
theorem New0.text {w w1 : World} {rb mb sp de sp1 de1 mcb p S nc : Nat} {mc : Nat → Value} {m8 v : Value} (h : New0 w w1 rb mb sp de sp1 de1 mcb p S nc mc m8) : New0 w (w1.setCell ⟨mb, 10, none⟩ v) rb mb sp de sp1 de1 mcb p S nc (up mc 10 v) m8 := by
  have k : ∀ {g : Nat} {cs : Array Value} {t : TypeId}, w1.heap[g]? = some (.cells cs t (0, 0)) → t ≠ 81 → (w1.setCell ⟨mb, 10, none⟩ v).heap[g]? = some (.cells cs t (0, 0)) := fun hg ht => (Below.heap_setCell _ _ _ _ (blk_ne hg h.ma ht)).trans hg
  exact ⟨mach_set h.ma 10 (by omega) v, h.m0, h.m1, h.m6, h.m8, h.q2, h.q3, h.q4, h.q5, k h.sa (by decide), k h.da (by decide), k h.sb (by decide), k h.db (by decide), k h.cb (by decide), h.lo, h.ne, below_set h.bl h.lo.1⟩
def ThrV (w w' : World) (m : Bool) (M : List Int) (v : Value) : Prop :=
  (m = false → v = .slice none 0 0) ∧ (m = true → (∃ g n c, v = .slice (some g) n c) ∧ RowAt w' (fun i => w.heap.size ≤ i ∧ i < w'.heap.size) 3 v (M.map (Value.int .i64)))
set_option maxRecDepth 100000 in
set_option maxHeartbeats 4000000 in
theorem zzthreads_calls {L : List I} {st nc : Int} (h : PSound L st nc 2000) (p : Nat) (w : World) (hP : ProgAt w p L st nc) (hS : Sizes w) (hF : Folds w) (hT : Tabs w) (s : ByteArray) (i0 : Nat) (hi : i0 ≤ s.size) (hsz : s.size ≤ 1000000) (hwk : L.length * (s.size + 1) ≤ 1048576)
    (rb mcv : Nat) (hre : ReAt w rb p (mpool L.length) mcv) (hmc : 2 ≤ mcv ∧ mcv ≤ 100000) (cv : Int) (long : Bool) (hrx : ReX w rb cv long) (hcv : 0 ≤ cv ∧ cv < 64 ∨ cv = 255) (n : Nat) (hn : n = 0 ∨ 2 ≤ n) (hnm : n ≤ mcv) :
    Calls Tryd.prog 13 #[.pointer (some ⟨rb, 0, none⟩), .string s, .int .i64 (i0 : Int), .int .i64 (n : Int)] w fun e w' => ∃ v, e = .returned v ∧ Below w.heap.size w w' ∧ ThrV w w' (mF L st cv long s i0 n).1 (mF L st cv long s i0 n).2 v := by
  have hm : L.length ≤ 2000 := by have := h.most; omega
  obtain ⟨z, hz1, hz2, hz3, hz4, hz5⟩ := mpool_way L.length hm
  obtain ⟨ad, hprg⟩ := hP.prg h.pos
  have hsz2 := hS (mpool L.length) hz5
  rw [hz1] at hsz2
  obtain ⟨b, m, hpb, _⟩ := id hP
  have hst : w.cell? ⟨p, 1, none⟩ = some (.int .i64 st) := (blk_cell hpb 1).trans rfl
  have HST := Lib.hid hst
  have HS := Lib.hid h
  have HP := Lib.hid hP
  have HPG := Lib.hid hprg
  have HF := Lib.hid hF
  have HT := Lib.hid hT
  have HRX := Lib.hid hrx
  have HWK := Lib.hid hwk
  obtain ⟨X, hX⟩ : ∃ X, X = mF L st cv long s i0 n := ⟨_, rfl⟩
  rw [← hX]
  have HX := Lib.hid hX
  have HG := Lib.hid (get_calls w rb p (mpool L.length) mcv z hre hmc hsz2 hz5 ⟨hz3, hz4⟩)
  clear h hP hprg hF hT hrx hwk hS hre hsz2 hX hpb hst
  go_enter Tryd.func13, Tryd.ntmps13
  go_wp2_with fail
  refine HG.out.mono ?_
  rintro e w1 ⟨mb, sp, de, sp1, de1, mcb, mc, rfl, hnew, h9, h11⟩
  have HN := Lib.hid hnew
  have H9 := Lib.hid h9
  have H11 := Lib.hid h11
  clear hnew h9 h11 HG
  have HIN := Lib.hid (inputs_calls s w1 mb mc (by omega) HN.out.ma)
  go_wp2_with fail
  refine HIN.out.mono ?_
  rintro e w2 ⟨rfl, hw2⟩
  have hn2 := HN.out.text (v := .string s)
  rw [← hw2] at hn2
  have HN2 := Lib.hid hn2
  clear hn2 hw2 HIN HN
  have HIT := Lib.hid (init_calls w2 mb mcb mcv mcv n _ HN2.out.ma HN2.out.m6 HN2.out.m8 hnm)
  go_wp2_with fail
  refine HIT.out.mono ?_
  rintro e w3 ⟨rfl, hw3⟩
  have hn3 := HN2.out.cut (v := .slice (some ⟨mcb, 0, none⟩) n mcv)
  rw [← hw3] at hn3
  have HN3 := Lib.hid hn3
  clear hn3 hw3 HIT HN2
  have HMT := Lib.hid (match_calls HS.out hm w p ad HPG.out HST.out HF.out HT.out s i0 hi hsz HWK.out rb cv long HRX.out hcv mb sp de sp1 de1 mcb z n mcv hn hnm (by omega) hz2 hz4 _ w3 HN3.out ((up_ne _ _ (by decide)).trans (up_same _ _ _)))
  rw [← HX.out] at HMT
  go_wp2_with fail
  refine HMT.out.mono ?_
  rintro e w4 ⟨rfl, hb4, mr, ma4, m84, hcp4, m94, m114⟩
  have HPUT := fun w5 (hm5 : w5.heap[mb]? = some (mach mr)) => put_calls w5 rb mb mr hm5 (m94.trans (((up_ne _ _ (by decide)).trans (up_ne _ _ (by decide))).trans H9.out)) (m114.trans (((up_ne _ _ (by decide)).trans (up_ne _ _ (by decide))).trans H11.out))
  have HPT := Lib.hid HPUT
  have HB4 := Lib.hid hb4
  have HMA := Lib.hid ma4
  have HCP := Lib.hid hcp4
  have hz48 := (mach_cell ma4 8 (by omega)).trans (congrArg some m84)
  have hlo := HN3.out.lo
  clear HPUT hb4 ma4 hcp4 HMT HN3 HX m94 m114 m84
  obtain ⟨m1, M⟩ := X
  simp only at HCP ⊢
  cases m1 with
  | false =>
    have HP4 := Lib.hid (HPT.out w4 HMA.out)
    go_wp2_with fail
    refine HP4.out.mono ?_
    rintro e w5 ⟨rfl, hfr⟩
    go_wp2_with fail
    exact bodyPost_ret (v := .slice none 0 0) (by simp [results, Tryd.results13, go_sem]) rfl ⟨_, rfl, HB4.out.trans (hfr.to_below HB4.out.size (fun i e => by rw [e]; exact hlo.1)), fun _ => rfl, fun e => by cases e⟩
  | true =>
    have hcp := HCP.out rfl
    have hML : M.length = n := by obtain ⟨_, _, k, _⟩ := hcp; exact k
    have hmbl := blk_lt HMA.out
    have hcl := hcp.lt
    have HO0 := Lib.hid (own_zero (B := w.heap.size) (heap_alloc_new w4 (.cells #[] 3)) HB4.out.size)
    have HBA := Lib.hid (below_alloc HB4.out (.cells #[] 3))
    have HROW := Lib.hid ((hcp.keep (w' := w4.alloc (.cells #[] 3)) (Below.heap_alloc _ _ _ hcl)).row (S := fun _ => True) trivial hmc.2)
    have HMA1 := Lib.hid (blk_alloc HMA.out (.cells #[] 3))
    have hz48a := mach_cell HMA1.out 8 (by omega)
    have hz48b : ∀ o, (w4.alloc o).cell? ⟨mb, 8, none⟩ = some (.slice (some ⟨mcb, 0, none⟩) n mcv) := fun o => ((below_alloc (Below.refl _ w4) o).cell (World.block_lt_of_cell? w4 _ hz48)).trans hz48
    clear hcp hz48a
    go_wp2_with (at_builtin; refine appmn rfl (.tmp 34) (.tmp 38) 27 rfl 3 (.int .i64 0) 8 Tryd.underlying27 iint rfl _ 0 [] rfl w.heap.size w HO0.out HBA.out (Nat.le_refl _) _ _ (M.map (Value.int .i64)) rfl HROW.out (by intro u hu; obtain ⟨y, _, rfl⟩ := List.mem_map.1 hu; rfl) (by rw [List.length_map]; omega) (by rw [List.length_map]; unfold maxLen; omega) ?_; intro v1 w5 hown1 hbel1 hg1 hnn1)
    have hm5 : w5.heap[mb]? = some (mach mr) := (hg1.out.block mb (by simp; omega) (fun e => by have e2 : mb = w4.heap.size := Option.some.inj (show some mb = some w4.heap.size from e); omega)).trans HMA1.out
    have HP5 := Lib.hid (HPT.out w5 hm5)
    have HM5 := Lib.hid hm5
    clear hm5 HPT
    refine HP5.out.mono ?_
    rintro e w6 ⟨rfl, hfr⟩
    have HFR := Lib.hid hfr
    have hown2 := hown1.out
    rw [List.nil_append, Nat.zero_add] at hown2
    have HO2 := Lib.hid hown2
    have HB5 := Lib.hid hbel1.out
    clear hown1 hbel1 hg1 hfr HP5 hown2
    go_wp2_with fail
    go_ret
    have hb6 : Below w.heap.size w w6 := HB5.out.trans (HFR.out.to_below HB5.out.size (fun i e => by rw [e]; exact hlo.1))
    have hown3 := HFR.out.own HO2.out (fun g hg e => own_not HO2.out HM5.out (by decide) (by rw [hg, e]))
    refine ⟨v1, rfl, hb6, fun e => (by cases e), fun _ => ⟨?_, ?_⟩⟩
    · rcases HO2.out.2 with ⟨hv1, _⟩ | ⟨gg, cpp, _, hv1, _⟩
      · exact absurd hv1 (hnn1.out (fun e => by cases (show Value.slice (some ⟨w4.heap.size, 0, none⟩) 0 0 = .slice none 0 0 from e)))
      · exact ⟨_, _, _, hv1⟩
    · exact RowAt.of_owns hown3 fun g hg => hown3.lt g hg
end Go.Proofs.YtmccgfjhmbioeaaDoor.PgFnPgThreads
namespace Go.Proofs.YtmccgfjhmbioeaaDoor.PgFnPgThreads
open Go.RowKit Go.Proofs.YtmccgfjhmbioeaaDoor.EvN Go.Proofs.YtmccgfjhmbioeaaDoor.Row Go.Proofs.YtmccgfjhmbioeaaDoor.Sf Go.Proofs.YtmccgfjhmbioeaaDoor.PFnPgThreads Go.Proofs.YtmccgfjhmbioeaaDoorW.PrintWords Go.Proofs.YtmccgfjhmbioeaaDoorW.PrintLast Go.Proofs.YtmccgfjhmbioeaaDoorW.PrintMore
set_option linter.unusedSimpArgs false
set_option linter.unusedVariables false
set_option maxRecDepth 100000 in
set_option maxHeartbeats 4000000 in
theorem run_calls {L : List I} {st nc : Int} (h : PSound L st nc 2000) (hr : ∀ i ∈ L, i.f3.length * 4 ≤ 140737488351232) (W0 w : World) (hW : Below W0.heap.size W0 w) (A : Option Addr) (c0 : Nat) (hK : Kd.C k52 W0 A L.length L) (hc : L.length ≤ c0) (hS : Sizes W0)
    (s : ByteArray) (i0 : Nat) (hi : i0 ≤ s.size) (hsz : s.size ≤ 1000000) (long : Bool) (n : Nat) (hn : n = 0 ∨ n = 2 ∨ (n : Int) = nc) :
    Calls Tryd.prog 12 #[.agg #[.slice A L.length c0, .int .i64 st, .int .i64 nc], .bool long, .string s, .int .i64 (i0 : Int), .int .i64 (n : Int)] w fun e w' => ∃ (rb p mcv : Nat), e = .returned (.tuple #[.pointer (some ⟨rb, 0, none⟩), .pointer (some ⟨p, 0, none⟩), .bool true]) ∧ Below w.heap.size w w' ∧ ProgAt w' p L st nc ∧ ReAt w' rb p (mpool L.length) mcv ∧ (2 ≤ mcv ∧ mcv ≤ 100000 ∧ (mcv : Int) = nc) ∧ ReX w' rb (scF L L.length st.toNat 0) long := by
  have hu24 := Tryd.underlying24
  have hm : L.length ≤ 2000 := by have := h.most; omega
  have hnn : (((n : Int) != 0) = false) ∨ (((n : Int) != 0) = true ∧ ((n : Int) != 2) = false) ∨ (((n : Int) != 0) = true ∧ ((n : Int) != 2) = true ∧ ((n : Int) != nc) = false) := by
    by_cases e0 : n = 0
    · exact .inl (by rw [e0]; rfl)
    · have h0 : ((n : Int) != 0) = true := by rw [bne_iff_ne]; omega
      by_cases e2 : n = 2
      · exact .inr (.inl ⟨h0, by rw [e2]; rfl⟩)
      · rcases hn with h | h | h
        · exact absurd h e0
        · exact absurd h e2
        · exact .inr (.inr ⟨h0, by rw [bne_iff_ne]; omega, by rw [h]; exact bne_self_eq_false _⟩)
  have hi0 : decide ((i0 : Int) < 0) = false := decide_eq_false (by omega)
  have hi1 : decide ((s.size : Int) < (i0 : Int)) = false := decide_eq_false (by omega)
  have hnc1 := h.nc1
  have HS := Lib.hid h
  have HR := Lib.hid hr
  have HK := Lib.hid hK
  have HW := Lib.hid hW
  have HSZ := Lib.hid (hS.below hW)
  have HI := Lib.hid hi
  have HNN := Lib.hid hnn
  clear h hr hK hS hn hi hW hnn
  go_enter Tryd.func12, Tryd.ntmps12
  go_wp2_with fail
  obtain ⟨gb, hgb⟩ : ∃ gb, gb = w.heap.size := ⟨_, rfl⟩
  have HB1 := Lib.hid (below_alloc (Below.refl w.heap.size w) (.cells #[.slice A L.length c0, .int .i64 st, .int .i64 nc] 24))
  have HW1 := Lib.hid (below_step HW.out HB1.out)
  have BK := Lib.hid (heap_alloc_new w (.cells #[.slice A L.length c0, .int .i64 st, .int .i64 nc] 24))
  rw [← hgb] at BK ⊢
  clear hgb
  generalize w.alloc (.cells #[.slice A L.length c0, .int .i64 st, .int .i64 nc] 24) = w1 at *
  refine (prog_calls HS.out HR.out W0 w1 A c0 HK.out hc HW1.out).mono ?_
  rintro e w2 ⟨p, rfl, hlp, hpa, hb2⟩
  have HPA := Lib.hid hpa
  have HB2 := Lib.hid (below_step HB1.out hb2)
  have hzp := (blk3 (blk_below BK.out hb2)).2.2
  clear hpa hb2 hlp BK
  rcases HNN.out with hn0 | ⟨hn0, hn2⟩ | ⟨hn0, hn2, hn3⟩
  all_goals
    go_wp2_with fail
    have HB3 := Lib.hid (below_alloc HB2.out (.cells #[.string ⟨#[]⟩] 9))
    have HPA3 := Lib.hid (HPA.out.below (below_alloc (Below.refl _ w2) (.cells #[.string ⟨#[]⟩] 9)))
    generalize w2.alloc (.cells #[.string ⟨#[]⟩] 9) = w3 at *
    refine (of_calls HS.out hm HS.out.op p w3 HPA3.out (HSZ.out.below HB3.out) _ 1 long).mono ?_
    rintro e w4 ⟨rb, mcv, rfl, hmc, hmc2, hrb, hre, hb4, hrx⟩
    obtain ⟨ncn, rfl⟩ : ∃ n : Nat, mcv = (n : Int) := ⟨mcv.toNat, by omega⟩
    have HQ := Lib.hid (And.intro hre (And.intro hb4 hrx))
    have HM := Lib.hid (show 2 ≤ ncn ∧ ncn ≤ 100000 ∧ (ncn : Int) = nc by omega)
    clear hmc hmc2 hrb hre hb4 hrx
    go_wp2_with fail
    go_ret3
    exact ⟨rb, p, ncn, rfl, below_step HB3.out HQ.out.2.1, HPA3.out.below HQ.out.2.1, HQ.out.1, HM.out, HQ.out.2.2⟩
set_option maxRecDepth 100000 in
set_option maxHeartbeats 4000000 in
theorem pgthreads_calls {L : List I} {st nc : Int} (h : PSound L st nc 2000) (hr : ∀ i ∈ L, i.f3.length * 4 ≤ 140737488351232) (W0 w : World) (hW : Below W0.heap.size W0 w) (A : Option Addr) (c0 : Nat) (hK : Kd.C k52 W0 A L.length L) (hc : L.length ≤ c0) (hS : Sizes W0) (hF : Folds W0) (hT : Tabs W0)
    (s : ByteArray) (i0 : Nat) (hi : i0 ≤ s.size) (hsz : s.size ≤ 1000000) (hwk : L.length * (s.size + 1) ≤ 1048576) (long : Bool) (n : Nat) (hn : n = 0 ∨ n = 2 ∨ (n : Int) = nc) :
    Calls Tryd.prog 6 #[.agg #[.slice A L.length c0, .int .i64 st, .int .i64 nc], .bool long, .string s, .int .i64 (i0 : Int), .int .i64 (n : Int)] w fun e w' => ∃ v, e = .returned (.tuple #[v, .bool true]) ∧ Below w.heap.size w w' ∧ ThrV w w' (mF L st (scF L L.length st.toNat 0) long s i0 n).1 (mF L st (scF L L.length st.toNat 0) long s i0 n).2 v := by
  have hu24 := Tryd.underlying24
  have hcv : 0 ≤ scF L L.length st.toNat 0 ∧ scF L L.length st.toNat 0 < 64 ∨ scF L L.length st.toNat 0 = 255 := scF_255 h L.length st.toNat 0 (by have := h.st1; have := h.st0; omega) (by omega)
  have hu : ∀ w1, Below w.heap.size w w1 → _ := fun w1 hb => run_calls h hr W0 w1 (below_step hW hb) A c0 hK hc hS s i0 hi hsz long n hn
  have HU := Lib.hid hu
  have HS := Lib.hid h
  have HW := Lib.hid hW
  have HQ := Lib.hid (And.intro (hS.below hW) (And.intro (hF.below hW) (Utf8Tabs_below hT hW)))
  have HN := Lib.hid (And.intro hi (And.intro hwk (And.intro hcv hn)))
  clear h hr hK hS hF hT hn hi hwk hcv hu hW
  go_enter Tryd.func6, Tryd.ntmps6
  go_wp2_with fail
  have HB1 := Lib.hid (below_alloc (Below.refl w.heap.size w) (.cells #[.slice A L.length c0, .int .i64 st, .int .i64 nc] 24))
  obtain ⟨gb, hgb⟩ : ∃ gb, gb = w.heap.size := ⟨_, rfl⟩
  rw [← hgb]
  clear hgb
  generalize w.alloc (.cells #[.slice A L.length c0, .int .i64 st, .int .i64 nc] 24) = w1 at *
  refine (HU.out w1 HB1.out).mono ?_
  rintro e w2 ⟨rb, p, mcv, rfl, hb2, hpa, hre, hmc, hrx⟩
  have HB2 := Lib.hid (below_step HB1.out hb2)
  have hth := zzthreads_calls HS.out p w2 hpa (HQ.out.1.below HB2.out) (HQ.out.2.1.below HB2.out) (Utf8Tabs_below HQ.out.2.2 HB2.out) s i0 HN.out.1 hsz HN.out.2.1 rb mcv hre ⟨hmc.1, hmc.2.1⟩ (scF L L.length st.toNat 0) long hrx HN.out.2.2.1 n (by have := HN.out.2.2.2; have := HS.out.nc0; omega) (by have := HN.out.2.2.2; have := hmc; omega)
  have HTH := Lib.hid hth
  clear hpa hre hrx hb2 hth HU
  go_wp2_with fail
  refine HTH.out.mono ?_
  rintro e w3 ⟨v, rfl, hb3, hv⟩
  have HV := Lib.hid (And.intro hb3 hv)
  clear hb3 hv HTH
  go_wp2_with fail
  have hz := HB2.out.size
  exact bodyPost_ret (v := .tuple #[v, .bool true]) (by simp [results, Tryd.results6, go_sem]) rfl ⟨v, rfl, below_step HB2.out HV.out.1, HV.out.2.1, fun e => ⟨(HV.out.2.2 e).1, (HV.out.2.2 e).2.mono fun i hi hs => ⟨⟨by omega, hs.2⟩, rfl⟩⟩⟩
end Go.Proofs.YtmccgfjhmbioeaaDoor.PgFnPgThreads
namespace Go.Proofs.YtmccgfjhmbioeaaDoor.PgFnPgThreads
open Go.RowKit Go.Proofs.YtmccgfjhmbioeaaDoor.EvN Go.Proofs.YtmccgfjhmbioeaaDoor.Row Go.Proofs.YtmccgfjhmbioeaaDoor.PFnPgThreads Go.Proofs.YtmccgfjhmbioeaaDoorW.PrintWords Go.Proofs.YtmccgfjhmbioeaaDoorW.PrintLast Go.Proofs.YtmccgfjhmbioeaaDoorW.PrintMore
set_option linter.unusedSimpArgs false
set_option linter.unusedVariables false
def bordB (s : ByteArray) (pos : Int) : Nat → Nat → Bool
  | 0, _ => false
  | k + 1, i => if (i : Int) < pos then (if (dec s i).2 = 0 then false else bordB s pos k (i + (dec s i).2)) else decide ((i : Int) = pos)
theorem bordB_Bd (s : ByteArray) (pos : Int) : ∀ (k i : Nat), i ≤ s.size → Bd s i → bordB s pos k i = true → ∃ j : Nat, pos = j ∧ Bd s j ∧ j ≤ s.size := by
  intro k
  induction k with
  | zero => intro i _ _ h; rw [bordB] at h; cases h
  | succ k ih =>
    intro i hi hb h
    rw [bordB] at h
    split at h
    · split at h
      · cases h
      · rename_i h2
        have hlt : i < s.size := by
          have := dec_w s i
          omega
        refine ih _ (dec_le s i hi) ?_ h
        rw [dec_dec s i hlt]
        exact .next hb hlt
    · exact ⟨i, (of_decide_eq_true h).symm, hb, hi⟩
set_option maxRecDepth 100000 in
theorem border_calls (s : ByteArray) (pos : Int) (hp : -9223372036854775808 ≤ pos ∧ pos ≤ 9223372036854775807) (w : World) (hs : s.size ≤ 100000) (hT : Tabs w) : Calls Tryd.prog 11 #[.string s, .int .i64 pos] w fun e w' => e = .returned (.bool (bordB s pos (s.size + 1) 0)) ∧ Below w.heap.size w w' := by
  have HT := Lib.hid hT
  obtain ⟨X, hX⟩ : ∃ X, X = bordB s pos (s.size + 1) 0 := ⟨_, rfl⟩
  rw [← hX]
  have HX := Lib.hid hX.symm
  clear hT hX
  go_enter Tryd.func11, Tryd.ntmps11
  go_wp2_with fail
  go_loopg [5] s.size (fun gk s5 wr => ∃ (i m : Nat), Hid (gk + i = s.size ∧ bordB s pos m i = X ∧ Below w.heap.size w wr ∧ s.size < i + m) ∧ i ≤ s.size ∧ s5 = .int .i64 i)
  case atStart => exact ⟨0, s.size + 1, ⟨by omega, HX.out, Below.refl _ _, by omega⟩, by omega, rfl⟩
  case round =>
    obtain ⟨i, m, HI, hi, rfl⟩ := hrel
    obtain ⟨m, rfl⟩ : ∃ m', m = m' + 1 := ⟨m - 1, by have := HI.out.2.2.2; omega⟩
    by_cases hlt : (i : Int) < pos
    · have hd1 : decide ((i : Int) < pos) = true := decide_eq_true hlt
      have hle := dec_le s i hi
      have hw := dec_w s i
      have HN : Hid ((if (dec s i).2 = 0 then false else bordB s pos m (i + (dec s i).2)) = X) := Lib.hid (by have := HI.out.2.1; rw [bordB, if_pos hlt] at this; exact this)
      go_wp2_with fail
      refine (next_calls s i wr hi (by omega) (Utf8Tabs_below HT.out HI.out.2.2.1)).mono ?_
      rintro e w1 ⟨rfl, hb1⟩
      have HB1 := Lib.hid (below_step HI.out.2.2.1 hb1)
      generalize hdn : (dec s i).2 = d at *
      generalize (dec s i).1 = c at *
      clear hdn
      by_cases h0 : d = 0
      · have hd2 : ((d : Int) == 0) = true := by rw [beq_iff_eq]; omega
        have HD0 := Lib.hid h0
        clear h0
        go_wp2_with fail
        refine bodyPost_ret (v := .bool false) (by simp [results, Tryd.results11, go_sem]) rfl ⟨?_, HB1.out⟩
        have := HN.out
        rw [if_pos HD0.out] at this
        rw [this]
      · have hd2 : ((d : Int) == 0) = false := by rw [beq_eq_false_iff_ne]; omega
        go_wp2_with fail
        go_roundg (gk - d)
        case measure => have := HI.out.1; omega
        case rel =>
          refine ⟨i + d, m, ⟨by have := HI.out.1; omega, ?_, HB1.out, by have := HI.out.2.2.2; omega⟩, hle, by first | rfl | go_num⟩
          have := HN.out
          rw [if_neg h0] at this
          exact this
    · have hd1 : decide ((i : Int) < pos) = false := decide_eq_false hlt
      have hX2 : decide ((i : Int) = pos) = X := by have := HI.out.2.1; rw [bordB, if_neg hlt] at this; exact this
      have HX2 := Lib.hid hX2
      clear hX2
      go_wp2_with fail
      go_ret
      exact ⟨by rw [← HX2.out]; rfl, HI.out.2.2.1⟩
def fineP (L : List I) (st nc : Int) (s : ByteArray) (pos ncap : Int) : Bool := decide (s.size ≤ 60000) && decide (L.length * (s.size + 1) ≤ 1048576) && psnd L st nc 2000 && bordB s pos (s.size + 1) 0 && (decide (ncap = 0) || decide (ncap = 2) || decide (ncap = nc))
set_option maxRecDepth 100000 in
set_option maxHeartbeats 4000000 in
theorem finep_calls {L : List I} {st nc : Int} (hL : L.length ≤ 2147483647) (hr : ∀ i ∈ L, i.f3.length ≤ 2147483647) (s : ByteArray) (hz : s.size ≤ 2147483647) (pos ncap : Int) (hp : -9223372036854775808 ≤ pos ∧ pos ≤ 9223372036854775807) (w : World) (hT : Tabs w) (A : Option Addr) (c : Nat) (hK : Kd.C k52 w A L.length L) (hc : L.length ≤ c) :
    Calls Tryd.prog 5 #[.agg #[.slice A L.length c, .int .i64 st, .int .i64 nc], .string s, .int .i64 pos, .int .i64 ncap] w fun e w' => e = .returned (.bool (fineP L st nc s pos ncap)) ∧ Below w.heap.size w w' := by
  have hu24 := Tryd.underlying24
  obtain ⟨kp, hkp⟩ := (ev_psnd L st nc 2000 (by omega) (fun i hi => by have := hr i hi; omega)).get
  have HK := Lib.hid hK
  have HKP := Lib.hid hkp
  have HT := Lib.hid hT
  have HP := Lib.hid hp
  clear hK hr hkp hT hp
  unfold fineP
  go_enter Tryd.func5, Tryd.ntmps5
  by_cases h1 : s.size ≤ 60000
  · have d1 : decide (s.size ≤ 60000) = true := decide_eq_true h1
    have hmul : L.length * (s.size + 1) ≤ 2147483647 * 60001 := Nat.mul_le_mul hL (by omega)
    have hw : wrap64 ((L.length : Int) * ((s.size : Int) + 1)) = ((L.length * (s.size + 1) : Nat) : Int) := by
      rw [show (L.length : Int) * ((s.size : Int) + 1) = ((L.length * (s.size + 1) : Nat) : Int) by push_cast; rfl]
      generalize L.length * (s.size + 1) = m at *
      have := wrap_nat m 0 (by omega)
      simpa using this
    generalize L.length * (s.size + 1) = m at *
    by_cases h2 : m ≤ 1048576
    · have d2 : decide (m ≤ 1048576) = true := decide_eq_true h2
      rw [d1, d2, Bool.true_and, Bool.true_and]
      go_wp2_with fail
      refine (spec_ProgSound.calls kp A c L st nc 2000 (psnd L st nc 2000) _ (Kd.C_below HK.out (below_alloc (Below.refl _ w) _)) hc HKP.out).mono ?_
      rintro e w2 ⟨rfl, hb2⟩
      have HB2 := Lib.hid (below_step (below_alloc (Below.refl _ w) _) hb2)
      have hca := (blk_cell (heap_alloc_new w (.cells #[.slice A L.length c, .int .i64 st, .int .i64 nc] 24)) 2).trans rfl
      have HC2 := Lib.hid hb2
      clear hb2 HKP
      cases hq : psnd L st nc 2000 with
      | false =>
        go_wp2_with fail
        go_ret
        exact ⟨by rw [hq]; rfl, HB2.out⟩
      | true =>
        go_wp2_with fail
        refine (border_calls s pos HP.out _ (by omega) (Utf8Tabs_below HT.out HB2.out)).mono ?_
        rintro e w3 ⟨rfl, hb3⟩
        have HB3 := Lib.hid (below_step HB2.out hb3)
        have HC3 := Lib.hid (below_step HC2.out hb3)
        clear hb3
        cases hb : bordB s pos (s.size + 1) 0 with
        | false =>
          go_wp2_with fail
          go_ret
          exact ⟨by rw [hq, hb]; rfl, HB3.out⟩
        | true =>
          by_cases n0 : ncap = 0
          · have e0 : (ncap == 0) = true := beq_iff_eq.2 n0
            go_wp2_with fail
            go_ret
            exact ⟨by rw [hq, hb, decide_eq_true n0]; rfl, HB3.out⟩
          · have e0 : (ncap == 0) = false := beq_eq_false_iff_ne.2 n0
            by_cases n2 : ncap = 2
            · have e2 : (ncap == 2) = true := beq_iff_eq.2 n2
              go_wp2_with fail
              go_ret
              exact ⟨by rw [hq, hb, decide_eq_false n0, decide_eq_true n2]; rfl, HB3.out⟩
            · have e2 : (ncap == 2) = false := beq_eq_false_iff_ne.2 n2
              have hcl : w3.cell? ⟨w.heap.size, 2, none⟩ = some (.int .i64 nc) := (HC3.out.cell (World.block_lt_of_cell? _ _ hca)).trans hca
              by_cases nn : ncap = nc
              · have e3 : (ncap == nc) = true := beq_iff_eq.2 nn
                go_wp2_with fail
                go_ret
                exact ⟨by rw [hq, hb, decide_eq_false n0, decide_eq_false n2, decide_eq_true nn]; rfl, HB3.out⟩
              · have e3 : (ncap == nc) = false := beq_eq_false_iff_ne.2 nn
                go_wp2_with fail
                go_ret
                exact ⟨by rw [hq, hb, decide_eq_false n0, decide_eq_false n2, decide_eq_false nn]; rfl, HB3.out⟩
    · have d2 : decide (m ≤ 1048576) = false := decide_eq_false h2
      rw [d1, d2, Bool.true_and, Bool.false_and, Bool.false_and, Bool.false_and]
      go_wp2_with fail
      go_ret
      exact ⟨rfl, below_alloc (Below.refl _ w) _⟩
  · have d1 : decide (s.size ≤ 60000) = false := decide_eq_false h1
    rw [d1, Bool.false_and, Bool.false_and, Bool.false_and, Bool.false_and]
    go_wp2_with fail
    go_ret
    exact ⟨rfl, below_alloc (Below.refl _ w) _⟩
end Go.Proofs.YtmccgfjhmbioeaaDoor.PgFnPgThreads
namespace Go.Proofs.YtmccgfjhmbioeaaDoor.PgFnPgThreads
open Go.RowKit Go.Proofs.YtmccgfjhmbioeaaDoor.EvN Go.Proofs.YtmccgfjhmbioeaaDoor.Row Go.Proofs.YtmccgfjhmbioeaaDoor.PFnPgThreads Go.Proofs.YtmccgfjhmbioeaaDoorW.PrintWords Go.Proofs.YtmccgfjhmbioeaaDoorW.PrintLast Go.Proofs.YtmccgfjhmbioeaaDoorW.PrintMore
set_option linter.unusedVariables false
set_option linter.unusedSimpArgs false
set_option maxRecDepth 100000 in
set_option maxHeartbeats 4000000 in
theorem cut_nil_calls (w : World) (n : Nat) : Calls Tryd.prog 15 #[.slice none 0 0, .int .i64 (n : Int)] w fun e w' => e = .returned (.slice none 0 0) ∧ w' = w := by
  have hnil : ∀ w : World, (binOp .eql 27 (.slice none 0 0) (.slice none 0 0)).run Tryd.prog w = .ok (.bool true) w := fun w => Lib.run_eql_slice_nil w _ _ none 0 0 0 0 Tryd.underlying27
  go_enter Tryd.func15, Tryd.ntmps15
  go_wp2_with fail
  go_ret
  exact ⟨rfl, rfl⟩
set_option maxRecDepth 100000 in
set_option maxHeartbeats 4000000 in
theorem cut_row_calls (w : World) (bb nn cp n : Nat) (hn : n ≤ nn) (hc : nn ≤ cp) (hz : cp ≤ 9223372036854775807) : Calls Tryd.prog 15 #[.slice (some ⟨bb, 0, none⟩) nn cp, .int .i64 (n : Int)] w fun e w' => e = .returned (.slice (some ⟨bb, 0, none⟩) n cp) ∧ w' = w := by
  have hnil : ∀ w : World, (binOp .eql 27 (.slice (some ⟨bb, 0, none⟩) nn cp) (.slice none 0 0)).run Tryd.prog w = .ok (.bool false) w := fun w => Lib.run_eql_slice_nil w _ _ (some ⟨bb, 0, none⟩) nn cp 0 0 Tryd.underlying27
  go_enter Tryd.func15, Tryd.ntmps15
  by_cases h : nn ≤ n
  · obtain rfl : n = nn := by omega
    go_wp2_with fail
    go_ret
    exact ⟨rfl, rfl⟩
  · have hd : decide ((n : Int) ≥ (nn : Int)) = false := decide_eq_false (by omega)
    go_wp2_with fail
    go_ret
    exact ⟨rfl, rfl⟩
set_option maxRecDepth 100000 in
set_option maxHeartbeats 4000000 in
theorem eqm_nil_calls (w : World) : Calls Tryd.prog 14 #[.slice none 0 0, .slice none 0 0] w fun e w' => e = .returned (.bool true) ∧ Below w.heap.size w w' := by
  have hnil : ∀ w : World, (binOp .eql 27 (.slice none 0 0) (.slice none 0 0)).run Tryd.prog w = .ok (.bool true) w := fun w => Lib.run_eql_slice_nil w _ _ none 0 0 0 0 Tryd.underlying27
  go_enter Tryd.func14, Tryd.ntmps14
  go_wp2_with fail
  go_loopg [20] 0 (fun gk s20 wr => wr = w ∧ s20 = .int .i64 0)
  case atStart => exact ⟨rfl, rfl⟩
  case round =>
    obtain ⟨rfl, rfl⟩ := hrel
    go_wp2_with fail
    go_ret
    exact ⟨rfl, Below.refl _ _⟩
set_option maxRecDepth 100000 in
set_option maxHeartbeats 4000000 in
theorem eqm_row_calls (w : World) (n g1 c1 bb cp : Nat) (f : Nat → Int) (h1 : ∀ j, j < n → w.cell? ⟨g1, j, none⟩ = some (.int .i64 (f j))) (h2 : ∀ j, j < n → w.cell? ⟨bb, j, none⟩ = some (.int .i64 (f j))) (hc1 : n ≤ c1) (hc2 : n ≤ cp) (hn : n ≤ 1000000) :
    Calls Tryd.prog 14 #[.slice (some ⟨g1, 0, none⟩) n c1, .slice (some ⟨bb, 0, none⟩) n cp] w fun e w' => e = .returned (.bool true) ∧ Below w.heap.size w w' := by
  have hnil1 : ∀ w : World, (binOp .eql 27 (.slice (some ⟨g1, 0, none⟩) n c1) (.slice none 0 0)).run Tryd.prog w = .ok (.bool false) w := fun w => Lib.run_eql_slice_nil w _ _ (some ⟨g1, 0, none⟩) n c1 0 0 Tryd.underlying27
  have hnil2 : ∀ w : World, (binOp .eql 27 (.slice (some ⟨bb, 0, none⟩) n cp) (.slice none 0 0)).run Tryd.prog w = .ok (.bool false) w := fun w => Lib.run_eql_slice_nil w _ _ (some ⟨bb, 0, none⟩) n cp 0 0 Tryd.underlying27
  have H1 := Lib.hid h1
  have H2 := Lib.hid h2
  clear h1 h2
  go_enter Tryd.func14, Tryd.ntmps14
  go_wp2_with fail
  go_loopg [20] n (fun gk s20 wr => ∃ k : Nat, Hid (gk + k = n ∧ Below w.heap.size w wr) ∧ k ≤ n ∧ s20 = .int .i64 (k : Int))
  case atStart => exact ⟨0, ⟨by omega, Below.refl _ _⟩, Nat.zero_le _, rfl⟩
  case round =>
    obtain ⟨k, HI, hk, rfl⟩ := hrel
    by_cases hlt : k < n
    · have hd : decide (k < n) = true := decide_eq_true hlt
      have e1 := H1.out k hlt
      have e2 := H2.out k hlt
      have z1 : wr.cell? ⟨g1, k, none⟩ = some (.int .i64 (f k)) := (HI.out.2.cell (World.block_lt_of_cell? w _ e1)).trans e1
      have z2 : wr.cell? ⟨bb, k, none⟩ = some (.int .i64 (f k)) := (HI.out.2.cell (World.block_lt_of_cell? w _ e2)).trans e2
      have e0 : ((f k) != (f k)) = false := bne_self_eq_false _
      clear e1 e2
      go_wp2_with fail
      go_quiet (fail)
      go_wp2_with fail
      go_roundg (gk - 1)
      case measure => have := HI.out.1; omega
      case rel => exact ⟨k + 1, ⟨by have := HI.out.1; omega, pw_below_drewN HI.out.2 _⟩, by omega, by go_num⟩
    · have hd : decide (k < n) = false := decide_eq_false hlt
      go_wp2_with fail
      go_ret
      exact ⟨rfl, HI.out.2⟩
set_option maxRecDepth 100000 in
set_option maxHeartbeats 4000000 in
theorem same_nil_calls (w : World) (n : Nat) : Calls Tryd.prog 7 #[.slice none 0 0, .slice none 0 0, .int .i64 (n : Int)] w fun e w' => e = .returned (.bool true) ∧ Below w.heap.size w w' := by
  go_enter Tryd.func7, Tryd.ntmps7
  go_wp2_with fail
  refine (cut_nil_calls w n).mono ?_
  rintro e w1 ⟨rfl, rfl⟩
  go_wp2_with fail
  refine (eqm_nil_calls w1).mono ?_
  rintro e w2 ⟨rfl, hb⟩
  have HB := Lib.hid hb
  clear hb
  go_wp2_with fail
  go_ret
  exact ⟨rfl, HB.out⟩
set_option maxRecDepth 100000 in
set_option maxHeartbeats 4000000 in
theorem same_row_calls (w : World) (n nn g1 c1 bb cp : Nat) (f : Nat → Int) (h1 : ∀ j, j < n → w.cell? ⟨g1, j, none⟩ = some (.int .i64 (f j))) (h2 : ∀ j, j < n → w.cell? ⟨bb, j, none⟩ = some (.int .i64 (f j))) (hc1 : n ≤ c1) (hnn : n ≤ nn) (hc2 : nn ≤ cp) (hn : n ≤ 1000000) (hz : cp ≤ 9223372036854775807) :
    Calls Tryd.prog 7 #[.slice (some ⟨g1, 0, none⟩) n c1, .slice (some ⟨bb, 0, none⟩) nn cp, .int .i64 (n : Int)] w fun e w' => e = .returned (.bool true) ∧ Below w.heap.size w w' := by
  have HE := Lib.hid (eqm_row_calls w n g1 c1 bb cp f h1 h2 hc1 (by omega) hn)
  clear h1 h2
  go_enter Tryd.func7, Tryd.ntmps7
  go_wp2_with fail
  refine (cut_row_calls w bb nn cp n hnn hc2 hz).mono ?_
  rintro e w1 ⟨rfl, rfl⟩
  go_wp2_with fail
  refine HE.out.mono ?_
  rintro e w2 ⟨rfl, hb⟩
  have HB := Lib.hid hb
  clear hb HE
  go_wp2_with fail
  go_ret
  exact ⟨rfl, HB.out⟩
end Go.Proofs.YtmccgfjhmbioeaaDoor.PgFnPgThreads
namespace Go.Proofs.YtmccgfjhmbioeaaDoor.PgFnPgThreads
open Go.RowKit Go.Proofs.YtmccgfjhmbioeaaDoor.EvN Go.Proofs.YtmccgfjhmbioeaaDoor.Row Go.Proofs.YtmccgfjhmbioeaaDoor.Sf Go.Proofs.YtmccgfjhmbioeaaDoor.PFnPgThreads Go.Proofs.YtmccgfjhmbioeaaDoorW.PrintWords Go.Proofs.YtmccgfjhmbioeaaDoorW.PrintLast Go.Proofs.YtmccgfjhmbioeaaDoorW.PrintMore
set_option linter.unusedVariables false
set_option linter.unusedSimpArgs false
theorem VR.pick {long : Bool} {C : List Int} {H : List (List Int) × Mk} {b : Bool} {S' : Mk} {C' : List Int} {o' : Option (List Int)} (h : VR long C none H b S' C' o') : o' = pickF long H.1 ∧ (o' = none → S' = H.2 ∧ C' = C) := by
  unfold pickF
  rcases h with ⟨rfl, h1, h2, h3, h4⟩ | ⟨rfl, rfl, x, t, h1, h2⟩
  · cases long with
    | true => exact ⟨by rw [if_pos rfl]; exact h3 rfl, fun _ => ⟨h1, h2⟩⟩
    | false =>
      obtain ⟨e1, e2⟩ := h4 rfl
      exact ⟨by rw [if_neg (by simp), e1, e2]; rfl, fun _ => ⟨h1, h2⟩⟩
  · exact ⟨by rw [if_neg (by simp), h1, h2]; rfl, fun e => by rw [h2] at e; cases e⟩
theorem made_bs (c : Nat) : madeCells #[Value.bool false] c = Array.replicate c (.bool false) := by
  apply Array.ext
  · simp [madeCells]
  · intro i h1 h2
    simp [madeCells, Nat.mod_one]
theorem make_bs (n : Nat) (hn : n ≤ 2000000) (W : World) : (Instr.makeSlice 44 (.int .i64 (n : Int)) (.int .i64 (n : Int))).run Tryd.prog W = .ok (.slice (some ⟨W.heap.size, 0, none⟩) n n) (W.alloc (.cells (Array.replicate n (.bool false)) 4)) := by
  obtain ⟨i, hi, hz, hsize, hby⟩ := info_parts ibool
  have := run_make (P := Tryd.prog) W 44 4 i (.bool false) Tryd.underlying44 hi hz .i64 .i64 (n : Int) (n : Int) (by omega) (by omega) (by rw [hby]; omega) (by omega)
  rw [hsize, Nat.mul_one, Int.toNat_natCast] at this
  rw [this, show (Value.bool false).cells = #[Value.bool false] from rfl, made_bs]
section
variable {A : Option Addr} {c0 : Nat} {L : List I} {st nc : Int} {s : ByteArray} {long : Bool} {n : Nat} {w w1 : World}
theorem VS.made {W : World} {g sb cb : Nat} (hb : Below w.heap.size w W) (h1 : W.heap[g]? = some (.cells #[.slice A L.length c0, .int .i64 st, .int .i64 nc, .string s, .bool long, .slice (some ⟨sb, 0, none⟩) (L.length * (s.size + 1)) (L.length * (s.size + 1)), .slice (some ⟨cb, 0, none⟩) n n, .slice none 0 0] 46 (0, 0)))
    (h2 : W.heap[sb]? = some (.cells (Array.replicate (L.length * (s.size + 1)) (.bool false)) 4 (0, 0))) (h3 : W.heap[cb]? = some (.cells ((List.replicate n 0).map (Value.int .i64)).toArray 3 (0, 0))) (hl : w.heap.size ≤ g ∧ w.heap.size ≤ sb ∧ w.heap.size ≤ cb) :
    VS w A c0 L st nc s long g sb cb n (fun _ => []) (List.replicate n 0) none W :=
  ⟨⟨_, h1, rfl⟩, ⟨_, h2, by simp, fun pc j hp hj => ⟨false, by rw [Array.getElem?_replicate, if_pos (key_lt hp hj)], fun _ => (decide_eq_false (by simp)).symm⟩⟩, CapAt.made (Nat.le_refl _) h3, hl, hb⟩
def FQ (w W : World) (A : Option Addr) (c0 : Nat) (L : List I) (st nc : Int) (s : ByteArray) (long : Bool) (n : Nat) : Prop :=
  ∃ sb cb, VS w A c0 L st nc s long (w.heap.size + 3) sb cb n (fun _ => []) (List.replicate n 0) none W ∧ W.heap[w.heap.size]? = some (.cells #[.slice A L.length c0, .int .i64 st, .int .i64 nc] 24 (0, 0))
theorem FQ.drewN {W : World} (h : FQ w W A c0 L st nc s long n) (m : Nat) : FQ w (W.drewN m) A c0 L st nc s long n := by
  obtain ⟨sb, cb, h1, h2⟩ := h
  exact ⟨sb, cb, h1.drewN m, h2⟩
theorem fq1 {K : Nat} (hK : L.length * (s.size + 1) = K) (hb : Below w.heap.size w w1) (hz : w1.heap.size = w.heap.size + 1) (h0 : w1.heap[w.heap.size]? = some (.cells #[.slice A L.length c0, .int .i64 st, .int .i64 nc] 24 (0, 0))) :
    FQ w (((w1.alloc (.cells (Array.replicate K (.bool false)) 4)).alloc (.cells (Array.replicate n (.int .i64 0)) 3)).alloc (.cells #[.slice A L.length c0, .int .i64 st, .int .i64 nc, .string s, .bool long, .slice (some ⟨w.heap.size + 1, 0, none⟩) K K, .slice (some ⟨w.heap.size + 1 + 1, 0, none⟩) n n, .slice none 0 0] 46)).drew A c0 L st nc s long n := by
  subst hK
  have z1 : ∀ o, (w1.alloc o).heap.size = w1.heap.size + 1 := fun o => by simp
  have z2 : ∀ o o', ((w1.alloc o).alloc o').heap.size = w1.heap.size + 2 := fun o o' => by simp
  rw [show (Array.replicate n (Value.int .i64 0)) = ((List.replicate n (0 : Int)).map (Value.int .i64)).toArray by simp, ← hz]
  refine FQ.drewN ?_ 1
  refine ⟨w1.heap.size, w1.heap.size + 1, .made (below_alloc (below_alloc (below_alloc hb _) _) _) ?_ ?_ ?_ (by omega), ?_⟩
  · rw [show w.heap.size + 3 = w1.heap.size + 2 by omega, ← z2]; exact heap_alloc_new _ _
  · exact (Below.heap_alloc _ _ _ (by rw [z2]; omega)).trans ((Below.heap_alloc _ _ _ (by rw [z1]; omega)).trans (heap_alloc_new _ _))
  · refine (Below.heap_alloc _ _ _ (by rw [z2]; omega)).trans ?_
    rw [← z1]; exact heap_alloc_new _ _
  · exact (Below.heap_alloc _ _ _ (by rw [z2]; omega)).trans ((Below.heap_alloc _ _ _ (by rw [z1]; omega)).trans ((Below.heap_alloc _ _ _ (by omega)).trans h0))
theorem fq2 {K : Nat} (hK : L.length * (s.size + 1) = K) (hb : Below w.heap.size w w1) (hz : w1.heap.size = w.heap.size + 1) (h0 : w1.heap[w.heap.size]? = some (.cells #[.slice A L.length c0, .int .i64 st, .int .i64 nc] 24 (0, 0))) :
    FQ w (((w1.alloc (.cells (Array.replicate n (.int .i64 0)) 3)).alloc (.cells (Array.replicate K (.bool false)) 4)).alloc (.cells #[.slice A L.length c0, .int .i64 st, .int .i64 nc, .string s, .bool long, .slice (some ⟨w.heap.size + 1 + 1, 0, none⟩) K K, .slice (some ⟨w.heap.size + 1, 0, none⟩) n n, .slice none 0 0] 46)).drew A c0 L st nc s long n := by
  subst hK
  have z1 : ∀ o, (w1.alloc o).heap.size = w1.heap.size + 1 := fun o => by simp
  have z2 : ∀ o o', ((w1.alloc o).alloc o').heap.size = w1.heap.size + 2 := fun o o' => by simp
  rw [show (Array.replicate n (Value.int .i64 0)) = ((List.replicate n (0 : Int)).map (Value.int .i64)).toArray by simp, ← hz]
  refine FQ.drewN ?_ 1
  refine ⟨w1.heap.size + 1, w1.heap.size, .made (below_alloc (below_alloc (below_alloc hb _) _) _) ?_ ?_ ?_ (by omega), ?_⟩
  · rw [show w.heap.size + 3 = w1.heap.size + 2 by omega, ← z2]; exact heap_alloc_new _ _
  · refine (Below.heap_alloc _ _ _ (by rw [z2]; omega)).trans ?_
    rw [← z1]; exact heap_alloc_new _ _
  · exact (Below.heap_alloc _ _ _ (by rw [z2]; omega)).trans ((Below.heap_alloc _ _ _ (by rw [z1]; omega)).trans (heap_alloc_new _ _))
  · exact (Below.heap_alloc _ _ _ (by rw [z2]; omega)).trans ((Below.heap_alloc _ _ _ (by rw [z1]; omega)).trans ((Below.heap_alloc _ _ _ (by omega)).trans h0))
def FI (w wr : World) (A : Option Addr) (c0 : Nat) (L : List I) (t : Nat) (nc : Int) (s : ByteArray) (long : Bool) (sb cb n : Nat) (X : Option (List Int)) (i k : Nat) (S : Mk) (C : List Int) : Prop :=
  Bd s i ∧ s.size < i + k ∧ (∀ j, Fine L.length (S j)) ∧ VS w A c0 L (t : Int) nc s long (w.heap.size + 3) sb cb n S C none wr ∧ wr.heap[w.heap.size]? = some (.cells #[.slice A L.length c0, .int .i64 (t : Int), .int .i64 nc] 24 (0, 0)) ∧ findF L t s long k (lastR s i) i S (List.replicate n (-1)) = X
theorem FI.caps {wr : World} {t sb cb i k : Nat} {X : Option (List Int)} {S : Mk} {C : List Int} (h : FI w wr A c0 L t nc s long sb cb n X i k S C) {j : Nat} (hj : j < n) (v : Int) : FI w (wr.setCell ⟨cb, j, none⟩ (.int .i64 v)) A c0 L t nc s long sb cb n X i k S (C.set j v) := by
  obtain ⟨h1, h2, h3, h4, h5, h6⟩ := h
  obtain ⟨r, c1, c2⟩ := h4.cp
  exact ⟨h1, h2, h3, h4.caps hj v, (Below.heap_setCell _ _ _ _ (blk_ne h5 c1 (by decide))).trans h5, h6⟩
set_option maxRecDepth 100000 in
set_option maxHeartbeats 4000000 in
theorem find_calls {most : Int} {t : Nat} (hp : PSound L (t : Int) nc most) (hsz : s.size ≤ 60000) (hwk : L.length * (s.size + 1) ≤ 1048576) (hnc : nc = (n : Int)) (hn2 : n ≤ 2002)
    (w : World) (hc : L.length ≤ c0) (hK : Kd.C k52 w A L.length L) (hr : ∀ i ∈ L, i.f3.length ≤ 4611686018427387000) (hF : Folds w) (hT : Tabs w) (i0 : Nat) (hi0 : i0 ≤ s.size) (hb0 : Bd s i0) :
    Calls Tryd.prog 8 #[.agg #[.slice A L.length c0, .int .i64 (t : Int), .int .i64 nc], .string s, .int .i64 (i0 : Int), .bool long] w
      fun e w' => ∃ v cb, e = .returned v ∧ Below w.heap.size w w' ∧ BV w w' cb n v (findF L t s long (s.size + 2) (lastR s i0) i0 (fun _ => []) (List.replicate n (-1))) := by
  subst hnc
  have hu24 := Tryd.underlying24
  have ht1 : t < L.length := by have := hp.st1; omega
  have hn1 : 2 ≤ n := by have := hp.nc0; omega
  obtain ⟨X, hX⟩ : ∃ X, X = findF L t s long (s.size + 2) (lastR s i0) i0 (fun _ => []) (List.replicate n (-1)) := ⟨_, rfl⟩
  rw [← hX]
  have HX := Lib.hid hX
  have HB0 := Lib.hid hb0
  have HVC := Lib.hid (fun (sb cb k m : Nat) => visit_calls (W0 := w) (A := A) (c0 := c0) (long := long) (g := w.heap.size + 3) (sb := sb) (cb := cb) (n := n) hp hsz hwk rfl hn2 hK hr hF hT k m)
  have HPS := Lib.hid hp
  have HT := Lib.hid hT
  have hk1 : (L.length : Int) * ((s.size : Int) + 1) = ((L.length * (s.size + 1) : Nat) : Int) := by push_cast; rfl
  have hk2 : wrap64 ((s.size : Int) + 1) = (s.size : Int) + 1 := by have := Go.Proofs.YtmccgfjhmbioeaaDoor.EvN.wrap_nat s.size 1 (by omega); simpa using this
  have hk3 : wrap64 ((L.length : Int) * ((s.size : Int) + 1)) = ((L.length * (s.size + 1) : Nat) : Int) := by
    rw [hk1]
    generalize L.length * (s.size + 1) = m at *
    have := Go.Proofs.YtmccgfjhmbioeaaDoor.EvN.wrap_nat m 0 (by omega)
    simpa using this
  clear hK hr hF hT hp hX hb0
  obtain ⟨K, hKK⟩ : ∃ K, L.length * (s.size + 1) = K := ⟨_, rfl⟩
  rw [hKK] at hwk hk1 hk3
  have HKK := Lib.hid hKK
  clear hKK
  have hm1 := make_bs K (by omega)
  have hm2 := make_ints n n (Nat.le_refl _) (by omega)
  go_enter Tryd.func8, Tryd.ntmps8
  go_upto_region 1 with (fail)
  have BK := Lib.hid (heap_alloc_new w (.cells #[.slice A L.length c0, .int .i64 (t : Int), .int .i64 (n : Int)] 24))
  have HB1 := Lib.hid (below_alloc (Below.refl w.heap.size w) (.cells #[.slice A L.length c0, .int .i64 (t : Int), .int .i64 (n : Int)] 24))
  have HZ1 : (w.alloc (.cells #[.slice A L.length c0, .int .i64 (t : Int), .int .i64 (n : Int)] 24)).heap.size = w.heap.size + 1 := by simp
  obtain ⟨gb, hgb⟩ : ∃ gb, gb = w.heap.size := ⟨_, rfl⟩
  have HGB := Lib.hid hgb
  rw [← hgb] at BK ⊢
  clear hgb
  generalize w.alloc (.cells #[.slice A L.length c0, .int .i64 (t : Int), .int .i64 (n : Int)] 24) = w1 at *
  obtain ⟨hz0, hz1, hz2⟩ := blk3 BK.out
  have hy0 : ∀ o, (w1.alloc o).cell? ⟨gb, 0, none⟩ = some (.slice A L.length c0) := fun o => ((below_alloc (Below.refl _ w1) o).cell (World.block_lt_of_cell? w1 _ hz0)).trans hz0
  have hy2 : ∀ o, (w1.alloc o).cell? ⟨gb, 2, none⟩ = some (.int .i64 (n : Int)) := fun o => ((below_alloc (Below.refl _ w1) o).cell (World.block_lt_of_cell? w1 _ hz2)).trans hz2
  have hx : ∀ o o', ((w1.alloc o).alloc o').cell? ⟨gb, 0, none⟩ = some (.slice A L.length c0) ∧ ((w1.alloc o).alloc o').cell? ⟨gb, 1, none⟩ = some (.int .i64 (t : Int)) ∧ ((w1.alloc o).alloc o').cell? ⟨gb, 2, none⟩ = some (.int .i64 (n : Int)) := fun o o' => by
    obtain ⟨q0, q1, q2⟩ := blk3 (blk_below BK.out (below_alloc (below_alloc (Below.refl _ w1) o) o'))
    exact ⟨q0, q1, q2⟩
  have hy1 : ∀ o, (w1.alloc o).cell? ⟨gb, 1, none⟩ = some (.int .i64 (t : Int)) := fun o => ((below_alloc (Below.refl _ w1) o).cell (World.block_lt_of_cell? w1 _ hz1)).trans hz1
  go_cut [9] (fun v wc => v = .pointer (some ⟨w.heap.size + 3, 0, none⟩) ∧ Hid (FQ w wc A c0 L t n s long n))
  case first =>
    go_region
    all_goals
      go_wp2_with fail
      go_meet
      first
        | exact ⟨rfl, Lib.hid (by with_reducible exact fq1 HKK.out HB1.out HZ1 (by rw [← HGB.out]; exact BK.out))⟩
        | exact ⟨rfl, Lib.hid (by with_reducible exact fq2 HKK.out HB1.out HZ1 (by rw [← HGB.out]; exact BK.out))⟩
  case rest =>
    obtain ⟨rfl, HQ⟩ := hcut
    obtain ⟨sb, cb, hVS, hbk⟩ := HQ.out
    have HV0 := Lib.hid (And.intro hVS hbk)
    clear hz0 hz1 hz2 hy0 hy1 hy2 hx hm1 hm2 hVS hbk HQ hk1 hk2 hk3 BK HB1 HZ1
    have e3 : decide (0 < n) = true := decide_eq_true (by omega)
    go_wp2_with fail
    go_loopg [10] (s.size - i0) (fun gk s10 wr => ∃ (i k : Nat) (S : Mk) (C : List Int), Hid (gk + i = s.size ∧ FI w wr A c0 L t n s long sb cb n X i k S C) ∧ i ≤ s.size ∧ s10 = .int .i64 (i : Int))
    case atStart => exact ⟨i0, s.size + 2, fun _ => [], List.replicate n 0, ⟨by omega, HB0.out, by omega, fun _ => ⟨List.nodup_nil, fun x hx => by cases hx⟩, HV0.out.1, HV0.out.2, HX.out.symm⟩, hi0, rfl⟩
    case round =>
      obtain ⟨i, k, S, C, HI, hi, rfl⟩ := hrel
      obtain ⟨ga, hga⟩ : ∃ ga, ga = gk := ⟨_, rfl⟩
      rw [← hga] at HI
      have HGA := Lib.hid hga
      clear hga
      obtain ⟨bv, -, -, -, -, z6, -, -⟩ := HI.out.2.2.2.2.1.cells
      go_wp2_with fail
      clear z6
      go_loopg [36] n (fun gj s36 wq => ∃ (j : Nat) (C' : List Int), Hid (gj + j = n ∧ FI w wq A c0 L t n s long sb cb n X i k S C' ∧ C'.length = n ∧ ∀ x, x < j → C'[x]? = some (-1)) ∧ j ≤ n ∧ s36 = .int .i64 (j : Int))
      case atStart => exact ⟨0, C, ⟨by omega, HI.out.2, by have := HI.out.2.2.2.2.1.cp; obtain ⟨_, _, h, _⟩ := this; exact h, fun x hx => by omega⟩, Nat.zero_le _, rfl⟩
      case round =>
        obtain ⟨j, C', HJ, hj, rfl⟩ := hrel
        obtain ⟨bv', -, -, -, -, z6, -, -⟩ := HJ.out.2.1.2.2.2.1.cells
        by_cases hlt : j < n
        · have hd1 : decide (j < n) = true := decide_eq_true hlt
          have hfz : ∀ x, wr.frozen? ⟨cb, x, none⟩ = false := by obtain ⟨r, h, _⟩ := HJ.out.2.1.2.2.2.1.cp; exact fun x => blk_frozen h x
          have hcl : ∃ v, wr.cell? ⟨cb, j, none⟩ = some v := ⟨_, HJ.out.2.1.2.2.2.1.cp.cell (k := j) (by rw [HJ.out.2.2.1]; exact hlt)⟩
          obtain ⟨vj, hcl⟩ := hcl
          go_wp2_with fail
          go_roundg (gk - 1)
          case measure => have := HJ.out.1; omega
          case rel =>
            refine ⟨j + 1, C'.set j (-1), ⟨by have := HJ.out.1; omega, HJ.out.2.1.caps hlt (-1), by rw [List.length_set]; exact HJ.out.2.2.1, fun x hx => ?_⟩, by omega, by go_num⟩
            by_cases e : x = j
            · subst e
              rw [List.getElem?_set_self (by rw [HJ.out.2.2.1]; exact hlt)]
            · rw [List.getElem?_set_ne (fun e2 => e e2.symm)]
              exact HJ.out.2.2.2 x (by omega)
        · have hd1 : decide (j < n) = false := decide_eq_false hlt
          obtain rfl : n = j := by omega
          have hC' : C' = List.replicate n (-1) := by
            refine List.eq_replicate_iff.2 ⟨HJ.out.2.2.1, fun b hb => ?_⟩
            obtain ⟨x, hx⟩ := List.mem_iff_getElem?.1 hb
            have h1 := (List.getElem?_eq_some_iff.1 hx).1
            have h2 := HJ.out.2.2.2 x (by have := HJ.out.2.2.1; omega)
            rw [hx] at h2
            exact Option.some.inj h2
          subst hC'
          have hfz : wr.frozen? ⟨cb, 0, none⟩ = false := by obtain ⟨r, h, _⟩ := HJ.out.2.1.2.2.2.1.cp; exact blk_frozen h 0
          obtain ⟨vj, hcl⟩ : ∃ v, wr.cell? ⟨cb, 0, none⟩ = some v := ⟨_, HJ.out.2.1.2.2.2.1.cp.cell (k := 0) (by rw [HJ.out.2.2.1]; omega)⟩
          have hFI := HJ.out.2.1.caps (j := 0) (by omega) (i : Int)
          have HI2 := Lib.hid hFI
          have hgs : (wr.setCell ⟨cb, 0, none⟩ (.int .i64 (i : Int))).cell? ⟨gb, 1, none⟩ = some (.int .i64 (t : Int)) := by
            rw [HGB.out]
            exact (blk_cell hFI.2.2.2.2.1 1).trans rfl
          have HGI := Lib.hid HI.out.1
          clear HI hFI
          go_wp2_with fail
          obtain ⟨k', hk'⟩ : ∃ k', k = k' + 1 := ⟨k - 1, by have := HI2.out.2.1; omega⟩
          subst hk'
          clear hgs hcl hfz z6 HJ
          generalize wr.setCell ⟨cb, 0, none⟩ (.int .i64 (i : Int)) = wv at *
          refine (HVC.out sb cb (k' + 1) (L.length + 1) t i S ((List.replicate n (-1)).set 0 (i : Int)) none wv ht1 hi HI2.out.1 HI2.out.2.2.1 (by omega) HI2.out.2.1 (by simp) (fun _ => rfl) HI2.out.2.2.2.1).mono ?_
          rintro e w5 ⟨b, S', C2, o', rfl, hfr, hvs, hvr⟩
          rw [show visH L s (k' + 1) (L.length + 1) t i S ((List.replicate n (-1)).set 0 (i : Int)) = oneD L t s (k' + 1) (lastR s i) i S (List.replicate n (-1)) from rfl] at hvr
          obtain ⟨p1, p2⟩ := hvr.pick
          have hX := HI2.out.2.2.2.2.2
          rw [findF, ← p1] at hX
          have HFR := Lib.hid hfr
          have HVS := Lib.hid hvs
          have hbx : w5.heap[w.heap.size]? = some (.cells #[.slice A L.length c0, .int .i64 (t : Int), .int .i64 (n : Int)] 24 (0, 0)) := by
            have hb0 := HI2.out.2.2.2.2.1
            refine (hfr.block _ (blk_lt hb0) ?_).trans hb0
            obtain ⟨bvv, x1, _⟩ := HI2.out.2.2.2.1.nd
            obtain ⟨sa, x2, _⟩ := HI2.out.2.2.2.1.sn
            obtain ⟨r, x3, _⟩ := HI2.out.2.2.2.1.cp
            rintro (e | e | e)
            · exact blk_ne hb0 x1 (by decide) e
            · exact blk_ne hb0 x2 (by decide) e
            · exact blk_ne hb0 x3 (by decide) e
          have HBX := Lib.hid hbx
          have HBD := Lib.hid HI2.out.1
          have hk0 := HI2.out.2.1
          have HFS := Lib.hid (show o' = none → ∀ j, Fine L.length (S' j) from fun e => by
            rw [(p2 e).1]
            exact visH_fine HPS.out ht1 HI2.out.2.2.1)
          have HP2 := Lib.hid p2
          obtain ⟨bv2, -, -, -, -, -, z7, hbv⟩ := hvs.cells
          clear hfr hvs hvr p1 p2 hbx HI2
          cases o' with
          | some Mo =>
            obtain ⟨bb, cp, rfl, hca, hbb, hbn, hcp⟩ := hbv
            have hnil : ∀ w : World, (binOp .neq 27 (.slice (some ⟨bb, 0, none⟩) n cp) (.slice none 0 0)).run Tryd.prog w = .ok (.bool true) w := fun w => run_neq_slice_nil w _ _ (some ⟨bb, 0, none⟩) n cp Tryd.underlying27
            have HCA := Lib.hid hca
            have HXX := Lib.hid hX
            clear hca hX
            go_wp2_with fail
            go_ret
            refine ⟨_, cb, rfl, HVS.out.bl, ?_⟩
            rw [← HXX.out]
            exact ⟨bb, cp, rfl, HCA.out, hbb, hbn, hcp⟩
          | none =>
            obtain rfl : bv2 = .slice none 0 0 := hbv
            have hnil : ∀ w : World, (binOp .neq 27 (.slice none 0 0) (.slice none 0 0)).run Tryd.prog w = .ok (.bool false) w := fun w => run_neq_slice_nil w _ _ none 0 0 Tryd.underlying27
            have HXX := Lib.hid hX
            clear hX
            go_wp2_with fail
            refine (next_calls s i w5 hi (by omega) (Utf8Tabs_below HT.out HVS.out.bl)).mono ?_
            rintro e w6 ⟨rfl, hb6⟩
            have HB6 := Lib.hid hb6
            clear hb6 z7 hnil
            by_cases h0 : (dec s i).2 = 0
            · have hd0 : (((dec s i).2 : Int) == 0) = true := by rw [beq_iff_eq]; omega
              have hX2 := HXX.out
              rw [if_pos h0] at hX2
              have HX2 := Lib.hid hX2
              clear h0 hX2
              go_wp2_with fail
              go_ret
              refine ⟨_, cb, rfl, below_step HVS.out.bl HB6.out, ?_⟩
              rw [← HX2.out]
              exact rfl
            · have hd0 : (((dec s i).2 : Int) == 0) = false := by rw [beq_eq_false_iff_ne]; omega
              have hX2 := HXX.out
              rw [if_neg h0] at hX2
              have hlt2 : i < s.size := by
                apply Decidable.byContradiction
                intro h
                exact h0 ((dec_w s i).2 (by omega))
              have hle2 := dec_le s i hi
              have hl := lastR_next s i HBD.out hlt2
              have HX2 := Lib.hid (show findF L t s long k' (lastR s (i + (dec s i).2)) (i + (dec s i).2) S' (List.replicate n (-1)) = X by rw [hl, (HP2.out (by trivial)).1]; exact hX2)
              have HBN := Lib.hid (show Bd s (i + (dec s i).2) by rw [dec_dec s i hlt2]; exact .next HBD.out hlt2)
              clear hX2 hl
              generalize hdn : (dec s i).2 = d at *
              generalize (dec s i).1 = ch at *
              clear hdn
              go_wp2_with fail
              go_roundg (ga - d)
              case measure => have := HGI.out; have := HGA.out; omega
              case rel => exact ⟨i + d, k', S', C2, ⟨by have := HGI.out; omega, HBN.out, by omega, HFS.out (by trivial), HVS.out.grow HB6.out, blk_below HBX.out HB6.out, HX2.out⟩, by omega, by go_num⟩
end
end Go.Proofs.YtmccgfjhmbioeaaDoor.PgFnPgThreads
namespace Go.Proofs.YtmccgfjhmbioeaaDoor.PgFnPgThreads
open Go.RowKit Go.Proofs.YtmccgfjhmbioeaaDoor.EvN Go.Proofs.YtmccgfjhmbioeaaDoor.Row Go.Proofs.YtmccgfjhmbioeaaDoor.Sf Go.Proofs.YtmccgfjhmbioeaaDoor.PFnPgThreads Go.Proofs.YtmccgfjhmbioeaaDoorW.PrintWords Go.Proofs.YtmccgfjhmbioeaaDoorW.PrintLast Go.Proofs.YtmccgfjhmbioeaaDoorW.PrintMore
set_option linter.unusedSimpArgs false
set_option linter.unusedVariables false
theorem row_cells {w : World} {S : Nat → Prop} {g l c : Nat} {M : List Int} (h : RowAt w S 3 (.slice (some ⟨g, 0, none⟩) l c) (M.map (Value.int .i64))) : l = M.length ∧ M.length ≤ c ∧ ∀ j, j < M.length → w.cell? ⟨g, j, none⟩ = some (.int .i64 (M.getD j 0)) := by
  rcases h with ⟨e, _⟩ | ⟨g', cap, cur, e, _, hg, k1, k2, k3, k4⟩
  · cases e
  · cases e
    rw [List.length_map] at k1 k4
    refine ⟨by rw [List.length_map], k1, fun j hj => ?_⟩
    rw [blk_cell hg j, ← Array.getElem?_toList]
    have h1 : (cur.toList.take M.length)[j]? = some (.int .i64 (M.getD j 0)) := by
      rw [k4, List.getElem?_map, List.getElem?_eq_getElem hj, List.getD_eq_getElem?_getD, List.getElem?_eq_getElem hj]; rfl
    rw [List.getElem?_take_of_lt hj] at h1
    exact h1
set_option maxRecDepth 100000 in
set_option maxHeartbeats 4000000 in
theorem told_calls {W0 W1 w3 w5 : World} {n nn cb : Nat} {m : Bool × List Int} {X : Option (List Int)} {v u : Value} (hv : ThrV W1 w3 m.1 m.2 v) (hw : Below w3.heap.size w3 w5) (hu : BV W0 w5 cb nn u X) (hnn : n ≤ nn) (hn2 : nn ≤ 2002)
    (h0 : X = none → m.1 = false) (h1 : ∀ M, X = some M → m.1 = true ∧ m.2 = M.take n ∧ M.length = nn) :
    Calls Tryd.prog 7 #[v, u, .int .i64 (n : Int)] w5 fun e w' => e = .returned (.bool true) ∧ Below w5.heap.size w5 w' := by
  cases X with
  | none =>
    obtain rfl := hv.1 (h0 rfl)
    obtain rfl : u = .slice none 0 0 := hu
    exact same_nil_calls w5 n
  | some M =>
    obtain ⟨e1, e2, e3⟩ := h1 M rfl
    obtain ⟨⟨g, l, c, rfl⟩, hr⟩ := hv.2 e1
    obtain ⟨bb, cp, rfl, hca, _, _, hcp⟩ := hu
    have hg : ∃ z, g = ⟨z, 0, none⟩ := by
      rcases hr with ⟨e, _⟩ | ⟨g', cap, cur, e, _⟩
      · cases e
      · cases e; exact ⟨g', rfl⟩
    obtain ⟨z, rfl⟩ := hg
    rw [e2] at hr
    obtain ⟨r1, r2, r3⟩ := row_cells hr
    rw [List.length_take, e3, Nat.min_eq_left hnn] at r1 r2 r3
    subst r1
    have hle : nn ≤ cp := by
      obtain ⟨r, _, q1, q2⟩ := hca
      omega
    refine same_row_calls w5 l nn z c bb cp (fun j => M.getD j 0) (fun j hj => ?_) (fun j hj => ?_) r2 hnn hle (by omega) (by unfold maxLen at hcp; omega)
    · have h2 := r3 j hj
      rw [List.getD_eq_getElem?_getD, List.getElem?_take_of_lt hj, ← List.getD_eq_getElem?_getD] at h2
      exact (hw.cell (World.block_lt_of_cell? w3 _ h2)).trans h2
    · have h2 := hca.cell (k := j) (by omega)
      rw [h2, List.getD_eq_getElem?_getD, List.getElem?_eq_getElem (by omega)]; rfl
set_option maxRecDepth 100000 in
set_option maxHeartbeats 8000000 in
theorem law_calls {L : List I} {st nc : Int} (w : World) (A : Option Addr) (c : Nat) (hK : Kd.C k52 w A L.length L) (hc : L.length ≤ c) (long : Bool) (s : ByteArray) (pos ncap : Int) (hp : -9223372036854775808 ≤ pos ∧ pos ≤ 9223372036854775807) (hT : Tabs w) (hF : Folds w) (hSz : Sizes w) :
    Calls Tryd.prog 3 #[.agg #[.slice A L.length c, .int .i64 st, .int .i64 nc], .bool long, .string s, .int .i64 pos, .int .i64 ncap] w fun e w' => e = .returned (.bool true) ∧ Below w.heap.size w w' := by
  have hu24 := Tryd.underlying24
  obtain ⟨kf, hkf⟩ := (ev_fits L st nc).get
  have HK := Lib.hid hK
  have HT := Lib.hid hT
  have HF := Lib.hid hF
  have HSZ := Lib.hid hSz
  have HPO := Lib.hid hp
  clear hK hT hF hSz hp
  go_enter Tryd.func3, Tryd.ntmps3
  go_wp2_with fail
  obtain ⟨gb, hgb⟩ : ∃ gb, gb = w.heap.size := ⟨_, rfl⟩
  have BK := Lib.hid (heap_alloc_new w (.cells #[.slice A L.length c, .int .i64 st, .int .i64 nc] 24))
  have HB1 := Lib.hid (below_alloc (Below.refl w.heap.size w) (.cells #[.slice A L.length c, .int .i64 st, .int .i64 nc] 24))
  have GB := Lib.hid (show w.heap.size ≤ gb by omega)
  rw [← hgb] at BK ⊢
  clear hgb
  generalize w.alloc (.cells #[.slice A L.length c, .int .i64 st, .int .i64 nc] 24) = w1 at *
  refine (laws_zzFits3.calls kf A c L st nc (fits L) w1 (Kd.C_below HK.out HB1.out) hc hkf).mono ?_
  rintro e w2 ⟨rfl, hb2⟩
  have HB2 := Lib.hid (below_step HB1.out hb2)
  have BK2 := Lib.hid (blk_below BK.out hb2)
  clear hb2 BK HB1 hkf
  cases hf : fits L with
  | false =>
    go_wp2_with fail
    go_ret
    exact ⟨rfl, HB2.out⟩
  | true =>
    have hfl : L.length ≤ 2147483647 ∧ ∀ i ∈ L, i.f3.length ≤ 2147483647 := by
      unfold fits at hf
      simp only [Bool.and_eq_true, decide_eq_true_eq, List.all_eq_true] at hf
      exact hf
    have HFL := Lib.hid hfl.2
    have hfl1 := hfl.1
    clear hfl hf
    by_cases hz : s.size > 2147483647
    · have hzd : decide (s.size > 2147483647) = true := decide_eq_true hz
      go_wp2_with fail
      go_ret
      exact ⟨rfl, HB2.out⟩
    · have hzd : decide ((2147483647 : Int) < (s.size : Int)) = false := decide_eq_false (by omega)
      obtain ⟨hz0, hz1, hz2⟩ := blk3 BK2.out
      go_wp2_with fail
      refine (finep_calls hfl1 HFL.out s (by omega) pos ncap HPO.out w2 (Utf8Tabs_below HT.out HB2.out) A c (Kd.C_below HK.out HB2.out) hc).mono ?_
      rintro e w3 ⟨rfl, hb3⟩
      have HB3 := Lib.hid (below_step HB2.out hb3)
      have BK3 := Lib.hid (blk_below BK2.out hb3)
      clear hz0 hz1 hz2 hb3 BK2 HB2
      cases hfi : fineP L st nc s pos ncap with
      | false =>
        go_wp2_with fail
        go_ret
        exact ⟨rfl, HB3.out⟩
      | true =>
        unfold fineP at hfi
        simp only [Bool.and_eq_true, Bool.or_eq_true, decide_eq_true_eq] at hfi
        have hps : PSound L st nc 2000 := psnd_says hfi.1.1.2
        have hwk : L.length * (s.size + 1) ≤ 1048576 := hfi.1.1.1.2
        have hs6 : s.size ≤ 60000 := hfi.1.1.1.1
        obtain ⟨i0, rfl, hbd, hi0⟩ := bordB_Bd s pos _ 0 (Nat.zero_le _) .zero hfi.1.2
        have hm : L.length ≤ 2000 := by have := hps.most; omega
        obtain ⟨t, rfl⟩ : ∃ t : Nat, st = (t : Int) := ⟨st.toNat, by have := hps.st0; omega⟩
        obtain ⟨nn, rfl⟩ : ∃ nn : Nat, nc = (nn : Int) := ⟨nc.toNat, by have := hps.nc0; omega⟩
        obtain ⟨n, rfl⟩ : ∃ n : Nat, ncap = (n : Int) := ⟨ncap.toNat, by have := hps.nc0; have := hfi.2; omega⟩
        have hn2 : 2 ≤ nn ∧ nn ≤ 2002 := by have := hps.nc0; have := hps.nc1; omega
        have hnn : n = 0 ∨ n = 2 ∨ (n : Int) = (nn : Int) := by have := hfi.2; omega
        obtain ⟨sp1, sp2⟩ := threads_says hps (s := s) i0 long nn n hn2.1 (by omega) (by omega)
        have hcall := pgthreads_calls hps (fun i hi => by have := HFL.out i hi; omega) w w3 HB3.out A c HK.out hc HSZ.out HF.out HT.out s i0 hi0 (by omega) hwk long n hnn
        rw [Int.toNat_natCast] at hcall
        have HFC := Lib.hid (fun w' (hb : Below w.heap.size w w') => find_calls (A := A) (c0 := c) (long := long) hps hs6 hwk rfl hn2.2 w' hc (Kd.C_below HK.out hb) (fun i hi => by have := HFL.out i hi; omega) (HF.out.below hb) (Utf8Tabs_below HT.out hb) i0 hi0 hbd)
        generalize findF L t s long (s.size + 2) (lastR s i0) i0 (fun _ => []) (List.replicate nn (-1)) = X at *
        generalize mF L (t : Int) (scF L L.length t 0) long s i0 n = Y at sp1 sp2 hcall
        have HCALL := Lib.hid hcall
        have HSP := Lib.hid (And.intro sp1 (And.intro sp2 (show n ≤ nn by omega)))
        clear hps hfi hz hzd hcall sp1 sp2 hwk hbd HPO hfl1 hnn
        obtain ⟨hz0, hz1, hz2⟩ := blk3 BK3.out
        go_wp2_with fail
        refine HCALL.out.mono ?_
        rintro e w4 ⟨v, rfl, hb4, hv⟩
        have HV := Lib.hid hv
        have HB4 := Lib.hid (below_step HB3.out hb4)
        have BK4 := Lib.hid (blk_below BK3.out hb4)
        clear hz0 hz1 hz2 hb4 hv HCALL HB3 BK3
        obtain ⟨hz0, hz1, hz2⟩ := blk3 BK4.out
        go_wp2_with fail
        refine (HFC.out w4 HB4.out).mono ?_
        rintro e w5 ⟨u, cb, rfl, hb5, hu⟩
        have HTC := Lib.hid (told_calls HV.out hb5 hu HSP.out.2.2 hn2.2 HSP.out.1 HSP.out.2.1)
        have HB5 := Lib.hid (below_step HB4.out hb5)
        clear hb5 hu HV HSP HFC hz0 hz1 hz2
        go_wp2_with fail
        refine HTC.out.mono ?_
        rintro e w6 ⟨rfl, hb6⟩
        have HB6 := Lib.hid (below_step HB5.out hb6)
        clear hb6 HTC
        go_wp2_with fail
        go_ret
        exact ⟨rfl, HB6.out⟩
end Go.Proofs.YtmccgfjhmbioeaaDoor.PgFnPgThreads
namespace Go.Proofs.YtmccgfjhmbioeaaDoor.PoFnPgThreads
open Go.ChangeShapes Go.WideShapes Go.ChangeAt Go.RowKit Go.Proofs.YtmccgfjhmbioeaaDoor.PFnPgThreads Go.Proofs.YtmccgfjhmbioeaaDoorW.PrintWords Go.Proofs.YtmccgfjhmbioeaaDoorW.PrintLast
set_option linter.unusedSimpArgs false
set_option linter.unusedVariables false
variable {H : Type} {enc : TypeId × Value → H} {w : World} {base : Nat} {spare : Nat → Bool} {held : Bool}
theorem ints_open {t e : TypeId} {k : IntKind} (ht : Tryd.prog.underlying t = some (.slice e)) (he : Tryd.prog.underlying e = some (.int k)) (hc : Tryd.prog.cellsOf e = 1) {fuel : Nat} {cs : List Value} {x : DataW H × List MemPlace} (h : DataW.trod enc Tryd.prog w base spare held fuel t cs = some x) :
    ∃ (A : Option Addr) (c : Nat) (l : List Int), cs = [.slice A l.length c] ∧ l.length ≤ c ∧ Kd.C (Kd.int k) w A l.length l := by
  rcases open_ints ht he hc h with ⟨hcs, _⟩ | ⟨a, len, cap, zs, hcs, _, hl, hm, hz, hx, hcell, hwz⟩
  · exact ⟨none, 0, [], hcs, Nat.le_refl _, ⟨rfl, by simp, fun h => absurd h (by simp)⟩⟩
  · have hzl : len ≤ zs.length := by rw [hz]; split <;> omega
    have hlen : (zs.take len).length = len := by rw [List.length_take]; omega
    refine ⟨some a, cap, zs.take len, by rw [hlen]; exact hcs, by rw [hlen]; exact hl, ⟨rfl, by rw [hlen]; unfold maxLen at hm; omega, fun _ => ⟨a, rfl, fun j p hj => ⟨[.int k p], rfl, rfl, fun i u hu => ?_⟩⟩⟩⟩
    have hj' : j < (zs.take len).length := by
      rcases Nat.lt_or_ge j (zs.take len).length with h | h
      · exact h
      · rw [List.getElem?_eq_none h] at hj; cases hj
    match i, hu with
    | 0, hu =>
      simp at hu
      subst hu
      have e : zs.getD j 0 = p := by
        rw [List.getElem?_take_of_lt (by omega)] at hj
        rw [List.getD_eq_getElem?_getD, hj]; rfl
      show w.cell? (a.add (j * 1 + 0)) = _
      rw [Nat.mul_one, Nat.add_zero, hcell j (by omega), e]
set_option maxRecDepth 100000 in
theorem inst_open (fuel : Nat) {cs : List Value} {x : DataW H × List MemPlace} (h : DataW.trod enc Tryd.prog w base spare held fuel 52 cs = some x) : ∃ t : S52, k52.K w t cs := by
  obtain ⟨xs, n, rfl, hxx, hl, hlen, hf⟩ := DataW.trod_struct Tryd.underlying52 h
  have hc : Tryd.prog.cellsOf 52 = 4 := by kernel_rfl
  rw [hc] at hl
  have hx : xs.length = 4 := hlen
  match cs, hl, xs, hx with
  | [c0, c1, c2, c3], _, [y0, y1, y2, y3], _ =>
    have g0 := hf 0 { name := "Op", type := 3, offset := 0, embedded := false, tag := "", pkgPath := "", byteOffset := 0 } rfl
    have g1 := hf 1 { name := "Out", type := 3, offset := 1, embedded := false, tag := "", pkgPath := "", byteOffset := 8 } rfl
    have g2 := hf 2 { name := "Arg", type := 3, offset := 2, embedded := false, tag := "", pkgPath := "", byteOffset := 16 } rfl
    have g3 := hf 3 { name := "Runes", type := 50, offset := 3, embedded := false, tag := "", pkgPath := "", byteOffset := 24 } rfl
    have ci : Tryd.prog.cellsOf 3 = 1 := by kernel_rfl
    have cr : Tryd.prog.cellsOf 50 = 1 := by kernel_rfl
    simp only [ci, cr, List.drop_succ_cons, List.drop_zero, List.take_succ_cons, List.take_zero, List.getElem?_cons_zero, List.getElem?_cons_succ] at g0 g1 g2 g3
    obtain ⟨a0, e0, _, w0⟩ := DataW.trod_int Tryd.underlying3 g0
    obtain ⟨a1, e1, _, w1⟩ := DataW.trod_int Tryd.underlying3 g1
    obtain ⟨a2, e2, _, w2⟩ := DataW.trod_int Tryd.underlying3 g2
    obtain ⟨A3, n3, l3, e3, le3, C3⟩ := ints_open Tryd.underlying50 Tryd.underlying21 (by kernel_rfl) g3
    cases e0; cases e1; cases e2; cases e3
    exact ⟨⟨a0, a1, a2, l3⟩, k52_mk w ⟨a0, a1, a2, l3⟩ le3 C3⟩
set_option maxRecDepth 100000 in
theorem prog_open (fuel : Nat) {cs : List Value} {x : DataW H × List MemPlace} (h : DataW.trod enc Tryd.prog w base spare held fuel 24 cs = some x) :
    ∃ (A : Option Addr) (c : Nat) (L : List S52) (st nc : Int), cs = [.slice A L.length c, .int .i64 st, .int .i64 nc] ∧ L.length ≤ c ∧ Kd.C k52 w A L.length L := by
  obtain ⟨xs, n, rfl, hxx, hl, hlen, hf⟩ := DataW.trod_struct Tryd.underlying24 h
  have hc0 : Tryd.prog.cellsOf 24 = 3 := by kernel_rfl
  rw [hc0] at hl
  have hx : xs.length = 3 := hlen
  have hc : Tryd.prog.cellsOf 52 = 4 := by kernel_rfl
  match cs, hl, xs, hx with
  | [c0, c1, c2], _, [y0, y1, y2], _ =>
    have g0 := hf 0 { name := "Insts", type := 22, offset := 0, embedded := false, tag := "", pkgPath := "", byteOffset := 0 } rfl
    have g1 := hf 1 { name := "Start", type := 3, offset := 1, embedded := false, tag := "", pkgPath := "", byteOffset := 24 } rfl
    have g2 := hf 2 { name := "NumCap", type := 3, offset := 2, embedded := false, tag := "", pkgPath := "", byteOffset := 32 } rfl
    have ci : Tryd.prog.cellsOf 3 = 1 := by kernel_rfl
    have cr : Tryd.prog.cellsOf 22 = 1 := by kernel_rfl
    simp only [ci, cr, List.drop_succ_cons, List.drop_zero, List.take_succ_cons, List.take_zero, List.getElem?_cons_zero, List.getElem?_cons_succ] at g0 g1 g2
    obtain ⟨a1, e1, _, w1⟩ := DataW.trod_int Tryd.underlying3 g1
    obtain ⟨a2, e2, _, w2⟩ := DataW.trod_int Tryd.underlying3 g2
    have h0 : ∃ (A : Option Addr) (n : Nat) (l : List S52), c0 = .slice A l.length n ∧ l.length ≤ n ∧ Kd.C k52 w A l.length l := by
      rcases DataW.trod_slice Tryd.underlying22 g0 with ⟨hcs, _⟩ | ⟨a, len, cap, elems, rest, m, rfl, hcs, hyy, _, hlc, hmx, hle, hel, _⟩
      · cases hcs
        exact ⟨none, 0, [], rfl, Nat.le_refl _, ⟨rfl, by simp, fun h => absurd h (by simp)⟩⟩
      · cases hcs
        rw [hc] at hel
        have hall : ∀ i, i < len → ∃ t : S52, ∃ c, k52.K w t c ∧ c.length = 4 ∧ ∀ j u, c[j]? = some u → w.cell? (a.add (i * 4 + j)) = some u := by
          intro i hi
          have h1 := hel i hi
          rw [List.getElem?_eq_getElem (by omega)] at h1
          cases hcells : w.cells? base (a.add (i * 4)) 4 with
          | none => rw [hcells] at h1; cases h1
          | some c =>
            rw [hcells] at h1
            obtain ⟨t, ht⟩ := inst_open m h1
            obtain ⟨_, h4, hce⟩ := World.cells?_some hcells
            refine ⟨t, c, ht, h4, fun j u hj => ?_⟩
            have hj4 : j < 4 := by
              rcases Nat.lt_or_ge j 4 with h | h
              · exact h
              · rw [List.getElem?_eq_none (by omega)] at hj; cases hj
            rw [← Deep.add_add, hce j hj4, hj]
        have : Inhabited S52 := ⟨z52⟩
        obtain ⟨f, hfn⟩ := Deep.choose_lt hall
        have hlen : ((List.range len).map f).length = len := by simp
        refine ⟨some a, cap, (List.range len).map f, by rw [hlen], by rw [hlen]; exact hlc, ⟨rfl, by rw [hlen]; unfold maxLen at hmx; omega, fun _ => ⟨a, rfl, fun j p hj => ?_⟩⟩⟩
        rw [List.getElem?_map] at hj
        have hjl : j < len := by
          rcases Nat.lt_or_ge j len with h | h
          · exact h
          · rw [List.getElem?_eq_none (by simpa using h)] at hj; cases hj
        rw [List.getElem?_range hjl] at hj
        cases hj
        obtain ⟨c, hK, hc4, hcell⟩ := hfn j hjl
        exact ⟨c, hc4, hK, hcell⟩
    obtain ⟨A0, n0, l0, hs0, le0, C0⟩ := h0
    cases e1; cases e2
    subst hs0
    exact ⟨A0, n0, l0, a1, a2, rfl, le0, C0⟩
end Go.Proofs.YtmccgfjhmbioeaaDoor.PoFnPgThreads
namespace Go.Proofs.YtmccgfjhmbioeaaDoor.Sf
open Go Go.RowKit Go.ChangeShapes Go.WideShapes Go.ChangeAt Go.Proofs.YtmccgfjhmbioeaaDoor.Row Go.Proofs.YtmccgfjhmbioeaaDoorW.PrintWords
set_option maxRecDepth 100000
set_option linter.unusedVariables false
set_option linter.unusedSimpArgs false
theorem asc_data : (Rows.laid_unicode_asciiFold : DataW Unit) = Lib.tabData .u16 (ascZ.map fun x : Nat => (x : Int)) := by kernel_rfl
theorem orb_data : (Rows.laid_unicode_caseOrbit : DataW Unit) = .slice (orbZ.map fun x => .agg ([(x.1 : Int), (x.2 : Int)].map fun z => .lit (.int .u16 z))) [] := by kernel_rfl
theorem asc_of_reads {w : World} (h : Lib.VarReads Tryd.prog w "unicode.asciiFold" Rows.laid_unicode_asciiFold) : ∀ r, r < 128 → w.cell? ⟨3, r, none⟩ = some (.int .u16 ((ascZ.getD r 0 : Nat) : Int)) := by
  intro r hr
  obtain ⟨g, t, cs, fuel, p, hg, hty, hvar, hd⟩ := h
  rw [asc_data] at hd
  obtain rfl := Option.some.inj ((show Tryd.prog.globalNamed "unicode.asciiFold" = some 3 by kernel_rfl).symm.trans hg)
  obtain rfl := Option.some.inj ((show (Tryd.prog.globals[3]?).map (·.type) = some 151 by kernel_rfl).symm.trans hty)
  have hcs := Lib.cells_of_tab Tryd.underlying151 Tryd.underlying150 (by kernel_rfl) (by kernel_rfl) hd
  rw [World.var?_cell hg hvar r, ← Array.getElem?_toList, hcs]
  have hl : ascZ.length = 128 := by kernel_rfl
  rw [List.getElem?_map, List.getElem?_map, List.getElem?_eq_getElem (by omega), List.getD_eq_getElem?_getD, List.getElem?_eq_getElem (by omega)]; rfl
theorem orb_of_reads {w : World} (h : Lib.VarReads Tryd.prog w "unicode.caseOrbit" Rows.laid_unicode_caseOrbit) : ∃ (a : Addr) (c : Nat), w.cell? ⟨4, 0, none⟩ = some (.slice (some a) 94 c) ∧ Orb w a := by
  obtain ⟨g, t, cs, fuel, p, hg, hty, hvar, hd⟩ := h
  rw [orb_data] at hd
  obtain rfl := Option.some.inj ((show Tryd.prog.globalNamed "unicode.caseOrbit" = some 4 by kernel_rfl).symm.trans hg)
  obtain rfl := Option.some.inj ((show (Tryd.prog.globals[4]?).map (·.type) = some 152 by kernel_rfl).symm.trans hty)
  have hc : Tryd.prog.cellsOf 154 = 2 := by kernel_rfl
  rcases DataW.trod_slice Tryd.underlying152 hd with ⟨_, hx⟩ | ⟨a, len, cap, elems, rest, m, rfl, hcs, hyy, _, hlc, hmx, hle, hel, _⟩
  · simp at hx
  · have he : elems.map (·.1) = orbZ.map fun x => (.agg ([(x.1 : Int), (x.2 : Int)].map fun z => .lit (.int .u16 z)) : DataW Unit) := by
      have := (Prod.mk.inj hyy).1
      injection this with h1 h2
      exact h1.symm
    have hlen : elems.length = 94 := by have := congrArg List.length he; rw [List.length_map, List.length_map, orb_len] at this; exact this
    have hl94 : len = 94 := by omega
    subst hl94
    refine ⟨a, cap, ?_, fun i hi => ?_⟩
    · rw [World.var?_cell hg hvar 0, ← Array.getElem?_toList, hcs]; rfl
    · have h1 := hel i hi
      rw [hc, List.getElem?_eq_getElem (by omega)] at h1
      cases hcells : w.cells? 0 (a.add (i * 2)) 2 with
      | none => rw [hcells] at h1; cases h1
      | some c =>
        rw [hcells] at h1
        replace h1 : DataW.trod (fun _ => ()) Tryd.prog w 0 (fun _ => true) false m 154 c = some elems[i] := h1
        have hei : elems[i].1 = .agg ([((orow i).1 : Int), ((orow i).2 : Int)].map fun z => .lit (.int .u16 z)) := by
          have := congrArg (fun l => l[i]?) he
          simp only [List.getElem?_map, List.getElem?_eq_getElem (show i < elems.length by omega), List.getElem?_eq_getElem (show i < orbZ.length by rw [orb_len]; exact hi), Option.map_some, Option.some.injEq] at this
          rw [orow_get i hi]; exact this
        generalize elems[i] = y at h1 hei
        obtain ⟨d1, p1⟩ := y
        simp only at hei
        subst hei
        have hz := Lib.ints_of_struct Tryd.underlying154 (fun j f hf => by
          match j, hf with
          | 0, hf => cases hf; exact ⟨Tryd.underlying150, rfl, by kernel_rfl⟩
          | 1, hf => cases hf; exact ⟨Tryd.underlying150, rfl, by kernel_rfl⟩
          | j + 2, hf => simp at hf) (by kernel_rfl) h1
        obtain ⟨_, h8, hce⟩ := World.cells?_some hcells
        have c0 := hce 0 (by omega)
        have c1 := hce 1 (by omega)
        rw [hz, Deep.add_add] at c0 c1
        rw [add_field a (i * 2) 1 (by omega)] at c1
        exact ⟨c0, c1⟩
theorem case_of_reads {w : World} (h : Lib.VarReads Tryd.prog w "unicode.CaseRanges" Rows.laid_unicode_CaseRanges) : ∃ (a : Addr) (c : Nat), w.cell? ⟨5, 0, none⟩ = some (.slice (some a) 336 c) ∧ Cas w a := by
  obtain ⟨g, t, cs, fuel, p, hg, hty, hvar, hd⟩ := h
  replace hd : DataW.trod (fun _ => ()) Tryd.prog w 0 (fun _ => true) false fuel t cs.toList = some (.slice (Pinned.caseRows.map Pinned.caseRange) [], p) := hd
  obtain rfl := Option.some.inj ((show Tryd.prog.globalNamed "unicode.CaseRanges" = some 5 by kernel_rfl).symm.trans hg)
  obtain rfl := Option.some.inj ((show (Tryd.prog.globals[5]?).map (·.type) = some 157 by kernel_rfl).symm.trans hty)
  have hc : Tryd.prog.cellsOf 163 = 5 := by kernel_rfl
  rcases DataW.trod_slice Tryd.underlying157 hd with ⟨_, hx⟩ | ⟨a, len, cap, elems, rest, m, rfl, hcs, hyy, _, hlc, hmx, hle, hel, _⟩
  · simp at hx
  · have he : elems.map (·.1) = Pinned.caseRows.map Pinned.caseRange := by
      have := (Prod.mk.inj hyy).1
      injection this with h1 h2
      exact h1.symm
    have hlen : elems.length = 336 := by have := congrArg List.length he; rw [List.length_map, List.length_map, case_len] at this; exact this
    have hl94 : len = 336 := by omega
    subst hl94
    refine ⟨a, cap, ?_, fun i hi => ?_⟩
    · rw [World.var?_cell hg hvar 0, ← Array.getElem?_toList, hcs]; rfl
    · have h1 := hel i hi
      rw [hc, List.getElem?_eq_getElem (by omega)] at h1
      cases hcells : w.cells? 0 (a.add (i * 5)) 5 with
      | none => rw [hcells] at h1; cases h1
      | some c =>
        rw [hcells] at h1
        replace h1 : DataW.trod (fun _ => ()) Tryd.prog w 0 (fun _ => true) false m 163 c = some elems[i] := h1
        have hei : elems[i].1 = Pinned.caseRange (crow i) := by
          have := congrArg (fun l => l[i]?) he
          simp only [List.getElem?_map, List.getElem?_eq_getElem (show i < elems.length by omega), List.getElem?_eq_getElem (show i < Pinned.caseRows.length by rw [case_len]; exact hi), Option.map_some, Option.some.injEq] at this
          rw [crow_get i hi]; exact this
        generalize elems[i] = y at h1 hei
        generalize crow i = row at hei ⊢
        obtain ⟨d1, p1⟩ := y
        simp only at hei
        subst hei
        obtain ⟨xs, n, rfl, hxx, hl, hlen2, hf⟩ := DataW.trod_struct Tryd.underlying163 h1
        rw [hc] at hl
        have hx3 : xs.length = 3 := hlen2
        obtain ⟨_, h8, hce⟩ := World.cells?_some hcells
        match c, hl, xs, hx3 with
        | [c0, c1, c2, c3, c4], _, [y0, y1, y2], _ =>
          have g0 := hf 0 { name := "Lo", type := 96, offset := 0, embedded := false, tag := "", pkgPath := "", byteOffset := 0 } rfl
          have g1 := hf 1 { name := "Hi", type := 96, offset := 1, embedded := false, tag := "", pkgPath := "", byteOffset := 4 } rfl
          have g2 := hf 2 { name := "Delta", type := 161, offset := 2, embedded := false, tag := "", pkgPath := "", byteOffset := 8 } rfl
          have ci : Tryd.prog.cellsOf 96 = 1 := by kernel_rfl
          have cd : Tryd.prog.cellsOf 161 = 3 := by kernel_rfl
          simp only [ci, cd, List.drop_succ_cons, List.drop_zero, List.take_succ_cons, List.take_zero, List.getElem?_cons_zero, List.getElem?_cons_succ] at g0 g1 g2
          have hxx2 := (Prod.mk.inj hxx).1
          unfold Pinned.caseRange at hxx2
          injection hxx2 with hl3
          simp only [List.map_cons, List.map_nil, List.cons.injEq, and_true] at hl3
          obtain ⟨e0, e1, e2⟩ := hl3
          obtain ⟨z0, k0, l0, _⟩ := DataW.trod_int Tryd.underlying96 g0
          obtain ⟨z1, k1, l1, _⟩ := DataW.trod_int Tryd.underlying96 g1
          obtain ⟨y2d, y2p⟩ := y2
          simp only at e2
          subst e2
          have k2 := Lib.cells_of_tab (zs := [row.2.2.1, row.2.2.2.1, row.2.2.2.2]) Tryd.underlying161 Tryd.underlying21 (by kernel_rfl) (by kernel_rfl) g2
          cases k0; cases k1
          rw [l0] at e0
          rw [l1] at e1
          simp only [DataW.lit.injEq, Lit.int.injEq, true_and] at e0 e1
          simp only [List.map_cons, List.map_nil, List.cons.injEq, and_true] at k2
          obtain ⟨rfl, rfl, rfl⟩ := k2
          subst e0
          subst e1
          have q0 := hce 0 (by omega)
          have q1 := hce 1 (by omega)
          have q2 := hce 2 (by omega)
          have q3 := hce 3 (by omega)
          have q4 := hce 4 (by omega)
          rw [Deep.add_add] at q0 q1 q2 q3 q4
          rw [add_field a (i * 5) 1 (by omega)] at q1
          rw [add_field a (i * 5) 2 (by omega)] at q2
          rw [add_field a (i * 5) 3 (by omega)] at q3
          rw [add_field a (i * 5) 4 (by omega)] at q4
          exact ⟨q0, q1, q2, q3, q4⟩
theorem folds_of_reads {w : World} (h1 : Lib.VarReads Tryd.prog w "unicode.asciiFold" Rows.laid_unicode_asciiFold) (h2 : Lib.VarReads Tryd.prog w "unicode.caseOrbit" Rows.laid_unicode_caseOrbit) (h3 : Lib.VarReads Tryd.prog w "unicode.CaseRanges" Rows.laid_unicode_CaseRanges) : Folds w :=
  ⟨asc_of_reads h1, orb_of_reads h2, case_of_reads h3⟩
end Go.Proofs.YtmccgfjhmbioeaaDoor.Sf
namespace Go.Proofs.YtmccgfjhmbioeaaDoor.fnPgThreads
open Go.ChangeShapes Go.WideShapes Go.ChangeAt Go.RowKit Go.Proofs.YtmccgfjhmbioeaaDoor.PoFnPgThreads Go.Proofs.YtmccgfjhmbioeaaDoor.PFnPgThreads Go.Proofs.YtmccgfjhmbioeaaDoor.PgFnPgThreads Go.Proofs.YtmccgfjhmbioeaaDoor.Sf Go.Proofs.YtmccgfjhmbioeaaDoorW.PrintWords
open Go.ChangeMaps (open_string shut_string)
set_option linter.unusedVariables false
theorem own : ownKnob Tryd.prog.godebug = none := by kernel_rfl
theorem laidOut : laidOutB Tryd.prog = true := by kernel_rfl
theorem first_data : (Rows.laid_unicode_utf8_first : DataW Unit) = Lib.firstData := by kernel_rfl
theorem accept_data : (Rows.laid_unicode_utf8_acceptRanges : DataW Unit) = Lib.acceptData := by kernel_rfl
theorem extra : U8Extra Tryd.prog Tryd.lays260_ren := ⟨by kernel_rfl, by kernel_rfl, by kernel_rfl, by kernel_rfl, by kernel_rfl, by kernel_rfl, by kernel_rfl⟩
theorem msz_data : (Rows.laid_pub_searce_pub_regexp_matchSize : DataW Unit) = Lib.tabData .i64 msz := by kernel_rfl
theorem sizes_of_reads {w : World} (h : Lib.VarReads Tryd.prog w "pub-searce/pub/regexp.matchSize" Rows.laid_pub_searce_pub_regexp_matchSize) : Sizes w := by
  intro r hr
  obtain ⟨g, t, cs, fuel, p, hg, hty, hvar, hd⟩ := h
  rw [msz_data] at hd
  obtain rfl := Option.some.inj ((show Tryd.prog.globalNamed "pub-searce/pub/regexp.matchSize" = some 0 by kernel_rfl).symm.trans hg)
  obtain rfl := Option.some.inj ((show (Tryd.prog.globals[0]?).map (·.type) = some 106 by kernel_rfl).symm.trans hty)
  have hcs := Lib.cells_of_tab Tryd.underlying106 Tryd.underlying3 (by kernel_rfl) (by kernel_rfl) hd
  rw [World.var?_cell hg hvar r, ← Array.getElem?_toList, hcs]
  have hl : msz.length = 5 := rfl
  rw [List.getElem?_map, List.getElem?_eq_getElem (by omega), List.getD_eq_getElem?_getD, List.getElem?_eq_getElem (by omega)]; rfl
theorem laid_says {W : World} (h : laidMetH Tryd.prog Rows.fnPgThreadsRow.laid W) : Tabs W ∧ Folds W ∧ Sizes W := by
  rw [MakeChecks.laidMetH_plain _ _ _ (by kernel_rfl)] at h
  have h0 : laidMet Tryd.prog Rows.fnPgThreadsRow.laid W := h
  refine ⟨?_, folds_of_reads (Lib.laidMet.reads h0 (by simp [Rows.fnPgThreadsRow])) (Lib.laidMet.reads h0 (by simp [Rows.fnPgThreadsRow])) (Lib.laidMet.reads h0 (by simp [Rows.fnPgThreadsRow])), sizes_of_reads (Lib.laidMet.reads h0 (by simp [Rows.fnPgThreadsRow]))⟩
  have h1 : Lib.VarReads Tryd.prog W "unicode/utf8.first" Rows.laid_unicode_utf8_first := Lib.laidMet.reads h0 (by simp [Rows.fnPgThreadsRow])
  have h2 : Lib.VarReads Tryd.prog W "unicode/utf8.acceptRanges" Rows.laid_unicode_utf8_acceptRanges := Lib.laidMet.reads h0 (by simp [Rows.fnPgThreadsRow])
  rw [first_data] at h1
  rw [accept_data] at h2
  exact utf8Tabs_of_reads Tryd.lays260 extra h1 h2
theorem arg_prog {H : Type} {enc : TypeId × Value → H} {W : World} {v : Value} {d : DataW H} {p : List MemPlace} (h : DataW.Trod enc Tryd.prog W 0 (fun _ => true) true 24 v d p) :
    ∃ (A : Option Addr) (c : Nat) (L : List S52) (st nc : Int), v = .agg #[.slice A L.length c, .int .i64 st, .int .i64 nc] ∧ L.length ≤ c ∧ Kd.C k52 W A L.length L := by
  obtain ⟨fuel, hf⟩ := h
  obtain ⟨A, c, L, st, nc, e, hl, hK⟩ := prog_open fuel hf
  refine ⟨A, c, L, st, nc, ?_, hl, hK⟩
  have e2 : v.cells.toList = _ := e
  cases v <;> simp [Value.cells] at e2
  rw [← e2]
set_option maxRecDepth 100000 in
theorem lifted (os : Os) (started : os.Started) (H : Type) (enc : TypeId × Value → H) :
    ReturnsInHanded {} Tryd.checked os 3 .any (fun w args => (Rows.fnPgThreadsSpec.pre enc Tryd.prog Tryd.f3 Rows.fnPgThreadsRow.domain false w args ∧ laidMetH Tryd.prog Rows.fnPgThreadsRow.laid w) ∧ sizedMet enc Tryd.prog Tryd.f3 (OpenSpec.ofChange Rows.fnPgThreadsSpec) false w args)
      (Rows.fnPgThreadsSpec.post enc Tryd.prog Tryd.f3 false true false false) := by
  refine returnsInHanded_of_change_and (C := Tryd.checked) (X := fun w _ => laidMetH Tryd.prog Rows.fnPgThreadsRow.laid w) (fun _ _ _ hh h => h.of_heap hh) own started (by kernel_rfl) Tryd.func3
    (ChangeSpec.witness_shaped (enc := enc) (C := Tryd.checked) (os := os) (X := fun w _ => laidMetH Tryd.prog Rows.fnPgThreadsRow.laid w) false (World.laidAll Tryd.prog os Rows.fnPgThreadsRow.laid) #[.agg #[.slice none 0 0, .int .i64 0, .int .i64 0], .bool false, .string ByteArray.empty, .int .i64 0, .int .i64 0] 8 (World.laidAll_os _ _ _)
      (World.shaped_of_ZipB (by kernel_rfl) (by kernel_rfl)) (by kernel_rfl) (by kernel_rfl) (by kernel_rfl)
      (by rw [MakeChecks.laidMetH_plain _ _ _ (by kernel_rfl)]; exact laidMet_laidAll _ (by kernel_rfl) (by kernel_rfl))) ?_
  intro W base args ds gs before hval0 hW hcnd _ hL _
  have hval : ∀ (j : Nat) t v, Tryd.f3.params[j]? = some t → args[j]? = some v → Value.okWide Tryd.prog W .any base t v := hval0
  have hW' := hW
  obtain ⟨p, q, hA0, hV, rfl, hfz, hnd⟩ := hW
  have hA : DataW.TrodAll enc Tryd.prog W 0 (fun _ => true) true Tryd.f3.params.toList args.toList ds p := hA0
  rw [Tryd.params3] at hA hval
  obtain ⟨v0, vs0, d0, ds0, p0, q0, hargs, rfl, rfl, h0, r0⟩ := trodAll_cons hA
  obtain ⟨v1, vs1, d1, ds1, p1, q1, rfl, rfl, rfl, h1, r1⟩ := trodAll_cons r0
  obtain ⟨v2, vs2, d2, ds2, p2, q2, rfl, rfl, rfl, h2, r2⟩ := trodAll_cons r1
  obtain ⟨v3, vs3, d3, ds3, p3, q3, rfl, rfl, rfl, h3, r3⟩ := trodAll_cons r2
  obtain ⟨v4, vs4, d4, ds4, p4, q4, rfl, rfl, rfl, h4, r4⟩ := trodAll_cons r3
  obtain ⟨rfl, rfl, rfl⟩ := trodAll_nil r4
  obtain rfl : args = #[v0, v1, v2, v3, v4] := by cases args; simp_all
  obtain ⟨rfl, rfl⟩ := trodVars_none hV
  obtain ⟨long, rfl, rfl, rfl⟩ := open_bool Tryd.underlying4 (hval 1 4 v1 rfl rfl) h1
  obtain ⟨s, rfl, rfl, rfl, ws⟩ := open_string Tryd.underlying9 (hval 2 9 v2 rfl rfl) h2
  obtain ⟨x3, rfl, rfl, rfl, wx3⟩ := open_int Tryd.underlying3 (hval 3 3 v3 rfl rfl) h3
  obtain ⟨x4, rfl, rfl, rfl, wx4⟩ := open_int Tryd.underlying3 (hval 4 3 v4 rfl rfl) h4
  have k0 := h0
  have lt0 : ∀ x ∈ p0, x.block < W.heap.size := by obtain ⟨m, hm⟩ := k0; exact DataW.trod_lt m _ _ _ hm
  obtain ⟨A0, c0, L, st, nc, rfl, hl0, hK0⟩ := arg_prog h0
  obtain ⟨hTB, hFD, hSZ⟩ := laid_says hL
  have hx3 : -9223372036854775808 ≤ x3 ∧ x3 ≤ 9223372036854775807 := by
    have h : IntKind.i64.min ≤ x3 ∧ x3 ≤ 9223372036854775807 := by simpa [Lit.wf] using wx3
    have e : IntKind.i64.min = -9223372036854775808 := by decide
    omega
  clear hA0 hval0 hval
  refine (law_calls W A0 c0 hK0 hl0 long s x3 x4 hx3 hTB hFD hSZ).mono fun e W' ⟨he, bel⟩ => ?_
  subst he
  exact ⟨_, rfl, _, _, _, [], _, [], hW', trodAll_mk1 (shut_bool Tryd.underlying4 _), (trodAll_cons_mk (Below.trod laidOut (by kernel_rfl) (of_decide_eq_true (by kernel_rfl)) k0 bel lt0) (trodAll_cons_mk (shut_bool Tryd.underlying4 _) (trodAll_cons_mk (shut_string Tryd.underlying9 ws) (trodAll_cons_mk (shut_int Tryd.underlying3 wx3) (trodAll_cons_mk (shut_int Tryd.underlying3 wx4) trodAll_mk0))))), rfl, bel.frame _, fun h => by cases h⟩
theorem over : Rows.fnPgThreadsRow.holds Tryd.pinned (OpenSpec.ofChange Rows.fnPgThreadsSpec) :=
  OpenClaim.holds_of_wide 3 Tryd.f3 rfl rfl rfl rfl rfl rfl rfl ⟨rfl, rfl, rfl, rfl, rfl⟩ rfl rfl rfl rfl rfl (by kernel_rfl) Tryd.func3 (by kernel_rfl)
    (of_decide_eq_true (by kernel_rfl)) (by unfold Func.isWrapper; first | (rw [if_pos (by decide +kernel)]; kernel_rfl) | (rw [if_neg (by decide +kernel)]; exact ⟨rfl, rfl⟩))
    (fun os started H enc _ => lifted os started H enc)
end Go.Proofs.YtmccgfjhmbioeaaDoor.fnPgThreads
namespace Go.Proofs.YtmccgfjhmbioeaaDoor
open Go.ChangeShapes Go.WideShapes Go.ChangeAt Go.RowKit
theorem fnPgThreads_card : Rows.FnPgThreadsCardSaid :=
  Claim7.holds_tied_plain_at .later [] [.data, .data, .data, .data, .pinned, .pinned] true (true, "b2a6744641d744200ed0845aeaefe9680122b6b865ddecbd0e7c12e8b3b961ce") false fnPgThreads.over (fun _ h => by cases h) (by kernel_rfl) (fun _ h => by cases h) fnPgThreads_row_tie rfl ⟨rfl, rfl⟩ (by kernel_rfl) rfl
    (fun f fn hf hfn => by
      obtain rfl : f = 3 := Option.some.inj ((show Tryd.prog.funcNamed "pub-searce/laws.FnPgThreads" = some 3 by kernel_rfl).symm.trans hf) |>.symm
      obtain rfl : fn = Tryd.f3 := (Option.some.inj (Tryd.func3.symm.trans hfn)).symm
      exact ⟨by kernel_rfl, fun j t ht => by
        rw [Tryd.params3] at ht
        have hm : t ∈ [24, 4, 9, 3, 3] := by simpa using Array.mem_of_getElem? ht
        have hall : ([24, 4, 9, 3, 3].all fun u => !Tryd.prog.wantsStandIn u) = true := by kernel_rfl
        exact (show Tryd.prog.wantsStandIn t = false by simpa using List.all_eq_true.1 hall t hm)⟩)
    (by kernel_rfl)
#print axioms fnPgThreads_card
end Go.Proofs.YtmccgfjhmbioeaaDoor
