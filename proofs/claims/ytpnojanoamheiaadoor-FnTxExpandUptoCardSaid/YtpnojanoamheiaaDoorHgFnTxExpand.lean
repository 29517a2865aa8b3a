/- FnTxExpand: rows that came in, bytes of strings, what the guards say. The walk of ZZNamed. -/
import Derived.Test.YtpnojanoamheiaaDoorHeFnTxExpand
import Derived.Laws.IdiomStrings
import Derived.Laws.BytesArg
import Derived.Laws.BytesString
namespace Go.Proofs.YtpnojanoamheiaaDoor.XxFnTxExpand
open Go.Proofs.YtpnojanoamheiaaDoorW.PrintWords hiding nums nums_length
open Go.RowKit Go.Proofs.YtpnojanoamheiaaDoor.EvN Go.Proofs.YtpnojanoamheiaaDoor.My Go.Proofs.YtpnojanoamheiaaDoor.PFnTxExpand Go.Proofs.YtpnojanoamheiaaDoorW.PrintLast Go.Proofs.YtpnojanoamheiaaDoorW.PrintMore
set_option linter.unusedSimpArgs false
set_option linter.unusedVariables false

theorem bytes_run (s : ByteArray) (w : World) : ∃ c w', (convert 9 23 (.string s)).run Tryd.prog w = .ok (.slice (some ⟨w.heap.size, 0, none⟩) s.size c) w' ∧ s.size ≤ c ∧ (∀ j : Nat, j < s.size → w'.cell? ⟨w.heap.size, j, none⟩ = some (.int .u8 (bt s (j : Int)))) ∧ Below w.heap.size w w' ∧ w.heap.size < w'.heap.size := by
  refine ⟨_, _, run_bytes_of_string w 9 23 5 s Tryd.underlying9 Tryd.underlying23 Tryd.underlying5, grownCap_ge w s.size 0 5, fun j hj => ?_, below_alloc (below_drew (Below.refl _ _)) _, by simp⟩
  generalize grownCap w s.size 0 5 = c
  have hg : (w.drew.alloc (.cells (bytesRow s c) 5 ((bytesRow s c).size, (bytesRow s c).size + 1))).heap[w.heap.size]? = some (.cells (bytesRow s c) 5 ((bytesRow s c).size, (bytesRow s c).size + 1)) := heap_alloc_new w.drew _
  simp only [World.cell?, hg]
  have h2 : j < s.data.size := hj
  rw [bt_nat s j hj]
  simp only [bytesRow, Option.isSome_none, Bool.false_eq_true, if_false]
  rw [Array.getElem?_append_left (by simpa using h2), Array.getElem?_map, Array.getElem?_eq_getElem h2]
  rfl
theorem str_nums (t : ByteArray) : strOfNums (My.nums t) = t := My.str_nums t
theorem str_app (a b : List Int) : strOfNums (a ++ b) = strOfNums a ++ strOfNums b := by
  apply ByteArray.ext
  apply Array.toList_inj.1
  simp [strOfNums]
/-- A byte read in a row. -/
theorem k8_cell {W0 w : World} {A : Option Addr} {l : List Int} (h : Kd.C (Kd.int .u8) W0 A l.length l) (hb : Below W0.heap.size W0 w) (j : Nat) (hj : j < l.length) : ∃ ad, A = some ad ∧ w.cell? (ad.add j) = some (.int .u8 l[j]) := by
  obtain ⟨_, _, h3⟩ := h
  obtain ⟨ad, hA, hc⟩ := h3 (by omega)
  obtain ⟨cs, _, hK, hcell⟩ := hc j l[j] (List.getElem?_eq_getElem hj)
  have := hcell 0 (.int .u8 l[j]) (by rw [show cs = [.int .u8 l[j]] from hK]; rfl)
  have h1 : (Kd.int .u8).sz = 1 := rfl
  rw [h1, Nat.mul_one, Nat.add_zero] at this
  exact ⟨ad, hA, (hb.cell (World.block_lt_of_cell? W0 _ this)).trans this⟩
theorem spot_none {w : World} {a : Addr} {v : Value} (h : w.cell? (a.add 0) = some v) : a = ⟨a.block, a.off, none⟩ := by
  obtain ⟨b, o, sp⟩ := a
  cases sp with
  | none => rfl
  | some x =>
    exfalso
    simp only [Addr.add, World.cell?] at h
    split at h <;> simp at h
theorem add_plain (b o j : Nat) : (⟨b, o, none⟩ : Addr).add j = ⟨b, o + j, none⟩ := by
  by_cases e : j = 0
  · subst e; rfl
  · unfold Addr.add
    rw [if_neg e]
/-- string(x) of a row of bytes that came in. -/
theorem conv_in {W0 w : World} {A : Option Addr} {c : Nat} {l : List Int} (h : Kd.C (Kd.int .u8) W0 A l.length l) (hb : Below W0.heap.size W0 w) :
    (convert 23 9 (.slice A l.length c)).run Tryd.prog w = .ok (.string (strOfNums l)) w := by
  cases l with
  | nil =>
    rw [run_convert_bytes_string w _ _ _ _ _ _ Tryd.underlying23 Tryd.underlying5 Tryd.underlying9]
    cases A <;> rfl
  | cons x l =>
    obtain ⟨ad, rfl, hc0⟩ := k8_cell h hb 0 (by simp)
    have hs := spot_none hc0
    have hcell : ∀ i, i < (x :: l).length → w.cell? ⟨ad.block, ad.off + i, none⟩ = some (.int .u8 ((x :: l).getD i 0)) := fun i hi => by
      obtain ⟨ad', e, hc⟩ := k8_cell h hb i hi
      cases e
      rw [hs, add_plain] at hc
      rw [hc, List.getD_eq_getElem?_getD, List.getElem?_eq_getElem hi]
      rfl
    rw [hs]
    exact run_convert_bytes_arg w _ _ Tryd.underlying23 Tryd.underlying5 ad.block ad.off _ c (x :: l) rfl hcell _ Tryd.underlying9

/-- A row of strings of the call's own, read as a row of strings. -/
theorem own_strs {w : World} {B : Nat} {v : Value} {l : List ByteArray} (h : w.ownsRow B 9 1 v l.length (l.map Value.string)) : ∃ A c, v = .slice A l.length c ∧ l.length ≤ c ∧ Kd.C Kd.string w A l.length l := by
  rcases h.2 with ⟨rfl, h0⟩ | ⟨g, cap, cur, rfl, hg, hcur, hcap, hmax, hsz, htk⟩
  · have : l = [] := List.eq_nil_of_length_eq_zero h0
    subst this
    exact ⟨none, 0, rfl, Nat.le_refl _, rfl, by simp, fun h => by simp at h⟩
  · rw [Nat.mul_one] at hsz htk
    refine ⟨some ⟨g, 0, none⟩, cap, rfl, hcap, rfl, by unfold maxLen at hmax; omega, fun _ => ⟨_, rfl, fun j p hj => ⟨[.string p], rfl, rfl, fun i u hu => ?_⟩⟩⟩
    match i, hu with
    | 0, hu =>
      simp at hu
      subst hu
      obtain ⟨hj1, hj2⟩ := List.getElem?_eq_some_iff.1 hj
      have h1 : Kd.string.sz = 1 := rfl
      rw [h1, Nat.mul_one, Nat.add_zero, add_plain, Nat.zero_add]
      have e : cur[j]? = (l.map Value.string)[j]? := by
        rw [← htk, List.getElem?_take_of_lt hj1, Array.getElem?_toList]
      simp only [World.cell?, hcur]
      rw [e, List.getElem?_map, hj]
      rfl

/-! The guards. -/
theorem ev_fitsL (l : List ByteArray) (hl : l.length ≤ 4611686018427387000) : ∀ n i, i + n = l.length → ∃ r, Evn (fun k => laws_zzFits8.l0 k l (l.length : Int) (i : Int)) r := by
  intro n
  induction n with
  | zero =>
    intro i hi
    refine ⟨true, Evn.succ (Evn.congr (Evn.const _) fun k => ?_)⟩
    simp only [laws_zzFits8.l0]
    rw [if_neg (by omega)]
  | succ n ih =>
    intro i hi
    have e1 : wrap64 ((i : Int) + 1) = ((i + 1 : Nat) : Int) := Go.Proofs.YtpnojanoamheiaaDoor.EvN.wrap_nat i 1 (by omega)
    have q0 : (i : Int) < (l.length : Int) := by omega
    have q1 : (0 : Int) ≤ (i : Int) := by omega
    obtain ⟨r, hr⟩ := ih (i + 1) (by omega)
    by_cases c : ((rdOf ByteArray.empty l (i : Int)).size : Int) > 2147483647
    · refine ⟨false, Evn.succ ?_⟩
      simp only [laws_zzFits8.l0, e1, if_pos q0, if_pos q1, if_pos c]
      exact Evn.const _
    · refine ⟨r, Evn.succ ?_⟩
      simp only [laws_zzFits8.l0, e1, if_pos q0, if_pos q1, if_neg c]
      exact hr
theorem ev_fits (l : List ByteArray) (hl : l.length ≤ 4611686018427387000) : ∃ r k, laws_zzFits8.f k l = some r := by
  by_cases c : (l.length : Int) > 2147483647
  · exact ⟨false, 0, by unfold laws_zzFits8.f; rw [if_pos c]⟩
  · obtain ⟨r, hr⟩ := ev_fitsL l hl l.length 0 (by omega)
    obtain ⟨k, hk⟩ := hr.get
    exact ⟨r, k, by unfold laws_zzFits8.f; rw [if_neg c]; exact hk⟩

theorem rd_getD (m : List Int) (j : Nat) : rd m (j : Int) = m.getD j 0 := by unfold rd; rw [Int.toNat_natCast]
/-- One pair. -/
def P1 (a b : Int) (n : Nat) : Prop := (a = -1 ∧ b = -1) ∨ (0 ≤ a ∧ a ≤ b ∧ b ≤ n)
theorem ev_pairsL (m : List Int) (src : ByteArray) (hm : m.length ≤ 4611686018427387000) : ∀ n j, m.length ≤ 2 * j + n → 2 * j ≤ m.length + 1 → (∀ i, i < j → P1 (m.getD (2 * i) 0) (m.getD (2 * i + 1) 0) src.size) →
    ∃ r, Evn (fun k => spec_TxPairs.l0 k m src ((2 * j : Nat) : Int)) r ∧ (r = true → Pairs m src.size) := by
  intro n
  induction n using Nat.strongRecOn with
  | _ n ih =>
    intro j hn hj hp
    have e1 : wrap64 (((2 * j : Nat) : Int) + 1) = ((2 * j + 1 : Nat) : Int) := Go.Proofs.YtpnojanoamheiaaDoor.EvN.wrap_nat (2 * j) 1 (by omega)
    have e2 : wrap64 (((2 * j : Nat) : Int) + 2) = ((2 * (j + 1) : Nat) : Int) := by
      rw [show ((2 * j : Nat) : Int) + 2 = ((2 * j : Nat) : Int) + ((2 : Nat) : Int) from rfl, Go.Proofs.YtpnojanoamheiaaDoor.EvN.wrap_nat (2 * j) 2 (by omega)]
      rfl
    by_cases h : 2 * j + 1 < m.length
    · have q0 : ((2 * j + 1 : Nat) : Int) < (m.length : Int) := by omega
      have q1 : (0 : Int) ≤ ((2 * j : Nat) : Int) := by omega
      have q2 : ((2 * j : Nat) : Int) < (m.length : Int) := by omega
      have q3 : (0 : Int) ≤ ((2 * j + 1 : Nat) : Int) := by omega
      have next : P1 (m.getD (2 * j) 0) (m.getD (2 * j + 1) 0) src.size → ∃ r, Evn (fun k => spec_TxPairs.l0 k m src ((2 * (j + 1) : Nat) : Int)) r ∧ (r = true → Pairs m src.size) := fun h1 =>
        ih (n - 2) (by omega) (j + 1) (by omega) (by omega) fun i hi => by
          by_cases e : i = j
          · subst e; exact h1
          · exact hp i (by omega)
      by_cases c1 : m.getD (2 * j) 0 = -1 ∧ m.getD (2 * j + 1) 0 = -1
      · obtain ⟨r, hr, h2⟩ := next (.inl c1)
        refine ⟨r, Evn.succ ?_, h2⟩
        simp only [spec_TxPairs.l0, e1, e2, rd_getD, if_pos q0, if_pos q1, if_pos q2, if_pos q3, if_pos c1.1, if_pos c1.2]
        exact hr
      · by_cases c2 : m.getD (2 * j) 0 < 0
        · refine ⟨false, Evn.succ ?_, fun e => by cases e⟩
          by_cases c3 : m.getD (2 * j) 0 = -1
          · have c4 : ¬ m.getD (2 * j + 1) 0 = -1 := fun e => c1 ⟨c3, e⟩
            simp only [spec_TxPairs.l0, e1, e2, rd_getD, if_pos q0, if_pos q1, if_pos q2, if_pos q3, if_pos c3, if_neg c4, if_pos c2]
            exact Evn.const _
          · simp only [spec_TxPairs.l0, e1, e2, rd_getD, if_pos q0, if_pos q1, if_pos q2, if_pos q3, if_neg c3, if_pos c2]
            exact Evn.const _
        · have c3 : ¬ m.getD (2 * j) 0 = -1 := by omega
          by_cases c4 : m.getD (2 * j + 1) 0 < m.getD (2 * j) 0
          · refine ⟨false, Evn.succ ?_, fun e => by cases e⟩
            simp only [spec_TxPairs.l0, e1, e2, rd_getD, if_pos q0, if_pos q1, if_pos q2, if_pos q3, if_neg c3, if_neg c2, if_pos c4]
            exact Evn.const _
          · by_cases c5 : m.getD (2 * j + 1) 0 > (src.size : Int)
            · refine ⟨false, Evn.succ ?_, fun e => by cases e⟩
              simp only [spec_TxPairs.l0, e1, e2, rd_getD, if_pos q0, if_pos q1, if_pos q2, if_pos q3, if_neg c3, if_neg c2, if_neg c4, if_pos c5]
              exact Evn.const _
            · obtain ⟨r, hr, h2⟩ := next (.inr ⟨by omega, by omega, by omega⟩)
              refine ⟨r, Evn.succ ?_, h2⟩
              simp only [spec_TxPairs.l0, e1, e2, rd_getD, if_pos q0, if_pos q1, if_pos q2, if_pos q3, if_neg c3, if_neg c2, if_neg c4, if_neg c5]
              exact hr
    · have q0 : ¬ ((2 * j + 1 : Nat) : Int) < (m.length : Int) := by omega
      by_cases c : (m.length : Int) ≥ 2
      · refine ⟨((m.length : Int) % 2) == 0, Evn.succ ?_, fun e => ?_⟩
        · simp only [spec_TxPairs.l0, e1, if_neg q0, if_pos c]
          exact Evn.const _
        · have e0 := beq_iff_eq.1 e
          exact ⟨by omega, by omega, fun i hi => hp i (by omega)⟩
      · refine ⟨false, Evn.succ ?_, fun e => by cases e⟩
        simp only [spec_TxPairs.l0, e1, if_neg q0, if_neg c]
        exact Evn.const _
theorem ev_pairs (m : List Int) (src : ByteArray) (hm : m.length ≤ 4611686018427387000) : ∃ r k, spec_TxPairs.f k m src = some r ∧ (r = true → Pairs m src.size) := by
  obtain ⟨r, hr, h⟩ := ev_pairsL m src hm m.length 0 (by omega) (by omega) fun i hi => by omega
  obtain ⟨k, hk⟩ := hr.get
  exact ⟨r, k, hk, h⟩
theorem ev_placedL (m : List Int) (n : Nat) (hm : m.length ≤ 4611686018427387000) (hp : Pairs m n) : ∀ d j, m.length = 2 * j + 2 * d → Evn (fun k => impl_placed.l0 k m (n : Int) ((2 * j : Nat) : Int)) true := by
  intro d
  induction d with
  | zero =>
    intro j hj
    refine Evn.succ (Evn.congr (Evn.const _) fun k => ?_)
    simp only [impl_placed.l0]
    rw [if_neg (by omega)]
  | succ d ih =>
    intro j hj
    have e1 : wrap64 (((2 * j : Nat) : Int) + 1) = ((2 * j + 1 : Nat) : Int) := Go.Proofs.YtpnojanoamheiaaDoor.EvN.wrap_nat (2 * j) 1 (by omega)
    have e2 : wrap64 (((2 * j : Nat) : Int) + 2) = ((2 * (j + 1) : Nat) : Int) := by
      rw [show ((2 * j : Nat) : Int) + 2 = ((2 * j : Nat) : Int) + ((2 : Nat) : Int) from rfl, Go.Proofs.YtpnojanoamheiaaDoor.EvN.wrap_nat (2 * j) 2 (by omega)]
      rfl
    have h : 2 * j + 1 < m.length := by omega
    have q0 : ((2 * j : Nat) : Int) < (m.length : Int) := by omega
    have q1 : (0 : Int) ≤ ((2 * j : Nat) : Int) := by omega
    have q2 : ((2 * j + 1 : Nat) : Int) < (m.length : Int) := by omega
    have q3 : (0 : Int) ≤ ((2 * j + 1 : Nat) : Int) := by omega
    have q4 : ¬ ((2 * j + 1 : Nat) : Int) = (m.length : Int) := by omega
    have IH := ih (j + 1) (by omega)
    refine Evn.succ ?_
    rcases hp.2.2 j h with ⟨c1, c2⟩ | ⟨c1, c2, c3⟩
    · simp only [impl_placed.l0, e1, e2, rd_getD, if_pos q0, if_pos q1, if_pos q2, if_pos q3, if_neg q4, if_pos c1, if_pos c2]
      exact IH
    · have d1 : ¬ m.getD (2 * j) 0 = -1 := by omega
      have d2 : ¬ m.getD (2 * j) 0 < 0 := by omega
      have d3 : ¬ m.getD (2 * j + 1) 0 < m.getD (2 * j) 0 := by omega
      have d4 : ¬ m.getD (2 * j + 1) 0 > (n : Int) := by omega
      simp only [impl_placed.l0, e1, e2, rd_getD, if_pos q0, if_pos q1, if_pos q2, if_pos q3, if_neg q4, if_neg d1, if_neg d2, if_neg d3, if_neg d4]
      exact IH
theorem ev_placed (m : List Int) (n : Nat) (hm : m.length ≤ 4611686018427387000) (hp : Pairs m n) : ∃ k, impl_placed.f k m (n : Int) = some true := by
  obtain ⟨k, hk⟩ := (ev_placedL m n hm hp (m.length / 2) 0 (by have := hp.1; omega)).get
  exact ⟨k, hk⟩

set_option maxRecDepth 100000 in
theorem named_calls (A : Option Addr) (n c : Nat) (hn : n ≤ 1048576) (w : World) :
    Calls Tryd.prog 9 #[.slice A n c] w fun e w' => ∃ g, e = .returned (.pointer (some ⟨g, 0, none⟩)) ∧ w'.cell? ⟨g, 5, none⟩ = some (.slice A n c) ∧ Below w.heap.size w w' := by
  go_enter Tryd.func9, Tryd.ntmps9
  go_wp2_with fail
  go_ret
  exact ⟨_, rfl, by simp, below_alloc (Below.refl _ _) _⟩
end Go.Proofs.YtpnojanoamheiaaDoor.XxFnTxExpand
