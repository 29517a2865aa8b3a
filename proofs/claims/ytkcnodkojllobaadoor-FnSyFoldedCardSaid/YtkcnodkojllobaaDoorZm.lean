/- ZZClean, ZZFolded, impl.SyFolded: the walks. -/
import Derived.Test.YtkcnodkojllobaaDoorZk
import Derived.Test.YtkcnodkojllobaaDoorZl
namespace Go.Proofs.YtkcnodkojllobaaDoor.Fld
open Go Go.RowKit Go.Proofs.YtkcnodkojllobaaDoor.EvN Go.Proofs.YtkcnodkojllobaaDoor.Row Go.Proofs.YtkcnodkojllobaaDoorW.PrintWords Go.Proofs.YtkcnodkojllobaaDoorW.PrintLast Go.Proofs.YtkcnodkojllobaaDoorW.PrintMore
open Go.Proofs.YtkcnodkojllobaaDoor.Sf (it Folds)
set_option linter.unusedVariables false
set_option linter.unusedSimpArgs false

theorem stb_of {w0 w : World} {blk cap : Nat} {P : List (Int × Int)} (h : RI w w0.heap.size (.slice (some ⟨blk, 0, none⟩) (2 * P.length) cap) P) (hb : Below w0.heap.size w0 w) :
    StB w0 (w.heap.size + 1) w.heap.size blk cap P.length P.toArray (w.alloc (.cells #[.slice (some ⟨blk, 0, none⟩) (2 * P.length) cap] 22)) ∧ P.length * 2 ≤ cap ∧ cap ≤ maxLen ∧ w0.heap.size ≤ blk := by
  obtain ⟨cur, h1, h2, h3, h4, h5, h6⟩ := own_at h
  have hlt := blk_lt h1
  refine ⟨⟨⟨?_, ⟨cur, (Below.heap_alloc _ _ _ hlt).trans h1, h5, fun i hi => ?_⟩, by omega, by omega, by simp⟩, below_alloc hb _⟩, by omega, h4, h2⟩
  · rw [Nat.mul_comm P.length 2]; exact heap_alloc_new w _
  · obtain ⟨g1, g2⟩ := fl_get P i hi
    rw [← h6] at g1 g2
    rw [List.getElem?_take_of_lt (by omega), Array.getElem?_toList] at g1 g2
    have e : P.toArray[i]! = P[i] := by rw [getElem!_pos P.toArray i (by simpa using hi)]; rfl
    rw [e, Nat.mul_comm i 2]
    exact ⟨g1, g2⟩
def ZPost (w0 : World) (P : List (Int × Int)) (e : Ending) (w' : World) : Prop := ∃ blk cap, CPost w0 blk cap P e w'
set_option maxRecDepth 100000 in
set_option maxHeartbeats 4000000 in
theorem zclean_calls (P : List (Int × Int)) (hl : P.length ≤ 100000000) (hne : P ≠ []) (hok : ∀ p ∈ P, okP p) (v : Value) (w0 w : World) (ho : RI w w0.heap.size v P) (hb : Below w0.heap.size w0 w) :
    Calls Tryd.prog 12 #[v] w (ZPost w0 P) := by
  have hpos := List.length_pos_iff.2 hne
  obtain ⟨blk, cap, rfl, h1, h2⟩ := ho.form hpos
  obtain ⟨s1, s2, s3, s4⟩ := stb_of ho hb
  have hz := hb.size
  have HC := Lib.hid (cleanClass_calls w0 (w.heap.size + 1) w.heap.size blk cap P.length P.toArray _ hl hpos s2 s3 (by simp) (by simpa using hok) ⟨s4, by omega⟩ s1)
  clear ho hb s1 hok
  generalize 2 * P.length = n at *
  go_enter Tryd.func12, Tryd.ntmps12
  go_wp2_with fail
  refine HC.out.mono ?_
  rintro e w1 ⟨R, rfl, r⟩
  have HR := Lib.hid (show ZPost w0 P (.returned (.slice (some ⟨blk, 0, none⟩) (2 * R.length) cap)) w1 from ⟨blk, cap, R, rfl, by simpa using r⟩)
  clear r HC
  generalize 2 * R.length = m at *
  go_wp2_with fail
  go_ret
  exact HR.out
set_option maxRecDepth 100000 in
set_option maxHeartbeats 4000000 in
theorem zfolded_calls (P : List (Int × Int)) (hl : P.length ≤ 1000) (hP : ∀ p ∈ P, okP p) (a b : Nat) (hab : a ≤ b) (hb : b ≤ 1114111) (v : Value) (w0 w : World) (hB : Below w0.heap.size w0 w) (ho : RI w w0.heap.size v P) (hF : Folds w0) :
    Calls Tryd.prog 11 #[v, .int .i32 (a : Int), .int .i32 (b : Int)] w (FPost w0 P a b) := by
  have HC := Lib.hid (foldedRange_calls P hl hP a b hab hb v w0 w hB ho hF)
  clear hP hB ho hF
  go_enter Tryd.func11, Tryd.ntmps11
  go_wp2_with fail
  refine HC.out.mono ?_
  rintro e w1 ⟨v1, Q, rfl, r⟩
  have HR := Lib.hid (show FPost w0 P a b (.returned v1) w1 from ⟨v1, Q, rfl, r⟩)
  clear r HC
  go_wp2_with fail
  go_ret
  exact HR.out
def SPost (w0 : World) (P : List (Int × Int)) (a b : Nat) (e : Ending) (w' : World) : Prop :=
  ∃ A' c' R, e = .returned (.slice A' (flat R).length c') ∧ (flat R).length ≤ c' ∧ Kd.C (Kd.int .i32) w' A' (flat R).length (flat R) ∧ Can R ∧ R.length ≤ 10000000 ∧ (∀ c : Nat, c ≤ 1114111 → (inB R (c : Int) = true ↔ inB P (c : Int) = true ∨ ∃ n, a ≤ it n c ∧ it n c ≤ b)) ∧ Below w0.heap.size w0 w'
set_option maxRecDepth 100000 in
set_option maxHeartbeats 4000000 in
theorem syFolded_calls (P : List (Int × Int)) (hl : P.length ≤ 1000) (hP : ∀ p ∈ P, okP p) (a b : Nat) (hab : a ≤ b) (hb : b ≤ 1114111) (A : Option Addr) (c0 : Nat) (w : World) (hK : Kd.C (Kd.int .i32) w A (flat P).length (flat P)) (hc : (flat P).length ≤ c0) (hF : Folds w) :
    Calls Tryd.prog 8 #[.slice A (flat P).length c0, .int .i32 (a : Int), .int .i32 (b : Int)] w (SPost w P a b) := by
  have HP := Lib.hid hP
  have HF := Lib.hid hF
  have HCL := Lib.hid (runes_cells hK (Below.refl _ w))
  have hfl := flat_len P
  obtain ⟨n, hn⟩ : ∃ n, n = (flat P).length := ⟨_, rfl⟩
  have HN := Lib.hid (show n = (flat P).length ∧ n = 2 * P.length by omega)
  rw [← hn] at hc ⊢
  have e1 : (n : Int) / 2 * 2 = (n : Int) := by omega
  have hn2 : n ≤ 2000 := by omega
  have da : decide ((a : Int) ≤ (b : Int)) = true := decide_eq_true (by omega)
  have db : decide ((b : Int) ≤ 1114111) = true := decide_eq_true (by omega)
  clear hP hF hK hn hfl
  go_enter Tryd.func8, Tryd.ntmps8
  go_wp2_with (at_builtin; refine appn rfl (.const (.slice none 0 0)) (.tmp 13) 22 rfl 21 (.int .i32 0) 4 Tryd.underlying22 ii32 rfl rfl A n c0 ((flat P).map (Value.int .i32)) rfl (by rw [List.length_map]; exact HN.out.1.symm) HCL.out (by intro u hu; obtain ⟨y, _, rfl⟩ := List.mem_map.1 hu; rfl) (by omega) (by unfold maxLen; omega) ?_; intro v1 w1 hown1 hbel1)
  have HR1 := Lib.hid (show RI w1 w.heap.size v1 P by unfold RI; rw [← HN.out.2]; exact hown1)
  have HB1 := Lib.hid hbel1
  have HC := Lib.hid (zfolded_calls P hl HP.out a b hab hb v1 w w1 HB1.out HR1.out HF.out)
  clear hown1 hbel1
  refine HC.out.mono ?_
  rintro e w2 ⟨v2, Q, rfl, hfo, hri, hbl⟩
  have HFO := Lib.hid hfo
  have HB2 := Lib.hid hbl
  have HC2 := Lib.hid (zclean_calls Q (by have := hfo.2.2.1; omega) hfo.2.2.2 hfo.2.1 v2 w w2 hri hbl)
  clear hfo hri hbl HC HR1 HB1
  go_wp2_with fail
  refine HC2.out.mono ?_
  rintro e w3 ⟨blk, cap, R, rfl, hcan, hin, hle, hne, hri, hbl⟩
  have HR3 := Lib.hid (And.intro hcan (And.intro hin hle))
  have HB3 := Lib.hid hbl
  have HRI := Lib.hid hri
  have hfr := flat_len R
  have hRl : R.length ≤ 10000000 := by have := HFO.out.2.2.1; omega
  have HCR := Lib.hid (show ∀ (j : Nat) (u : Value), ((flat R).map (Value.int .i32))[j]? = some u → ∃ ad, some (⟨blk, 0, none⟩ : Addr) = some ad ∧ w3.cell? (ad.add j) = some u from fun j u hj => ⟨⟨blk, 0, none⟩, rfl, by
    have := (own_cell hri hj).1
    rw [show (⟨blk, 0, none⟩ : Addr).add j = ⟨blk, j, none⟩ by unfold Addr.add; split <;> simp_all]
    exact this⟩)
  obtain ⟨m, hm⟩ : ∃ m, m = (flat R).length := ⟨_, rfl⟩
  have HM := Lib.hid hm
  rw [show 2 * R.length = m by omega]
  have hm2 : m ≤ 20000000 := by omega
  clear hcan hin hle hne hri hbl hm hfr HC2
  go_wp2_with (at_builtin; refine appn rfl (.const (.slice none 0 0)) (.tmp 31) 22 rfl 21 (.int .i32 0) 4 Tryd.underlying22 ii32 rfl rfl (some ⟨blk, 0, none⟩) m cap ((flat R).map (Value.int .i32)) rfl (by rw [List.length_map]; exact HM.out.symm) HCR.out (by intro u hu; obtain ⟨y, _, rfl⟩ := List.mem_map.1 hu; rfl) (by omega) (by unfold maxLen; omega) ?_; intro v4 w4 hown4 hbel4)
  go_ret
  obtain ⟨A', c', rfl, hc', hkd⟩ := (RowAt.of_owns hown4 (S := fun _ => True) (fun _ _ => trivial)).kd
  exact ⟨A', c', R, rfl, hc', hkd, HR3.out.1, hRl, fun c hc => by rw [HR3.out.2.1]; exact HFO.out.1 c hc, HB3.out.trans (hbel4.mono HB3.out.size)⟩
end Go.Proofs.YtkcnodkojllobaaDoor.Fld
