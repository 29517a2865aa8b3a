/- appendFoldedRange: which characters it adds; the walk. -/
import Derived.Test.YtkcnodkojllobaaDoorZj
import Derived.Test.YtkcnodkojllobaaDoorSh
namespace Go.Proofs.YtkcnodkojllobaaDoor.Fld
open Go Go.RowKit Go.Proofs.YtkcnodkojllobaaDoor.EvN Go.Proofs.YtkcnodkojllobaaDoor.Row Go.Proofs.YtkcnodkojllobaaDoorW.PrintWords Go.Proofs.YtkcnodkojllobaaDoorW.PrintLast Go.Proofs.YtkcnodkojllobaaDoorW.PrintMore
open Go.Proofs.YtkcnodkojllobaaDoor.Sf (it it_succ orbit sfN sfN_le it_le orbT caseT Folds fold_calls ascZ)
set_option linter.unusedVariables false
set_option linter.unusedSimpArgs false

theorem asc_low : ∀ r, r < 65 → ascZ.getD r 0 = r := by decide
theorem orb_far : (orbT.list.all fun x => Nat.ble x.2.1 125251) = true := by kernel_rfl
theorem case_far : (caseT.list.all fun x => Nat.ble x.2.1 125251) = true := by kernel_rfl
/-- Behind and ahead of the tables a character folds to itself. -/
theorem sfN_self (r : Nat) (h : r < 65 ∨ 125251 < r) : sfN r = r := by
  unfold sfN
  rcases h with h | h
  · rw [show Nat.blt r 128 = true by rw [Nat.blt_eq]; omega, cond_true]
    exact asc_low r h
  · have hb : Nat.blt r 128 = false := by
      cases hh : Nat.blt r 128 with
      | false => rfl
      | true => rw [Nat.blt_eq] at hh; omega
    rw [hb, cond_false]
    have h1 : orbT.get r = none := by
      cases hg : orbT.get r with
      | none => rfl
      | some x =>
        obtain ⟨m1, m2, m3⟩ := Sf.T.get_some orbT r x hg
        have := List.all_eq_true.1 orb_far x m1
        rw [Nat.ble_eq] at this
        omega
    have h2 : caseT.get r = none := by
      cases hg : caseT.get r with
      | none => rfl
      | some x =>
        obtain ⟨m1, m2, m3⟩ := Sf.T.get_some caseT r x hg
        have := List.all_eq_true.1 case_far x m1
        rw [Nat.ble_eq] at this
        omega
    rw [h1, h2]
theorem it_self (r : Nat) (h : r < 65 ∨ 125251 < r) : ∀ n, it n r = r
  | 0 => rfl
  | n + 1 => by show sfN (it n r) = r; rw [it_self r h n, sfN_self r h]
theorem it_add (a b r : Nat) : it (a + b) r = it a (it b r) := by
  induction a with
  | zero => rw [Nat.zero_add]; rfl
  | succ a ih => rw [show a + 1 + b = (a + b) + 1 by omega]; show sfN (it (a + b) r) = sfN (it a (it b r)); rw [ih]
theorem it_per {m r : Nat} (hm : it m r = r) : ∀ k, it (m * k) r = r
  | 0 => rfl
  | k + 1 => by rw [Nat.mul_succ, it_add, hm, it_per hm k]
theorem it_mod {m r : Nat} (hm : it m r = r) (n : Nat) : it n r = it (n % m) r := by
  conv => lhs; rw [← Nat.mod_add_div n m]
  rw [it_add, it_per hm]
theorem it_back (r : Nat) (hr : r ≤ 1114111) (n c : Nat) (h : it n r = c) : ∃ k, it k c = r := by
  obtain ⟨m, m1, m2, m3, _, _⟩ := orbit r hr
  have hlt := Nat.mod_lt n m1
  refine ⟨m - n % m, ?_⟩
  rw [← h, it_mod m3 n, ← it_add, show m - n % m + n % m = m by omega, m3]

/-- What the folded range added leaves. -/
def Folded (P : List (Int × Int)) (a b : Nat) (Q : List (Int × Int)) : Prop :=
  (∀ c : Nat, c ≤ 1114111 → (inB Q (c : Int) = true ↔ inB P (c : Int) = true ∨ ∃ n, a ≤ it n c ∧ it n c ≤ b)) ∧ (∀ p ∈ Q, okP p) ∧ Q.length ≤ 10000000 ∧ Q ≠ []
/-- Rows under way: what is in. -/
def Way (P : List (Int × Int)) (S : Nat → Prop) (Q : List (Int × Int)) (L : Nat) : Prop :=
  (∀ c : Nat, inB Q (c : Int) = true ↔ inB P (c : Int) = true ∨ S c) ∧ (∀ p ∈ Q, okP p) ∧ Q.length ≤ P.length + L
theorem Way.start {P : List (Int × Int)} (hP : ∀ p ∈ P, okP p) : Way P (fun _ => False) P 0 := ⟨fun c => by simp, hP, Nat.le_refl _⟩
theorem Way.add {P Q Q' : List (Int × Int)} {S : Nat → Prop} {L x y : Nat} (h : Way P S Q L) (ha : Added Q (x : Int) (y : Int) Q') : Way P (fun c => S c ∨ (x ≤ c ∧ c ≤ y)) Q' (L + 1) := by
  refine ⟨fun c => ?_, ha.2.1, by have := ha.2.2.1; have := h.2.2; omega⟩
  rw [ha.1]
  have := h.1 c
  simp only [Bool.or_eq_true, Bool.and_eq_true, decide_eq_true_eq, this]
  constructor
  · rintro ((h1 | h1) | h1)
    · exact .inl h1
    · exact .inr (.inl h1)
    · exact .inr (.inr ⟨by omega, by omega⟩)
  · rintro (h1 | h1 | h1)
    · exact .inl (.inl h1)
    · exact .inl (.inr h1)
    · exact .inr ⟨by omega, by omega⟩
theorem Way.congr {P Q : List (Int × Int)} {S S' : Nat → Prop} {L L' : Nat} (h : Way P S Q L) (e : ∀ c, S c ↔ S' c) (hL : L ≤ L') : Way P S' Q L' := ⟨fun c => by rw [h.1 c, e c], h.2.1, by have := h.2.2; omega⟩
theorem Way.done {P Q : List (Int × Int)} {S : Nat → Prop} {L a b : Nat} (h : Way P S Q L) (hl : P.length + L ≤ 10000000) (hab : a ≤ b) (hb : b ≤ 1114111) (e : ∀ c, c ≤ 1114111 → (S c ↔ ∃ n, a ≤ it n c ∧ it n c ≤ b)) : Folded P a b Q := by
  refine ⟨fun c hc => by rw [h.1 c, e c hc], h.2.1, by have := h.2.2; omega, fun e2 => ?_⟩
  have := (h.1 a).2 (.inr ((e a (by omega)).2 ⟨0, Nat.le_refl _, hab⟩))
  rw [e2] at this
  cases this
/-- A character whose fellow lies outside the tables is that fellow. -/
theorem it_out (c n : Nat) (hc : c ≤ 1114111) (h : it n c < 65 ∨ 125251 < it n c) : it n c = c := by
  obtain ⟨k, hk⟩ := it_back c hc n (it n c) rfl
  rw [it_self _ h] at hk
  exact hk
theorem it_in (c n : Nat) (h : ¬ (c < 65 ∨ 125251 < c)) (hc : c ≤ 1114111) : ¬ (it n c < 65 ∨ 125251 < it n c) := fun h2 => by
  rw [it_out c n hc h2] at h2
  exact h h2

def FPost (w0 : World) (P : List (Int × Int)) (a b : Nat) (e : Ending) (w' : World) : Prop := ∃ v' Q, e = .returned v' ∧ Folded P a b Q ∧ RI w' w0.heap.size v' Q ∧ Below w0.heap.size w0 w'
/-- The call's row under way, in memory. -/
def WR (w0 w : World) (v : Value) (Q : List (Int × Int)) : Prop := RI w w0.heap.size v Q ∧ Below w0.heap.size w0 w
set_option maxRecDepth 100000 in
set_option maxHeartbeats 8000000 in
theorem foldedRange_calls (P : List (Int × Int)) (hl : P.length ≤ 1000) (hP : ∀ p ∈ P, okP p) (a b : Nat) (hab : a ≤ b) (hb : b ≤ 1114111) (v : Value) (w0 w : World) (hB : Below w0.heap.size w0 w) (ho : RI w w0.heap.size v P) (hF : Folds w0) :
    Calls Tryd.prog 14 #[v, .int .i32 (a : Int), .int .i32 (b : Int)] w (FPost w0 P a b) := by
  have AR := Lib.hid (fun (Q : List (Int × Int)) (hl : Q.length ≤ 1000000000) (hQ : ∀ p ∈ Q, okP p) (x y : Nat) (hxy : x ≤ y) (hy : y ≤ 1114111) (u : Value) (w1 : World) (hw : WR w0 w1 u Q) => appendRange_calls Q hl hQ (x : Int) (y : Int) ⟨by simp only; omega, by simp only; omega, by simp only; omega⟩ u w0 w1 hw.2 hw.1)
  have HF := Lib.hid hF
  have HW := Lib.hid (show WR w0 w v P from ⟨ho, hB⟩)
  have HS := Lib.hid (Way.start hP)
  clear hP hB ho hF
  go_enter Tryd.func14, Tryd.ntmps14
  by_cases hA : a ≤ 65 ∧ 125251 ≤ b
  · have d1 : decide ((a : Int) ≤ 65) = true := decide_eq_true (by omega)
    have d2 : decide (125251 ≤ (b : Int)) = true := decide_eq_true (by omega)
    have HC := Lib.hid (AR.out P (by omega) HS.out.2.1 a b hab hb v w HW.out)
    go_wp2_with fail
    refine HC.out.mono ?_
    rintro e w1 ⟨v1, Q, rfl, ha, hr, hbl⟩
    have HR := Lib.hid (show FPost w0 P a b (.returned v1) w1 from ⟨v1, Q, rfl, ((HS.out.add ha).done (by omega) hab hb fun c hc => by
      constructor
      · rintro (h | h)
        · exact h.elim
        · exact ⟨0, h⟩
      · rintro ⟨n, h1, h2⟩
        by_cases ho : c < 65 ∨ 125251 < c
        · rw [it_self c ho] at h1 h2; exact .inr ⟨h1, h2⟩
        · exact .inr ⟨by omega, by omega⟩), hr, hbl⟩)
    clear ha hr hbl HC
    go_wp2_with fail
    go_ret
    exact HR.out
  · have d1 : (decide ((a : Int) ≤ 65) && decide (125251 ≤ (b : Int))) = false := by
      rw [Bool.and_eq_false_iff, decide_eq_false_iff_not, decide_eq_false_iff_not]; omega
    by_cases hBc : b < 65 ∨ 125251 < a
    · have HC := Lib.hid (AR.out P (by omega) HS.out.2.1 a b hab hb v w HW.out)
      have key : ∀ (w1 : World) (v1 : Value) (Q : List (Int × Int)), Added P (a : Int) (b : Int) Q → RI w1 w0.heap.size v1 Q → Below w0.heap.size w0 w1 → FPost w0 P a b (.returned v1) w1 := fun w1 v1 Q ha hr hbl => ⟨v1, Q, rfl, ((HS.out.add ha).done (by omega) hab hb fun c hc => by
        constructor
        · rintro (h | h)
          · exact h.elim
          · exact ⟨0, h⟩
        · rintro ⟨n, h1, h2⟩
          have := it_out c n hc (by omega)
          rw [this] at h1 h2
          exact .inr ⟨h1, h2⟩), hr, hbl⟩
      have KEY := Lib.hid key
      clear key
      by_cases hb65 : b < 65
      · have k1 : decide ((b : Int) < 65) = true := decide_eq_true (by omega)
        have k2 : decide (125251 ≤ (b : Int)) = false := decide_eq_false (by omega)
        have k3 : decide ((a : Int) ≤ 65) = true := decide_eq_true (by omega)
        go_wp2_with fail
        refine HC.out.mono ?_
        rintro e w1 ⟨v1, Q, rfl, ha, hr, hbl⟩
        have HR := Lib.hid (KEY.out w1 v1 Q ha hr hbl)
        clear ha hr hbl HC
        go_wp2_with fail
        go_ret
        exact HR.out
      · have k1 : decide ((b : Int) < 65) = false := decide_eq_false (by omega)
        have k2 : decide (125251 < (a : Int)) = true := decide_eq_true (by omega)
        have k3 : decide ((a : Int) ≤ 65) = false := decide_eq_false (by omega)
        go_wp2_with fail
        refine HC.out.mono ?_
        rintro e w1 ⟨v1, Q, rfl, ha, hr, hbl⟩
        have HR := Lib.hid (KEY.out w1 v1 Q ha hr hbl)
        clear ha hr hbl HC
        go_wp2_with fail
        go_ret
        exact HR.out
    · have k1 : decide ((b : Int) < 65) = false := decide_eq_false (by omega)
      have k2 : decide (125251 < (a : Int)) = false := decide_eq_false (by omega)
      go_upto_region 1 with (fail)
      go_cut [14] (fun v14 wx => v14 = .bool false ∧ wx = w)
      case first =>
        by_cases h1 : a ≤ 65
        · have e1 : decide ((a : Int) ≤ 65) = true := decide_eq_true (by omega)
          have e2 : decide (125251 ≤ (b : Int)) = false := decide_eq_false (by omega)
          go_wp2_with fail
          go_meet
          exact ⟨rfl, rfl⟩
        · have e1 : decide ((a : Int) ≤ 65) = false := decide_eq_false (by omega)
          go_wp2_with fail
          go_meet
          exact ⟨rfl, rfl⟩
      case rest =>
        obtain ⟨rfl, rfl⟩ := hcut
        clear d1
        go_upto_if 30 with (fail)
        go_cut [0, 1] (fun s0 s1 wc => ∃ (v1 : Value) (Q1 : List (Int × Int)) (a1 : Nat), v1 = s0 ∧ s1 = .int .i32 (a1 : Int) ∧ Hid (Way P (fun c => a ≤ c ∧ c < a1) Q1 1 ∧ WR w0 wc v1 Q1 ∧ (a1 = a ∨ a1 = 65)) ∧ a ≤ a1 ∧ 65 ≤ a1 ∧ a1 ≤ 125251)
        case first =>
          by_cases h65 : a < 65
          · have e1 : decide ((a : Int) < 65) = true := decide_eq_true (by omega)
            have HC := Lib.hid (AR.out P (by omega) HS.out.2.1 a 64 (by omega) (by omega) v _ HW.out)
            go_wp2_with fail
            refine HC.out.mono ?_
            rintro e w1 ⟨v1, Q, rfl, ha, hr, hbl⟩
            have HR := Lib.hid (And.intro ((HS.out.add ha).congr (S' := fun c => a ≤ c ∧ c < 65) (L' := 1) (fun c => ⟨fun h => h.elim (fun h => h.elim) (fun h => ⟨h.1, by omega⟩), fun h => .inr ⟨h.1, by omega⟩⟩) (Nat.le_refl _)) (show WR w0 w1 v1 Q from ⟨hr, hbl⟩))
            clear ha hr hbl HC
            go_wp2_with fail
            go_meet
            exact ⟨v1, Q, 65, rfl, rfl, Lib.hid ⟨HR.out.1, HR.out.2, .inr rfl⟩, by omega, by omega, by omega⟩
          · have e1 : decide ((a : Int) < 65) = false := decide_eq_false (by omega)
            go_wp2_with fail
            go_meet
            exact ⟨v, P, a, rfl, rfl, Lib.hid ⟨HS.out.congr (fun c => ⟨fun h => h.elim, fun h => by omega⟩) (by omega), HW.out, .inl rfl⟩, by omega, by omega, by omega⟩
        case rest =>
          obtain ⟨v1, Q1, a1, rfl, rfl, H1, ha1, ha2, ha3⟩ := hcut
          clear HW
          go_upto_if 35 with (fail)
          go_cut [0, 2] (fun s0 s2 wc => ∃ (v2 : Value) (Q2 : List (Int × Int)) (b1 : Nat), v2 = s0 ∧ s2 = .int .i32 (b1 : Int) ∧ Hid (Way P (fun c => (a ≤ c ∧ c < a1) ∨ (b1 < c ∧ c ≤ b)) Q2 2 ∧ WR w0 wc v2 Q2 ∧ (b1 = b ∨ b1 = 125251)) ∧ b1 ≤ b ∧ b1 ≤ 125251 ∧ 65 ≤ b1)
          case first =>
            by_cases hbf : 125251 < b
            · have e1 : decide (125251 < (b : Int)) = true := decide_eq_true (by omega)
              have HC := Lib.hid (AR.out Q1 (by have := H1.out.1.2.2; omega) H1.out.1.2.1 125252 b (by omega) hb _ _ H1.out.2.1)
              go_wp2_with fail
              refine HC.out.mono ?_
              rintro e w1 ⟨v3, Q, rfl, ha, hr, hbl⟩
              have HR := Lib.hid (And.intro ((H1.out.1.add ha).congr (S' := fun c => (a ≤ c ∧ c < a1) ∨ (125251 < c ∧ c ≤ b)) (L' := 2) (fun c => ⟨fun h => h.elim .inl (fun h => .inr ⟨by omega, h.2⟩), fun h => h.elim .inl (fun h => .inr ⟨by omega, h.2⟩)⟩) (Nat.le_refl _)) (show WR w0 w1 v3 Q from ⟨hr, hbl⟩))
              clear ha hr hbl HC
              go_wp2_with fail
              go_meet
              exact ⟨v3, Q, 125251, rfl, rfl, Lib.hid ⟨HR.out.1, HR.out.2, .inr rfl⟩, by omega, by omega, by omega⟩
            · have e1 : decide (125251 < (b : Int)) = false := decide_eq_false (by omega)
              go_wp2_with fail
              go_meet
              exact ⟨v1, Q1, b, rfl, rfl, Lib.hid ⟨H1.out.1.congr (fun c => ⟨.inl, fun h => h.elim id (fun h => by omega)⟩) (by omega), H1.out.2.1, .inl rfl⟩, by omega, by omega, by omega⟩
          case rest =>
            obtain ⟨v2, Q2, b1, rfl, rfl, H2, hb1, hb2, hb3⟩ := hcut
            have H12 := Lib.hid (And.intro H1.out.2.2 H2.out.2.2)
            clear H1 k1 k2
            have hab1 : a1 ≤ b1 := by have := H12.out; omega
            go_wp2_with fail
            go_loopg [0, 7] (b1 + 1 - a1) (fun gk s0 s7 wr => ∃ (v3 : Value) (Q3 : List (Int × Int)) (x : Nat), Hid (gk + x = b1 + 1 ∧ Way P (fun c => ((a ≤ c ∧ c < a1) ∨ (b1 < c ∧ c ≤ b)) ∨ ∃ y n, a1 ≤ y ∧ y < x ∧ it n y = c) Q3 (2 + 4 * (x - a1)) ∧ WR w0 wr v3 Q3) ∧ (a1 ≤ x ∧ x ≤ b1 + 1) ∧ v3 = s0 ∧ s7 = .int .i32 (x : Int))
            case atStart => exact ⟨v2, Q2, a1, ⟨by omega, H2.out.1.congr (fun c => ⟨.inl, fun h => h.elim id (fun ⟨y, n, h1, h2, _⟩ => by omega)⟩) (by omega), H2.out.2.1⟩, ⟨Nat.le_refl _, by omega⟩, rfl, rfl⟩
            case round =>
              obtain ⟨v3, Q3, x, HI, hx, rfl, rfl⟩ := hrel
              obtain ⟨ga, hga⟩ : ∃ ga, ga = gk := ⟨_, rfl⟩
              rw [← hga] at HI
              have HGA := Lib.hid hga
              clear hga H2
              by_cases hxb : x ≤ b1
              · have d1 : decide (x ≤ b1) = true := decide_eq_true hxb
                have HC := Lib.hid (AR.out Q3 (by have := HI.out.2.1.2.2; omega) HI.out.2.1.2.1 x x (Nat.le_refl _) (by omega) v3 _ HI.out.2.2)
                go_wp2_with fail
                refine HC.out.mono ?_
                rintro e w1 ⟨v4, Q4, rfl, ha4, hr4, hbl4⟩
                have HQ4 := Lib.hid (And.intro (HI.out.2.1.add ha4) (show WR w0 w1 v4 Q4 from ⟨hr4, hbl4⟩))
                clear ha4 hr4 hbl4 HC
                have HFC := Lib.hid (fold_calls w1 x (by omega) (HF.out.below HQ4.out.2.2))
                obtain ⟨m, m1, m2, m3, m4, m5⟩ := orbit x (by omega)
                have HM := Lib.hid (And.intro m3 (And.intro m4 m5))
                clear m3 m4 m5
                go_wp2_with fail
                refine HFC.out.mono ?_
                rintro e w2 ⟨rfl, q2, rfl⟩
                clear HFC
                go_wp2_with fail
                go_loopg [0, 8] m (fun gj s0 s8 wq => ∃ (v5 : Value) (Q5 : List (Int × Int)) (n f : Nat), Hid (gj + n = m + 1 ∧ Way P (fun c => (((a ≤ c ∧ c < a1) ∨ (b1 < c ∧ c ≤ b)) ∨ ∃ y n, a1 ≤ y ∧ y < x ∧ it n y = c) ∨ ∃ j, j < n ∧ it j x = c) Q5 (2 + 4 * (x - a1) + n) ∧ WR w0 wq v5 Q5 ∧ f = it n x) ∧ (1 ≤ n ∧ n ≤ m) ∧ f ≤ 1114111 ∧ v5 = s0 ∧ s8 = .int .i32 (f : Int))
                case atStart => exact ⟨v4, Q4, 1, sfN x, ⟨by omega, HQ4.out.1.congr (fun c => ⟨fun h => h.elim .inl (fun h => .inr ⟨0, by omega, by show x = c; omega⟩), fun h => h.elim .inl (fun ⟨j, h1, h2⟩ => .inr (by rw [show j = 0 by omega] at h2; have h2 : x = c := h2; omega))⟩) (Nat.le_refl _), ⟨HQ4.out.2.1.drewN _, pw_below_drewN HQ4.out.2.2 _⟩, rfl⟩, ⟨Nat.le_refl _, m1⟩, sfN_le x (by omega), rfl, rfl⟩
                case round =>
                  obtain ⟨v5, Q5, n, f, HJ, hn, hf, rfl, rfl⟩ := hrel
                  by_cases hnm : n = m
                  · have hfx : f = x := by rw [HJ.out.2.2.2, hnm]; exact HM.out.1
                    have e1 : ((f : Int) != (x : Int)) = false := by rw [hfx]; exact bne_self_eq_false _
                    have HX := Lib.hid (HJ.out.2.1.congr (S' := fun c => ((a ≤ c ∧ c < a1) ∨ (b1 < c ∧ c ≤ b)) ∨ ∃ y n, a1 ≤ y ∧ y < x + 1 ∧ it n y = c) (L' := 2 + 4 * (x + 1 - a1)) (fun c => by
                      constructor
                      · rintro ((h | ⟨y, k, h1, h2, h3⟩) | ⟨j, h1, h2⟩)
                        · exact .inl h
                        · exact .inr ⟨y, k, h1, by omega, h3⟩
                        · exact .inr ⟨x, j, hx.1, by omega, h2⟩
                      · rintro (h | ⟨y, k, h1, h2, h3⟩)
                        · exact .inl (.inl h)
                        · by_cases hy : y = x
                          · subst hy
                            exact .inr ⟨k % m, by rw [hnm]; exact Nat.mod_lt _ m1, by rw [← it_mod HM.out.1]; exact h3⟩
                          · exact .inl (.inr ⟨y, k, h1, by omega, h3⟩)) (by omega))
                    clear hfx hnm
                    go_wp2_with fail
                    go_roundg (ga - 1)
                    case measure => have := HI.out.1; have := HGA.out; omega
                    case rel => exact ⟨v5, Q5, x + 1, ⟨by have := HI.out.1; omega, HX.out, HJ.out.2.2.1⟩, ⟨by omega, by omega⟩, rfl, by go_num⟩
                  · have hfx : f ≠ x := by rw [HJ.out.2.2.2]; exact HM.out.2.2 n hn.1 (by omega)
                    have e1 : ((f : Int) != (x : Int)) = true := by rw [bne_iff_ne]; omega
                    have HC2 := Lib.hid (AR.out Q5 (by have := HJ.out.2.1.2.2; omega) HJ.out.2.1.2.1 f f (Nat.le_refl _) hf v5 _ HJ.out.2.2.1)
                    clear hfx
                    go_wp2_with fail
                    refine HC2.out.mono ?_
                    rintro e w3 ⟨v6, Q6, rfl, ha6, hr6, hbl6⟩
                    have HQ6 := Lib.hid (And.intro (HJ.out.2.1.add ha6) (show WR w0 w3 v6 Q6 from ⟨hr6, hbl6⟩))
                    clear ha6 hr6 hbl6 HC2
                    have HFC := Lib.hid (fold_calls w3 f hf (HF.out.below HQ6.out.2.2))
                    go_wp2_with fail
                    refine HFC.out.mono ?_
                    rintro e w4 ⟨rfl, q4, rfl⟩
                    clear HFC
                    go_wp2_with fail
                    go_roundg (gk - 1)
                    case measure => have := HJ.out.1; omega
                    case rel => exact ⟨v6, Q6, n + 1, sfN f, ⟨by have := HJ.out.1; omega, HQ6.out.1.congr (fun c => ⟨fun h => h.elim (fun h => h.elim .inl (fun ⟨j, h1, h2⟩ => .inr ⟨j, by omega, h2⟩)) (fun h => .inr ⟨n, by omega, by rw [← HJ.out.2.2.2]; omega⟩), fun h => h.elim (fun h => .inl (.inl h)) (fun ⟨j, h1, h2⟩ => by
                      by_cases hj : j = n
                      · subst hj; rw [← HJ.out.2.2.2] at h2; exact .inr (by omega)
                      · exact .inl (.inr ⟨j, by omega, h2⟩))⟩) (by omega), ⟨HQ6.out.2.1.drewN _, pw_below_drewN HQ6.out.2.2 _⟩, by rw [HJ.out.2.2.2]; rfl⟩, ⟨by omega, by omega⟩, sfN_le f hf, rfl, rfl⟩
              · have d1 : decide (x ≤ b1) = false := decide_eq_false hxb
                have HFin := Lib.hid (show FPost w0 P a b (.returned v3) wr from ⟨v3, Q3, rfl, HI.out.2.1.done (by omega) hab hb (fun c hc => by
                  have h12 := H12.out
                  constructor
                  · rintro ((h | h) | ⟨y, n, h1, h2, h3⟩)
                    · exact ⟨0, h.1, by show c ≤ b; omega⟩
                    · exact ⟨0, by show a ≤ c; omega, h.2⟩
                    · obtain ⟨k, hk⟩ := it_back y (by omega) n c h3
                      exact ⟨k, by rw [hk]; omega, by rw [hk]; omega⟩
                  · rintro ⟨n, h1, h2⟩
                    by_cases ho : it n c < 65 ∨ 125251 < it n c
                    · have := it_out c n hc ho
                      rw [this] at h1 h2 ho
                      exact .inl (by omega)
                    · obtain ⟨k, hk⟩ := it_back c hc n (it n c) rfl
                      exact .inr ⟨it n c, k, by omega, by omega, hk⟩), HI.out.2.2.1, HI.out.2.2.2⟩)
                go_wp2_with fail
                go_ret
                exact HFin.out
end Go.Proofs.YtkcnodkojllobaaDoor.Fld
