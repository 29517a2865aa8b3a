/- The least length of a tree in memory (minInputLen): the walk. -/
import Derived.Test.YtofkpinikkfmeaaDoorLtFnMtLeast
import Derived.Test.YtofkpinikkfmeaaDoorTfFnMtLeast
import Derived.Test.YtofkpinikkfmeaaDoorRow
import Derived.Test.YtofkpinikkfmeaaDoorShelf
import Derived.StillTailTactics
namespace Go.Proofs.YtofkpinikkfmeaaDoor.TrFnMtLeast
open Go.RowKit Go.Proofs.YtofkpinikkfmeaaDoor.PFnMtLeast Go.Proofs.YtofkpinikkfmeaaDoorW.PrintWords Go.Proofs.YtofkpinikkfmeaaDoorW.PrintLast Go.Proofs.YtofkpinikkfmeaaDoorW.PrintMore
set_option linter.unusedSimpArgs false
set_option linter.unusedVariables false

/-- What is asked of a node. -/
structure MinOk (t : T) : Prop where
  op : 1 ≤ t.f0 ∧ t.f0 ≤ 19
  sub : t.f0 = 13 ∨ t.f0 = 15 ∨ t.f0 = 17 ∨ t.f0 = 19 → 0 < t.f7.length
  lit : t.f0 = 3 → (∀ c ∈ t.f2, okC c) ∧ t.f2.length ≤ 10000
  m0 : 0 ≤ minL t
  m1 : minL t ≤ 100000

theorem rlen_lib (c : Int) : Lib.runeLen c = rlen c := rfl
theorem RegAt.drewN {w : World} {S : Nat → Prop} {b : Nat} {t : T} (h : RegAt w S b t) (n : Nat) : RegAt (w.drewN n) S b t := h.mono fun i _ hS => ⟨hS, rfl⟩
theorem minS_take (l : List T) (hl : ∀ s ∈ l, 0 ≤ minL s) (k : Nat) : 0 ≤ minS (l.take k) ∧ minS (l.take k) ≤ minS l := by
  induction l generalizing k with
  | nil => simp [minS]
  | cons t l ih =>
    have h1 := hl t (by simp)
    cases k with
    | zero => rw [List.take_zero, minS, minS]; have := ih (fun s hs => hl s (by simp [hs])) 0; rw [List.take_zero, minS] at this; omega
    | succ k => rw [List.take_succ_cons, minS, minS]; have := ih (fun s hs => hl s (by simp [hs])) k; omega
theorem litL_take (l : List Int) (hl : ∀ c ∈ l, okC c) (k : Nat) (hn : l.length ≤ 10000) : 0 ≤ litL (l.take k) ∧ litL (l.take k) ≤ 40000 := by
  have h := litL_le (l.take k) fun c hc => hl c (List.mem_of_mem_take hc)
  have h2 : (l.take k).length ≤ l.length := by rw [List.length_take]; omega
  omega

theorem minH_head (l : List T) (h : 0 < l.length) : minH l = minL l[0] := by
  cases l with
  | nil => simp at h
  | cons t r => rfl

abbrev MinSaid (t : T) : Prop := AllN MinOk t → ∀ (w : World) (S : Nat → Prop) (b : Nat), RegAt w S b t → Calls Tryd.prog 21 #[ptr b] w fun e w' => e = .returned (.int .i64 (minL t)) ∧ ∃ n, w' = w.drewN n

set_option maxRecDepth 100000 in
set_option maxHeartbeats 4000000 in
theorem min_calls (t : T) : MinSaid t := by
  refine tree_ind (p := MinSaid) ?_ t
  intro t ih hA w S b hR
  obtain ⟨As, cs, Ar, cr, bs, hb, hcs, hl7, hl2, hbs, hk, hK2, hcr⟩ := hR.open_
  have hok := hA.self
  have HIH := Lib.hid (fun s hs => ih s hs (hA.sub s hs))
  have HSUB := Lib.hid hA.sub
  have hop : t.f0 % 256 = t.f0 := by have := hok.op; omega
  have hz0 : w.cell? ⟨b, 0, none⟩ = some (.int .u8 t.f0) := by rw [← hop]; exact (blk_cell hb 0).trans rfl
  have hz2 : w.cell? ⟨b, 2, none⟩ = some (.slice As t.f7.length cs) := (blk_cell hb 2).trans rfl
  have hz4 : w.cell? ⟨b, 4, none⟩ = some (.slice Ar t.f2.length cr) := (blk_cell hb 4).trans rfl
  have hz7 : w.cell? ⟨b, 7, none⟩ = some (.int .i64 t.f3) := (blk_cell hb 7).trans rfl
  have hmin := minL_eq t
  obtain ⟨X, hX⟩ : ∃ X, X = minL t := ⟨_, rfl⟩
  rw [← hX] at hmin ⊢
  obtain ⟨a, ha⟩ : ∃ a, a = t.f0 := ⟨_, rfl⟩
  rw [← ha] at hz0 hmin hop
  have h119 : 1 ≤ a ∧ a ≤ 19 := by rw [ha]; exact hok.op
  have HSB := Lib.hid (show a = 13 ∨ a = 15 ∨ a = 17 ∨ a = 19 → 0 < t.f7.length by rw [ha]; exact hok.sub)
  have HLT := Lib.hid (show a = 3 → (∀ c ∈ t.f2, okC c) ∧ t.f2.length ≤ 10000 by rw [ha]; exact hok.lit)
  have HX := Lib.hid (show 0 ≤ X ∧ X ≤ 100000 by rw [hX]; exact ⟨hok.m0, hok.m1⟩)
  have HK := Lib.hid hk
  have HK2 := Lib.hid hK2
  have HM := Lib.hid hmin
  have HS0 : Hid (0 < t.f7.length → ∃ (ad : Addr) (s : T), As = some ad ∧ t.f7[0]? = some s ∧ minH t.f7 = minL s ∧ ∃ b1, w.cell? ad = some (ptr b1) ∧ RegAt w S b1 s ∧ s ∈ t.f7) := Lib.hid fun h0 => by
    obtain ⟨⟨ad, h1, _, h2⟩, h3⟩ := hk 0 (by omega) h0
    exact ⟨ad, t.f7[0], h1, List.getElem?_eq_getElem h0, minH_head _ h0, bs[0]'(by omega), by rw [← Addr.add_zero' ad]; exact h2, h3, List.getElem_mem h0⟩
  clear hX ha hok hA ih hk hK2 hmin hb hR hop
  go_enter Tryd.func21, Tryd.ntmps21
  by_cases h3 : a = 3
  · subst h3
    have HX3 := Lib.hid (show X = litL t.f2 by have := HM.out; rw [if_pos rfl] at this; exact this)
    obtain ⟨hoc, hln⟩ := HLT.out rfl
    have HOC := Lib.hid hoc
    clear hoc HM
    go_wp2_with fail
    go_loopg [3, 28] t.f2.length (fun gk s3 s28 wr => ∃ (k : Nat) (x : Int), Hid (gk + k = t.f2.length ∧ x = litL (t.f2.take k)) ∧ (0 ≤ x ∧ x ≤ 40000) ∧ k ≤ t.f2.length ∧ s3 = .int .i64 x ∧ s28 = .int .i64 k ∧ wr = w)
    case atStart => exact ⟨0, 0, Lib.hid ⟨by omega, by simp [litL]⟩, by omega, Nat.zero_le _, rfl, rfl, rfl⟩
    case round =>
      obtain ⟨k, x, HI, hx, hk, rfl, rfl, rfl⟩ := hrel
      by_cases hlt : k < t.f2.length
      · have hd1 : decide (k < t.f2.length) = true := decide_eq_true hlt
        obtain ⟨ad, hAr, hc⟩ := Row.kd_cell HK2.out (Below.refl _ _) k hlt
        subst hAr
        have HN : Hid (litL (t.f2.take (k + 1)) = x + rl t.f2[k]) := Lib.hid (by rw [List.take_succ_eq_append_getElem hlt, litL_append, ← HI.out.2, litL, litL]; omega)
        have hrl := rl_le t.f2[k]
        have hrng := litL_take t.f2 HOC.out (k + 1) hln
        rw [HN.out] at hrng
        generalize hcc : t.f2[k] = c at *
        have hrd := fun W => Tryd.utf8_RuneLen c W
        have HRD := Lib.hid hrd
        clear hrd hcc
        by_cases h6 : c = 65533
        · have e6 : (c == 65533) = true := beq_iff_eq.2 h6
          have hr1 : rl c = 1 := by rw [h6]; rfl
          clear h6
          go_wp2_with fail
          go_roundg (gk - 1)
          case measure => have := HI.out.1; omega
          case rel => exact ⟨k + 1, x + 1, Lib.hid ⟨by have := HI.out.1; omega, by rw [HN.out, hr1]⟩, by omega, by omega, by go_num, by go_num, rfl⟩
        · have e6 : (c == 65533) = false := beq_eq_false_iff_ne.2 h6
          have hr1 : rl c = Lib.runeLen c := by unfold rl; rw [if_neg h6]; rfl
          clear h6
          go_wp2_with fail
          refine (HRD.out _).mono ?_
          rintro e w1 ⟨rfl, rfl⟩
          rw [← hr1]
          generalize rl c = rc at *
          clear hr1
          go_wp2_with fail
          go_roundg (gk - 1)
          case measure => have := HI.out.1; omega
          case rel => exact ⟨k + 1, x + rc, Lib.hid ⟨by have := HI.out.1; omega, HN.out.symm⟩, by omega, by omega, by go_num, by go_num, rfl⟩
      · have hd1 : decide (k < t.f2.length) = false := decide_eq_false hlt
        obtain rfl : k = t.f2.length := by omega
        have hxX : x = X := by rw [HI.out.2, List.take_length, HX3.out]
        go_wp2_with fail
        go_ret
        exact ⟨by rw [← hxX]; rfl, 0, rfl⟩
  have HM2 := HM
  rw [if_neg h3] at HM2
  by_cases h456 : a = 4 ∨ a = 5 ∨ a = 6
  · have HXX := Lib.hid (show X = 1 by have := HM2.out; rw [if_pos h456] at this; exact this)
    clear HM HM2
    rcases h456 with rfl | rfl | rfl
    all_goals
      go_wp2_with fail
      go_ret
      exact ⟨by rw [HXX.out]; rfl, 0, rfl⟩
  rw [if_neg h456] at HM2
  by_cases h13 : a = 13 ∨ a = 15
  · have hsl := HSB.out (by omega)
    obtain ⟨ad, s, hAs, _, hmh, b1, hc1, hr1, hsm⟩ := HS0.out hsl
    subst hAs
    have HXX := Lib.hid (show X = minL s by have := HM2.out; rw [if_pos h13, hmh] at this; exact this)
    have HC := Lib.hid (HIH.out s hsm w S b1 hr1)
    have hs1 : (0 : Int) < (t.f7.length : Int) := by omega
    have hd0 : decide (0 < t.f7.length) = true := decide_eq_true hsl
    clear HM HM2 hr1 hmh
    rcases h13 with rfl | rfl
    all_goals
      go_wp2_with fail
      refine HC.out.mono ?_
      rintro e w1 ⟨rfl, n, rfl⟩
      go_wp2_with fail
      go_ret
      exact ⟨by rw [HXX.out]; rfl, n, rfl⟩
  rw [if_neg h13] at HM2
  by_cases h17 : a = 17
  · subst h17
    have hsl := HSB.out (by omega)
    obtain ⟨ad, s, hAs, _, hmh, b1, hc1, hr1, hsm⟩ := HS0.out hsl
    subst hAs
    have HXX := Lib.hid (show X = t.f3 * minL s by have := HM2.out; rw [if_pos rfl, hmh] at this; exact this)
    have HC := Lib.hid (fun n => HIH.out s hsm (w.drewN n) S b1 (hr1.drewN n))
    have hs1 : (0 : Int) < (t.f7.length : Int) := by omega
    clear HM HM2 hr1 hmh
    go_upto_region 21 with (fail)
    have HR := Lib.hid (show 0 ≤ t.f3 * minL s ∧ t.f3 * minL s ≤ 100000 by rw [← HXX.out]; exact HX.out)
    have hw : wrap64 (t.f3 * minL s) = t.f3 * minL s := w64 _ (by have := HR.out; omega)
    go_quiet (first | (go_at_call 21; refine (HC.out _).mono ?_; rintro e w' ⟨rfl, nd, rfl⟩; (try first | exact ⟨rfl, _, World.drewN_drewN _ _ _⟩ | exact ⟨rfl, _, Eq.trans (World.drewN_drewN _ _ _) (congrArg (World.drewN _) (Nat.add_assoc _ _ _))⟩)))
    go_wp2_with fail
    go_ret
    exact ⟨by rw [HXX.out, ← hw]; rfl, nq, rfl⟩
  rw [if_neg h17] at HM2
  by_cases h18 : a = 18
  · subst h18
    have HXX := Lib.hid (show X = minS t.f7 by have := HM2.out; rw [if_pos rfl] at this; exact this)
    have HAL := Lib.hid (show ∀ s ∈ t.f7, 0 ≤ minL s from fun s hs => (HSUB.out s hs).self.m0)
    clear HM HM2
    go_wp2_with fail
    go_loopg [6, 73] t.f7.length (fun gk s6 s73 wr => ∃ (k m : Nat) (x : Int), Hid (gk + k = t.f7.length ∧ x = minS (t.f7.take k)) ∧ (0 ≤ x ∧ x ≤ 100000) ∧ k ≤ t.f7.length ∧ s6 = .int .i64 x ∧ s73 = .int .i64 k ∧ wr = w.drewN m)
    case atStart => exact ⟨0, 0, 0, Lib.hid ⟨by omega, by simp [minS]⟩, by omega, Nat.zero_le _, rfl, rfl, rfl⟩
    case round =>
      obtain ⟨k, m, x, HI, hx, hk, rfl, rfl, rfl⟩ := hrel
      by_cases hlt : k < t.f7.length
      · have hd1 : decide (k < t.f7.length) = true := decide_eq_true hlt
        obtain ⟨⟨ad, hAs, _, hc⟩, hrk⟩ := HK.out k (by omega) hlt
        subst hAs
        have hsm := List.getElem_mem hlt
        have HC := Lib.hid (HIH.out _ hsm (w.drewN m) S _ (hrk.drewN m))
        have HN : Hid (minS (t.f7.take (k + 1)) = x + minL t.f7[k]) := Lib.hid (by rw [List.take_succ_eq_append_getElem hlt, minS_append, ← HI.out.2])
        have hrng := minS_take t.f7 HAL.out (k + 1)
        have hXr := HX.out
        rw [HN.out, ← HXX.out] at hrng
        have hc2 : (w.drewN m).cell? (ad.add k) = some (ptr (bs[k]'(by omega))) := hc
        generalize minL t.f7[k] = y at *
        clear hrk hsm
        go_wp2_with fail
        refine HC.out.mono ?_
        rintro e w1 ⟨rfl, n, rfl⟩
        go_wp2_with fail
        go_roundg (gk - 1)
        case measure => have := HI.out.1; omega
        case rel => exact ⟨k + 1, m + n, x + y, Lib.hid ⟨by have := HI.out.1; omega, HN.out.symm⟩, by omega, by omega, by go_num, by go_num, rfl⟩
      · have hd1 : decide (k < t.f7.length) = false := decide_eq_false hlt
        obtain rfl : k = t.f7.length := by omega
        have hxX : x = X := by rw [HI.out.2, List.take_length, HXX.out]
        go_wp2_with fail
        go_ret
        exact ⟨by rw [← hxX]; rfl, m, rfl⟩
  rw [if_neg h18] at HM2
  by_cases h19 : a = 19
  · subst h19
    have hsl := HSB.out (by omega)
    obtain ⟨ad, s, hAs, hs0, hmh, b1, hc1, hr1, hsm⟩ := HS0.out hsl
    subst hAs
    obtain ⟨t0, r, hl⟩ : ∃ t0 r, t.f7 = t0 :: r := by
      cases hq : t.f7 with
      | nil => rw [hq] at hsl; simp at hsl
      | cons t0 r => exact ⟨t0, r, rfl⟩
    obtain rfl : t0 = s := by rw [hl] at hs0; simpa using hs0
    have HXX := Lib.hid (show X = minA (minL t0) r by have := HM2.out; rw [if_pos rfl, hl, minB] at this; exact this)
    have HC := Lib.hid (HIH.out t0 hsm w S b1 hr1)
    have HB := Lib.hid (show ∀ s ∈ t.f7, 0 ≤ minL s ∧ minL s ≤ 100000 from fun s hs => ⟨(HSUB.out s hs).self.m0, (HSUB.out s hs).self.m1⟩)
    have HL := Lib.hid hl
    have hrl : t.f7.length = r.length + 1 := by rw [hl]; simp
    have hs1 : (0 : Int) < (t.f7.length : Int) := by omega
    clear HM HM2 hr1 hmh hs0 hl
    rw [hrl] at hz2 hcs hs1 hsl
    have hc1n : ∀ n, (w.drewN n).cell? ad = some (ptr b1) := fun _ => hc1
    have h1r : 1 ≤ r.length + 1 := by omega
    by_cases hcs1 : cs = 1
    · obtain rfl : r = [] := List.length_eq_zero_iff.1 (by omega)
      subst hcs1
      have hxX : minL t0 = X := by have := HXX.out; rw [minA] at this; exact this.symm
      go_wp2_with fail
      refine HC.out.mono ?_
      rintro e w1 ⟨rfl, n, rfl⟩
      go_wp2_with fail
      go_loopg [9, 98] 0 (fun gk s9 s98 wr => s9 = .int .i64 X ∧ s98 = .int .i64 0 ∧ wr = w.drewN n)
      case atStart => exact ⟨by first | rfl | rw [hxX], rfl, rfl⟩
      case round =>
        obtain ⟨rfl, rfl, rfl⟩ := hrel
        go_wp2_with fail
        go_ret
        exact ⟨rfl, n, rfl⟩
    · have hcs2 : 1 < cs := by omega
      go_wp2_with fail
      refine HC.out.mono ?_
      rintro e w1 ⟨rfl, n, rfl⟩
      go_wp2_with fail
      go_loopg [9, 10, 98] r.length (fun gk s9 s10 s98 wr => ∃ (k m : Nat) (x y : Int), Hid (gk + k = r.length ∧ minA x (r.drop k) = X) ∧ (0 ≤ x ∧ x ≤ 100000) ∧ k ≤ r.length ∧ s9 = .int .i64 x ∧ s10 = .int .i64 y ∧ s98 = .int .i64 k ∧ wr = w.drewN m)
      case atStart => exact ⟨0, n, minL t0, 0, Lib.hid ⟨by omega, HXX.out.symm⟩, HB.out t0 hsm, Nat.zero_le _, rfl, rfl, rfl, rfl⟩
      case round =>
        obtain ⟨k, m, x, y, HI, hx, hk, rfl, rfl, rfl, rfl⟩ := hrel
        by_cases hlt : k < r.length
        · have hd1 : decide (k < r.length) = true := decide_eq_true hlt
          obtain ⟨⟨ad', hAs', _, hc⟩, hrk⟩ := HK.out (k + 1) (by omega) (by omega)
          obtain rfl : ad = ad' := by injection hAs'
          have hsm2 := List.getElem_mem (show k + 1 < t.f7.length by omega)
          have hge : t.f7[k + 1]'(by omega) = r[k] := by
            have := HL.out
            simp only [this, List.getElem_cons_succ]
          rw [hge] at hrk hsm2
          have HC2 := Lib.hid (HIH.out _ hsm2 (w.drewN m) S _ (hrk.drewN m))
          have HN : Hid (minA (if minL r[k] < x then minL r[k] else x) (r.drop (k + 1)) = X) := Lib.hid (by
            have := HI.out.2
            rw [List.drop_eq_getElem_cons hlt, minA] at this
            exact this)
          have hz := HB.out _ hsm2
          have hc2 : w.cell? ⟨ad.block, ad.off + 1 + k, none⟩ = some (ptr (bs[k + 1]'(by omega))) := by
            have he : ad.add (k + 1) = ⟨ad.block, ad.off + 1 + k, none⟩ := by
              unfold Addr.add
              rw [if_neg (by omega)]
              congr 1
              omega
            rw [← he]; exact hc
          generalize minL r[k] = z at *
          clear hrk hsm2 hge hc
          go_wp2_with fail
          refine HC2.out.mono ?_
          rintro e w1 ⟨rfl, n2, rfl⟩
          by_cases hzx : z < x
          · have hzd : decide (z < x) = true := decide_eq_true hzx
            have HZ := Lib.hid hzx
            clear hzx
            go_wp2_with fail
            go_roundg (gk - 1)
            case measure => have := HI.out.1; omega
            case rel => exact ⟨k + 1, m + n2, z, z, Lib.hid ⟨by have := HI.out.1; omega, by have := HN.out; rw [if_pos HZ.out] at this; exact this⟩, hz, by omega, rfl, rfl, by go_num, rfl⟩
          · have hzd : decide (z < x) = false := decide_eq_false hzx
            have HZ := Lib.hid hzx
            clear hzx
            go_wp2_with fail
            go_roundg (gk - 1)
            case measure => have := HI.out.1; omega
            case rel => exact ⟨k + 1, m + n2, x, z, Lib.hid ⟨by have := HI.out.1; omega, by have := HN.out; rw [if_neg (show ¬ z < x by have := HZ.out; omega)] at this; exact this⟩, hx, by omega, rfl, rfl, by go_num, rfl⟩
        · have hd1 : decide (k < r.length) = false := decide_eq_false hlt
          obtain rfl : k = r.length := by omega
          have hxX : x = X := by have := HI.out.2; rw [List.drop_length, minA] at this; exact this
          go_wp2_with fail
          go_ret
          exact ⟨by rw [← hxX]; rfl, m, rfl⟩
  rw [if_neg h19] at HM2
  have HXX := HM2
  have hrest : a = 1 ∨ a = 2 ∨ a = 7 ∨ a = 8 ∨ a = 9 ∨ a = 10 ∨ a = 11 ∨ a = 12 ∨ a = 14 ∨ a = 16 := by omega
  clear HM HM2 h3 h456 h13 h17 h18 h19 h119 HSB HLT
  rcases hrest with rfl | rfl | rfl | rfl | rfl | rfl | rfl | rfl | rfl | rfl
  all_goals
    go_wp2_with fail
    go_ret
    exact ⟨by rw [HXX.out]; rfl, 0, rfl⟩
end Go.Proofs.YtofkpinikkfmeaaDoor.TrFnMtLeast
