/- FnMtLeast: of which trees and texts it speaks (mtFine), and the law: the walks. -/
import Derived.Test.YtofkpinikkfmeaaDoorGxFnMtLeast
import Derived.Deep.RegionHeld3
namespace Go.Proofs.YtofkpinikkfmeaaDoor.TxFnMtLeast
open Go.Proofs.YtofkpinikkfmeaaDoor.Sf hiding T
open Go.RowKit Go.Proofs.YtofkpinikkfmeaaDoor.TrFnMtLeast Go.Proofs.YtofkpinikkfmeaaDoor.PFnMtLeast Go.Proofs.YtofkpinikkfmeaaDoorW.PrintWords Go.Proofs.YtofkpinikkfmeaaDoorW.PrintLast Go.Proofs.YtofkpinikkfmeaaDoorW.PrintMore
set_option linter.unusedSimpArgs false
set_option linter.unusedVariables false

/-- The set of one place. -/
def placeL (n i : Nat) : List Bool := (List.replicate (n + 1) false).set i true
theorem placeL_len (n i : Nat) : (placeL n i).length = n + 1 := by unfold placeL; simp
theorem placeL_iff (n i k : Nat) (h : (placeL n i)[k]? = some true) : k = i := by
  unfold placeL at h
  by_cases e : i = k
  · exact e.symm
  · rw [List.getElem?_set_ne e, List.getElem?_replicate] at h
    split at h <;> simp at h
theorem place_calls (s : ByteArray) (i : Nat) (w : World) (hi : i ≤ s.size) (hs : s.size ≤ 100000) :
    Calls Tryd.prog 24 #[.string s, .int .i64 (i : Int)] w fun e w' => (∃ v, e = .returned v ∧ Rw w' v (placeL s.size i)) ∧ Below w.heap.size w w' := by
  have h : spec_rePlace.f s (i : Int) = some (placeL s.size i) := by
    have e : wrap64 ((s.size : Int) + 1) = ((s.size + 1 : Nat) : Int) := Go.Proofs.YtofkpinikkfmeaaDoor.EvN.wrap_nat s.size 1 (by omega)
    unfold spec_rePlace.f
    rw [e, if_pos (by omega), if_pos (by omega), Int.toNat_natCast, Option.bind_some, if_pos (by omega), if_pos (by rw [List.length_replicate]; omega), Int.toNat_natCast]
    rfl
  refine (spec_rePlace.calls s (i : Int) _ w h).mono ?_
  rintro e w' ⟨v, rfl, hr, hb⟩
  exact ⟨⟨v, rfl, Rw.of_R hr⟩, hb⟩

set_option maxRecDepth 100000 in
set_option maxHeartbeats 4000000 in
theorem reEnds_calls (t : T) (W0 w : World) (cs : List Value) (hK : k25.K W0 t cs) (hW : Below W0.heap.size W0 w) (hF : Folds w) (hT : Tabs w) (hA : AllN NodeE t) (s : ByteArray) (hs : s.size ≤ 100000) (i : Nat) (hi : i ≤ s.size) :
    Calls Tryd.prog 14 #[.agg cs.toArray, .string s, .int .i64 (i : Int)] w fun e w' => (∃ (A : Option Addr) (c : Nat) (l : List Int), e = .returned (.slice A l.length c) ∧ l.length ≤ c ∧ Kd.C (Kd.int .i64) w' A l.length l ∧ ∀ x ∈ l, (i : Int) + minL t ≤ x ∧ x ≤ s.size) ∧ Below w.heap.size w w' := by
  have HE := Lib.hid (fun w' (hb : Below w.heap.size w w') => ends_calls s hs W0 t hA w' cs hK (hW.trans (hb.mono hW.size)) (hF.below hb) (Utf8Tabs_below hT hb))
  obtain ⟨A2, c2, A7, c7, rfl, l2, g2, l7, g7⟩ := k25_open hK
  have hu40 := Tryd.underlying25
  clear l2 g2 l7 g7 hW hK hT hF hA
  go_enter Tryd.func14, Tryd.ntmps14
  go_upto_region 2 with (first | ((with_reducible refine gate_dst (N := 3) rfl ?_); refine box_event ?hg (N := 3) ?hd (cs := #[.int .i64 t.f0, .int .i64 t.f1, .slice A2 t.f2.length c2, .int .i64 t.f3, .int .i64 t.f4, .int .i64 t.f5, .string t.f6, .slice A7 t.f7.length c7]) (t := 25) ?hr ?_; (case hd => rfl); (case hg => rfl); (case hr => first | (go_simp; done) | (go_simp; rfl)); intro gb hg w1 hbox hb; have BK := Lib.hid hbox; have HB1 := Lib.hid hb; clear hg hbox hb; obtain ⟨hz0, hz1, hz2, hz3, hz4, hz5, hz6, hz7⟩ := blk8 BK.out))
  have HKP : Hid (∀ w', Below w1.heap.size w1 w' → w'.cell? ⟨gb, 0, none⟩ = some (.int .i64 t.f0) ∧ w'.cell? ⟨gb, 1, none⟩ = some (.int .i64 t.f1) ∧ w'.cell? ⟨gb, 2, none⟩ = some (.slice A2 t.f2.length c2) ∧ w'.cell? ⟨gb, 3, none⟩ = some (.int .i64 t.f3) ∧ w'.cell? ⟨gb, 4, none⟩ = some (.int .i64 t.f4) ∧ w'.cell? ⟨gb, 5, none⟩ = some (.int .i64 t.f5) ∧ w'.cell? ⟨gb, 6, none⟩ = some (.string t.f6) ∧ w'.cell? ⟨gb, 7, none⟩ = some (.slice A7 t.f7.length c7)) := Lib.hid fun w' hb => blk8 (blk_below BK.out hb)
  go_region_held3 (fun w' => w'.cell? ⟨gb, 0, none⟩ = some (.int .i64 t.f0) ∧ w'.cell? ⟨gb, 1, none⟩ = some (.int .i64 t.f1) ∧ w'.cell? ⟨gb, 2, none⟩ = some (.slice A2 t.f2.length c2) ∧ w'.cell? ⟨gb, 3, none⟩ = some (.int .i64 t.f3) ∧ w'.cell? ⟨gb, 4, none⟩ = some (.int .i64 t.f4) ∧ w'.cell? ⟨gb, 5, none⟩ = some (.int .i64 t.f5) ∧ w'.cell? ⟨gb, 6, none⟩ = some (.string t.f6) ∧ w'.cell? ⟨gb, 7, none⟩ = some (.slice A7 t.f7.length c7))
    (first
      | exact HKP.out _ (Below.refl _ w1)
      | exact HKP.out _ (below_drew (Below.refl _ w1))
      | exact HKP.out _ HL1.out.2
      | exact HKP.out _ HL2.out.2)
    (first
      | (go_at_call 24; refine (place_calls s i _ hi hs).mono ?_; rintro e w4 ⟨⟨v4, rfl, A4, c4, rfl, q1, q2⟩, hd⟩; have HL1 := Lib.hid (And.intro (And.intro q1 q2) (below_step (below_drew (Below.refl _ w1)) hd)); clear q1 q2 hd)
      | (go_at_call 23; refine (HE.out w4 (below_step HB1.out HL1.out.2) A4 c4 (placeL s.size i) HL1.out.1.2 HL1.out.1.1 (placeL_len _ _)).mono ?_; rintro e w5 ⟨⟨v, r, rfl, ⟨A5, c5, rfl, q1, q2⟩, q3, q4⟩, hd⟩; have HL2 := Lib.hid (And.intro (And.intro q1 (And.intro q2 (And.intro q3 q4))) (below_step HL1.out.2 hd)); clear q1 q2 q3 q4 hd))
  all_goals
    have HB5 := Lib.hid (below_step HB1.out HL2.out.2)
    have HLO := Lib.hid (show ∀ k : Nat, r[k]? = some true → (i : Int) + minL t ≤ k from fun k hk => by
      obtain ⟨j, h1, h2⟩ := HL2.out.1.2.2.2 k hk
      rw [placeL_iff _ _ _ h1] at h2
      exact h2)
    clear hz0 hz1 hz2 hz3 hz4 hz5 hz6 hz7
    go_wp2_with fail
    go_loopg [7, 17] r.length (fun gk s7 s17 wr => ∃ (k : Nat) (out : List Int), Hid (gk + k = r.length ∧ wr.ownsRow w5.heap.size 3 1 s7 out.length (out.map (Value.int .i64)) ∧ (∀ x ∈ out, (i : Int) + minL t ≤ x ∧ x ≤ s.size) ∧ Below w5.heap.size w5 wr) ∧ k ≤ r.length ∧ out.length ≤ k ∧ s17 = .int .i64 k)
    case atStart => exact ⟨0, [], Lib.hid ⟨by omega, World.ownsRow_nil _ _ _ _, (fun x hx => by cases hx), Below.refl _ _⟩, Nat.zero_le _, Nat.zero_le _, rfl⟩
    case round =>
      obtain ⟨k, out, HI, hk, ho, rfl⟩ := hrel
      have hrl : r.length ≤ 100001 := by have := HL2.out.1.2.2.1; omega
      by_cases hlt : k < r.length
      · have hd1 : decide (k < r.length) = true := decide_eq_true hlt
        obtain ⟨ad, hA, hcell⟩ := kb_cell HL2.out.1.2.1 HI.out.2.2.2 k hlt
        subst hA
        have HN := Lib.hid (List.getElem?_eq_getElem hlt)
        obtain ⟨x, hx⟩ : ∃ x, x = r[k] := ⟨_, rfl⟩
        rw [← hx] at hcell HN
        clear hx
        cases x with
        | false =>
          go_wp2_with fail
          go_roundg (gk - 1)
          case measure => have := HI.out.1; omega
          case rel => exact ⟨k + 1, out, Lib.hid ⟨by have := HI.out.1; omega, HI.out.2⟩, by omega, by omega, by go_num⟩
        | true =>
          go_wp2_with (at_builtin; refine My.app1 rfl (.tmp 23) (.tmp 25) 37 rfl 3 (.int .i64 0) 8 Tryd.underlying37 iint rfl _ out.length _ rfl w5.heap.size w5 (HI.out.2.1.alloc _) (below_alloc HI.out.2.2.2 _) (Nat.le_refl _) wr.heap.size rfl (.int .i64 (k : Int)) (by simp) rfl (by omega) (by unfold maxLen; omega) ?_; intro v1 w6 hown1 hbel1 hg1)
          go_roundg (gk - 1)
          case measure => have := HI.out.1; omega
          case rel =>
            refine ⟨k + 1, out ++ [(k : Int)], Lib.hid ⟨by have := HI.out.1; omega, ?_, fun x hx => ?_, hbel1.out⟩, by omega, by simp; omega, by go_num⟩
            · have := hown1.out
              simpa using this
            · rcases List.mem_append.1 hx with h | h
              · exact HI.out.2.2.1 x h
              · rw [List.mem_singleton.1 h]
                exact ⟨HLO.out k HN.out, by have := HL2.out.1.2.2.1; omega⟩
      · have hd1 : decide (k < r.length) = false := decide_eq_false hlt
        go_wp2_with fail
        go_ret
        obtain ⟨A, c, rfl, h1, h2⟩ := rowAt_kd (RowAt.of_owns (S := fun _ => True) HI.out.2.1 fun _ _ => trivial) (h1 := fun _ => rfl)
        exact ⟨⟨A, c, out, rfl, h1, h2, HI.out.2.2.1⟩, below_step HB5.out HI.out.2.2.2⟩
end Go.Proofs.YtofkpinikkfmeaaDoor.TxFnMtLeast
namespace Go.Proofs.YtofkpinikkfmeaaDoor.TxFnMtLeast
open Go.Proofs.YtofkpinikkfmeaaDoor.Sf hiding T
open Go.RowKit Go.Proofs.YtofkpinikkfmeaaDoor.TrFnMtLeast Go.Proofs.YtofkpinikkfmeaaDoor.PFnMtLeast Go.Proofs.YtofkpinikkfmeaaDoorW.PrintWords Go.Proofs.YtofkpinikkfmeaaDoorW.PrintLast Go.Proofs.YtofkpinikkfmeaaDoorW.PrintMore
set_option linter.unusedSimpArgs false
set_option linter.unusedVariables false

theorem bordF_le (s : ByteArray) : ∀ (n i : Nat), i ≤ s.size → ∀ x ∈ bordF s n i, x ≤ s.size := by
  intro n
  induction n with
  | zero => intro i hi x hx; rw [bordF] at hx; simp at hx; omega
  | succ n ih =>
    intro i hi x hx
    rw [bordF] at hx
    split at hx
    · simp at hx; omega
    · rcases List.mem_cons.1 hx with rfl | h
      · exact hi
      · exact ih _ (dec_le s i hi) x h
/-- A number read in a row. -/
theorem ki_cell {W0 w : World} {A : Option Addr} {l : List Int} (h : Kd.C (Kd.int .i64) W0 A l.length l) (hb : Below W0.heap.size W0 w) (j : Nat) (hj : j < l.length) : ∃ ad, A = some ad ∧ w.cell? (ad.add j) = some (.int .i64 l[j]) := by
  obtain ⟨_, _, h3⟩ := h
  obtain ⟨ad, hA, hc⟩ := h3 (by omega)
  obtain ⟨cs, _, hK, hcell⟩ := hc j l[j] (List.getElem?_eq_getElem hj)
  have := hcell 0 (.int .i64 l[j]) (by rw [show cs = [.int .i64 l[j]] from hK]; rfl)
  have h1 : (Kd.int .i64).sz = 1 := rfl
  rw [h1, Nat.mul_one, Nat.add_zero] at this
  exact ⟨ad, hA, (hb.cell (World.block_lt_of_cell? W0 _ this)).trans this⟩

set_option maxRecDepth 100000 in
set_option maxHeartbeats 4000000 in
theorem shortest_calls (t : T) (W0 w : World) (cs : List Value) (hK : k25.K W0 t cs) (hW : Below W0.heap.size W0 w) (hF : Folds w) (hT : Tabs w) (hA : AllN NodeE t) (hm : minL t ≤ 100000) (s : ByteArray) (hs : s.size ≤ 100000) :
    Calls Tryd.prog 7 #[.agg cs.toArray, .string s] w fun e w' => (∃ r : Int, e = .returned (.int .i64 r) ∧ (r < 0 ∨ minL t ≤ r)) ∧ Below w.heap.size w w' := by
  have HE := Lib.hid (fun w' (hb : Below w.heap.size w w') => reEnds_calls t W0 w' cs hK (hW.trans (hb.mono hW.size)) (hF.below hb) (Utf8Tabs_below hT hb) hA s hs)
  have HM := Lib.hid (And.intro hA.self.2.2.1 hm)
  obtain ⟨A2, c2, A7, c7, rfl, l2, g2, l7, g7⟩ := k25_open hK
  have hu40 := Tryd.underlying25
  have HT := Lib.hid hT
  clear l2 g2 l7 g7 hW hK hT hF hA hm
  generalize minL t = M at *
  go_enter Tryd.func7, Tryd.ntmps7
  go_wp2_with (first | ((with_reducible refine gate_dst (N := 2) rfl ?_); refine box_event ?hg (N := 2) ?hd (cs := #[.int .i64 t.f0, .int .i64 t.f1, .slice A2 t.f2.length c2, .int .i64 t.f3, .int .i64 t.f4, .int .i64 t.f5, .string t.f6, .slice A7 t.f7.length c7]) (t := 25) ?hr ?_; (case hd => rfl); (case hg => rfl); (case hr => first | (go_simp; done) | (go_simp; rfl)); intro gb hg w1 hbox hb; have BK := Lib.hid hbox; have HB1 := Lib.hid hb; clear hg hbox hb))
  refine (borders_calls s w1 hs (Utf8Tabs_below HT.out HB1.out)).mono ?_
  rintro e w2 ⟨lv, rfl, hr, hb2⟩
  have HB2 := Lib.hid (below_step HB1.out hb2)
  have BK2 := Lib.hid (blk_below BK.out hb2)
  obtain ⟨A, c, rfl, hc, hC⟩ := rowAt_kd (enc := fun x : Nat => Value.int .i64 (x : Int)) hr (h1 := fun _ => rfl)
  have HR := Lib.hid (show Kd.C (Kd.int .i64) w2 A (bordF s (s.size + 1) 0).length ((bordF s (s.size + 1) 0).map fun x : Nat => (x : Int)) from by
    obtain ⟨A', c', e, h1, h2⟩ := rowAt_kd (enc := Value.int .i64) (l := (bordF s (s.size + 1) 0).map fun x : Nat => (x : Int)) (by rw [List.map_map]; exact hr) (h1 := fun _ => rfl)
    rw [List.length_map] at e h2
    cases e
    exact h2)
  have hle := bordF_le s (s.size + 1) 0 (by omega)
  have hln := bordF_len s (s.size + 1) 0
  clear hb2 BK hr hC
  generalize bordF s (s.size + 1) 0 = B at *
  have HLE := Lib.hid hle
  clear hle
  go_wp2_with fail
  go_loopg [5, 12] B.length (fun gk s5 s12 wr => ∃ (k : Nat) (r : Int), Hid (gk + k = B.length ∧ Below w2.heap.size w2 wr ∧ (r < 0 ∨ M ≤ r)) ∧ k ≤ B.length ∧ -1 ≤ r ∧ r ≤ 100000 ∧ s5 = .int .i64 r ∧ s12 = .int .i64 k)
  case atStart => exact ⟨0, -1, Lib.hid ⟨by omega, Below.refl _ _, .inl (by omega)⟩, Nat.zero_le _, by omega, by omega, rfl, rfl⟩
  case round =>
    obtain ⟨k, r, HI, hk, hr0, hr1, rfl, rfl⟩ := hrel
    have HBW := Lib.hid (below_step HB2.out HI.out.2.1)
    by_cases hlt : k < B.length
    · have hd1 : decide (k < B.length) = true := decide_eq_true hlt
      have hB := HLE.out _ (List.getElem_mem hlt)
      obtain ⟨ad, hA, hcell⟩ := ki_cell (l := B.map fun x : Nat => (x : Int)) (by rw [List.length_map]; exact HR.out) HI.out.2.1 k (by rw [List.length_map]; exact hlt)
      subst hA
      rw [List.getElem_map] at hcell
      have HE1 := Lib.hid (HE.out wr HBW.out B[k] hB)
      obtain ⟨i, hi⟩ : ∃ i, i = B[k] := ⟨_, rfl⟩
      rw [← hi] at hcell hB HE1
      clear hi
      obtain ⟨hz0, hz1, hz2, hz3, hz4, hz5, hz6, hz7⟩ := blk8 (blk_below BK2.out HI.out.2.1)
      go_wp2_with fail
      refine HE1.out.mono ?_
      rintro e w3 ⟨⟨A3, c3, l, rfl, h1, h2, h3⟩, hb3⟩
      have HQ := Lib.hid (And.intro (below_step HI.out.2.1 hb3) h3)
      clear hz0 hz1 hz2 hz3 hz4 hz5 hz6 hz7 hcell HE1
      cases l with
      | nil =>
        clear h1 h2 h3 hb3
        simp only [List.length_nil]
        go_wp2_with fail
        go_roundg (gk - 1)
        case measure => have := HI.out.1; omega
        case rel => exact ⟨k + 1, r, Lib.hid ⟨by have := HI.out.1; omega, HQ.out.1, HI.out.2.2⟩, by omega, hr0, hr1, rfl, by go_num⟩
      | cons y ys =>
        obtain ⟨ad3, hA3, hcell3⟩ := ki_cell h2 (Below.refl _ _) 0 (by simp)
        subst hA3
        rw [List.getElem_cons_zero, Go.Proofs.YtofkpinikkfmeaaDoor.IcFnMtLeast.add_0] at hcell3
        have hy := h3 y (by simp)
        obtain ⟨hy1, hy2⟩ := hy
        have hm0 := HM.out.1
        have hlen : (y :: ys).length ≤ 9223372036854775807 := h2.2.1
        have hpos : 0 < (y :: ys).length := by simp
        generalize (y :: ys).length = L at *
        have hd3 : decide (0 < L) = true := decide_eq_true hpos
        have hd4 : decide ((0 : Int) < (L : Int)) = true := decide_eq_true (by omega)
        clear h1 h2 h3 hb3
        by_cases hneg : r < 0
        · have hd5 : decide (r < 0) = true := decide_eq_true hneg
          go_wp2_with fail
          go_roundg (gk - 1)
          case measure => have := HI.out.1; omega
          case rel => exact ⟨k + 1, y - i, Lib.hid ⟨by have := HI.out.1; omega, HQ.out.1, .inr (by omega)⟩, by omega, by omega, by omega, rfl, by go_num⟩
        · have hd5 : decide (r < 0) = false := decide_eq_false hneg
          by_cases hc : y - i < r
          · have hd6 : decide (y - (i : Int) < r) = true := decide_eq_true hc
            go_wp2_with fail
            go_roundg (gk - 1)
            case measure => have := HI.out.1; omega
            case rel => exact ⟨k + 1, y - i, Lib.hid ⟨by have := HI.out.1; omega, HQ.out.1, .inr (by omega)⟩, by omega, by omega, by omega, rfl, by go_num⟩
          · have hd6 : decide (y - (i : Int) < r) = false := decide_eq_false hc
            go_wp2_with fail
            go_roundg (gk - 1)
            case measure => have := HI.out.1; omega
            case rel => exact ⟨k + 1, r, Lib.hid ⟨by have := HI.out.1; omega, HQ.out.1, HI.out.2.2⟩, by omega, hr0, hr1, rfl, by go_num⟩
    · have hd1 : decide (k < B.length) = false := decide_eq_false hlt
      go_wp2_with fail
      go_ret
      exact ⟨⟨r, rfl, HI.out.2.2⟩, HBW.out⟩

set_option maxRecDepth 100000 in
set_option maxHeartbeats 4000000 in
theorem zzmin_calls (t : T) (hM : AllN MinOk t) (w : World) (S : Nat → Prop) (b : Nat) (hr : RegAt w S b t) :
    Calls Tryd.prog 12 #[ptr b] w (fun e w' => e = .returned (.int .i64 (minL t)) ∧ ∃ n, w' = w.drewN n) := by
  have HC := Lib.hid (min_calls t hM w _ b hr)
  clear hr hM
  go_enter Tryd.func12, Tryd.ntmps12
  go_wp2_with fail
  refine HC.out.mono ?_
  rintro e w3 ⟨rfl, n, rfl⟩
  go_wp2_with fail
  go_ret
  exact ⟨rfl, n, rfl⟩

set_option maxRecDepth 100000 in
set_option maxHeartbeats 4000000 in
theorem trmin_calls (t : T) (hS : Sound 2000 t) (hT : TW t) (hM : AllN MinOk t) (w : World) (cs : List Value) (hK : k25.K w t cs) :
    Calls Tryd.prog 6 #[.agg cs.toArray] w fun e w' => e = .returned (.tuple #[.int .i64 (minL t), .bool true]) ∧ Below w.heap.size w w' := by
  obtain ⟨A2, c2, A7, c7, rfl, l2, g2, l7, g7⟩ := k25_open hK
  have hu40 := Tryd.underlying25
  have HMK : Hid (∀ w', Below w.heap.size w w' → k25.K w' t [.int .i64 t.f0, .int .i64 t.f1, .slice A2 t.f2.length c2, .int .i64 t.f3, .int .i64 t.f4, .int .i64 t.f5, .string t.f6, .slice A7 t.f7.length c7]) :=
    Lib.hid fun w' hb => k25_mk w' t l2 (Kd.C_below g2 hb) l7 (Kd.C_below g7 hb)
  have HTC := Lib.hid (fun w' (hb : Below w.heap.size w w') => tree_calls t hS.alls hT w' _ (HMK.out w' hb) (by have := hS.dep; omega) (by have := hS.cnt; omega) (by have := hS.cop; omega))
  have HM := Lib.hid hM
  clear l2 g2 l7 g7 hK hS hT hM HMK
  go_enter Tryd.func6, Tryd.ntmps6
  go_wp2_with (first | ((with_reducible refine gate_dst (N := 1) rfl ?_); refine box_event ?hg (N := 1) ?hd (cs := #[.int .i64 t.f0, .int .i64 t.f1, .slice A2 t.f2.length c2, .int .i64 t.f3, .int .i64 t.f4, .int .i64 t.f5, .string t.f6, .slice A7 t.f7.length c7]) (t := 25) ?hr ?_; (case hd => rfl); (case hg => rfl); (case hr => first | (go_simp; done) | (go_simp; rfl)); intro gb hg w1 hbox hb; have BK := Lib.hid hbox; have HB1 := Lib.hid hb; clear hg hbox hb; obtain ⟨hz0, hz1, hz2, hz3, hz4, hz5, hz6, hz7⟩ := blk8 BK.out))
  refine (HTC.out w1 HB1.out).mono ?_
  rintro e w2 ⟨b, rfl, hr, hb2⟩
  have HB2 := Lib.hid (below_step HB1.out hb2)
  have HZ := Lib.hid (zzmin_calls t HM.out w2 _ b hr)
  clear hz0 hz1 hz2 hz3 hz4 hz5 hz6 hz7 hr hb2 HTC HM
  go_wp2_with fail
  refine HZ.out.mono ?_
  rintro e w3 ⟨rfl, n, rfl⟩
  go_wp2_with fail
  go_ret2
  exact ⟨rfl, pw_below_drewN HB2.out n⟩
end Go.Proofs.YtofkpinikkfmeaaDoor.TxFnMtLeast
namespace Go.Proofs.YtofkpinikkfmeaaDoor.TrFnMtLeast
open Go.RowKit Go.Proofs.YtofkpinikkfmeaaDoor.PFnMtLeast Go.Proofs.YtofkpinikkfmeaaDoorW.PrintWords Go.Proofs.YtofkpinikkfmeaaDoorW.PrintLast Go.Proofs.YtofkpinikkfmeaaDoorW.PrintMore
abbrev fB (t : T) : Nat → Option Bool := fun k => spec_ReBarren.f k t.f0 t.f1 t.f2 t.f3 t.f4 t.f5 t.f6 t.f7
theorem ev_barrenL (l : List T) (hl : l.length ≤ 4611686018427387000) (ih : ∀ s ∈ l, ∃ b, Ev (fB s) b) : ∀ (n i : Nat), l.length = i + n →
    ∃ b, Ev (fun k => spec_ReBarren.l0 k l (l.length : Int) (i : Int)) b := by
  intro n
  induction n with
  | zero =>
    intro i hi
    refine ⟨false, Ev.succ (Ev.congr (Ev.const _) fun k => ?_)⟩
    simp only [spec_ReBarren.l0]
    rw [if_neg (by omega)]
  | succ n ihn =>
    intro i hi
    have e1 : wrap64 ((i : Int) + 1) = ((i + 1 : Nat) : Int) := Go.Proofs.YtofkpinikkfmeaaDoor.TrFnMtLeast.wrap_nat i 1 (by omega)
    have hlt : i < l.length := by omega
    have q1 : (i : Int) < (l.length : Int) := by omega
    have q2 : (0 : Int) ≤ (i : Int) := by omega
    obtain ⟨b, hb⟩ := ih l[i] (List.getElem_mem hlt)
    obtain ⟨r, hr⟩ := ihn (i + 1) (by omega)
    refine ⟨if b = true then true else r, Ev.succ ?_⟩
    simp only [spec_ReBarren.l0, e1, rd_eq l i hlt, if_pos q1, if_pos q2]
    refine Ev.bind (g := fun k t135 => if t135 = true then (some true) else (spec_ReBarren.l0 k l (l.length : Int) ((i + 1 : Nat) : Int))) hb ?_
    by_cases h : b = true
    · simp only [if_pos h]; exact Ev.const _
    · simp only [if_neg h]; exact hr
theorem ev_barren (t : T) : TW t → ∃ b, Ev (fB t) b := by
  refine tree_ind (p := fun t => TW t → ∃ b, Ev (fB t) b) ?_ t
  intro t ih hT
  by_cases h : t.f0 = 1
  · refine ⟨true, Ev.succ ?_⟩
    simp only [spec_ReBarren.f, if_pos h]
    exact Ev.const _
  · obtain ⟨b, hb⟩ := ev_barrenL t.f7 hT.l7 (fun s hs => ih s hs (hT.sub s hs)) t.f7.length 0 (by omega)
    refine ⟨b, Ev.succ ?_⟩
    simp only [spec_ReBarren.f, if_neg h]
    exact hb

end Go.Proofs.YtofkpinikkfmeaaDoor.TrFnMtLeast
namespace Go.Proofs.YtofkpinikkfmeaaDoor.TxFnMtLeast
open Go.Proofs.YtofkpinikkfmeaaDoor.Sf hiding T
open Go.RowKit Go.Proofs.YtofkpinikkfmeaaDoor.TrFnMtLeast Go.Proofs.YtofkpinikkfmeaaDoor.PFnMtLeast Go.Proofs.YtofkpinikkfmeaaDoorW.PrintWords Go.Proofs.YtofkpinikkfmeaaDoorW.PrintLast Go.Proofs.YtofkpinikkfmeaaDoorW.PrintMore
set_option linter.unusedSimpArgs false
set_option linter.unusedVariables false

/-- What mtFine says. -/
def FineQ (t : T) (s : ByteArray) (e : Ending) : Prop := ∃ b, e = .returned (.bool b) ∧ (b = true → s.size ≤ 1000 ∧ sound t 2000 = true ∧ AllN UsN t)
set_option maxRecDepth 100000 in
set_option maxHeartbeats 4000000 in
theorem fine_calls (t : T) (hT : TW t) (W0 w : World) (cs : List Value) (hK : k25.K W0 t cs) (hW : Below W0.heap.size W0 w) (hF : Folds w) (s : ByteArray) (hs : s.size ≤ 2147483647) :
    Calls Tryd.prog 5 #[.agg cs.toArray, .string s, .int .i64 0] w fun e w' => FineQ t s e ∧ Below w.heap.size w w' := by
  have HU := Lib.hid (fun w' (hb : Below w.heap.size w w') => usual_calls t W0 w' cs hK (hW.trans (hb.mono hW.size)) (hF.below hb))
  obtain ⟨A2, c2, A7, c7, rfl, l2, g2, l7, g7⟩ := k25_open hK
  have hu40 := Tryd.underlying25
  have HG2 := Lib.hid (And.intro l2 g2)
  have HG7 := Lib.hid (And.intro l7 g7)
  have HW := Lib.hid hW
  obtain ⟨ks, hks⟩ := ev_sound t hT 2000
  obtain ⟨bb, kb, hkb⟩ := ev_barren t hT
  have HKS := Lib.hid (hks ks (Nat.le_refl _))
  have HKB := Lib.hid (hkb kb (Nat.le_refl _))
  obtain ⟨sb, hsb⟩ : ∃ sb, sb = sound t 2000 := ⟨_, rfl⟩
  rw [← hsb] at HKS
  have HSB := Lib.hid hsb
  clear hK hT l2 g2 l7 g7 hks hkb hW hF hsb
  by_cases h1 : s.size ≤ 1000
  · have d1 : decide ((s.size : Int) ≤ 1000) = true := decide_eq_true (by omega)
    go_enter Tryd.func5, Tryd.ntmps5
    go_wp2_with (first | ((with_reducible refine gate_dst (N := 3) rfl ?_); refine box_event ?hg (N := 3) ?hd (cs := #[.int .i64 t.f0, .int .i64 t.f1, .slice A2 t.f2.length c2, .int .i64 t.f3, .int .i64 t.f4, .int .i64 t.f5, .string t.f6, .slice A7 t.f7.length c7]) (t := 25) ?hr ?_; (case hd => rfl); (case hg => rfl); (case hr => first | (go_simp; done) | (go_simp; rfl)); intro gb hg w1 hbox hb; have BK := Lib.hid hbox; have HB1 := Lib.hid hb; clear hg hbox hb; obtain ⟨hz0, hz1, hz2, hz3, hz4, hz5, hz6, hz7⟩ := blk8 BK.out))
    refine (spec_ReSound.calls ks t.f0 t.f1 A2 c2 t.f2 t.f3 t.f4 t.f5 t.f6 A7 c7 t.f7 2000 _ _ (Kd.C_below HG2.out.2 (HW.out.trans (HB1.out.mono HW.out.size))) HG2.out.1 (Kd.C_below HG7.out.2 (HW.out.trans (HB1.out.mono HW.out.size))) HG7.out.1 HKS.out).mono ?_
    rintro e w2 ⟨rfl, hb2⟩
    have HB2 := Lib.hid (below_step HB1.out hb2)
    have BK2 := Lib.hid (blk_below BK.out hb2)
    clear hb2 BK hz0 hz1 hz2 hz3 hz4 hz5 hz6 hz7
    obtain ⟨hz0, hz1, hz2, hz3, hz4, hz5, hz6, hz7⟩ := blk8 BK2.out
    cases sb with
    | false =>
      go_wp2_with fail
      go_ret
      exact ⟨⟨false, rfl, fun e => by cases e⟩, HB2.out⟩
    | true =>
      go_wp2_with fail
      refine (HU.out w2 HB2.out).mono ?_
      rintro e w3 ⟨⟨ub, rfl, hub⟩, hb3⟩
      have HUB := Lib.hid hub
      have HB3 := Lib.hid (below_step HB2.out hb3)
      have BK3 := Lib.hid (blk_below BK2.out hb3)
      clear hb3 BK2 hub hz0 hz1 hz2 hz3 hz4 hz5 hz6 hz7
      obtain ⟨hz0, hz1, hz2, hz3, hz4, hz5, hz6, hz7⟩ := blk8 BK3.out
      cases ub with
      | false =>
        go_wp2_with fail
        go_ret
        exact ⟨⟨false, rfl, fun e => by cases e⟩, HB3.out⟩
      | true =>
        go_wp2_with fail
        refine (spec_ReBarren.calls kb t.f0 t.f1 A2 c2 t.f2 t.f3 t.f4 t.f5 t.f6 A7 c7 t.f7 _ _ (Kd.C_below HG2.out.2 (HW.out.trans (HB3.out.mono HW.out.size))) HG2.out.1 (Kd.C_below HG7.out.2 (HW.out.trans (HB3.out.mono HW.out.size))) HG7.out.1 HKB.out).mono ?_
        rintro e w4 ⟨rfl, hb4⟩
        have HB4 := Lib.hid (below_step HB3.out hb4)
        clear hb4 hz0 hz1 hz2 hz3 hz4 hz5 hz6 hz7
        cases bb with
        | false =>
          go_wp2_with fail
          go_ret
          exact ⟨⟨true, rfl, fun _ => ⟨h1, HSB.out.symm, HUB.out (by first | rfl | trivial)⟩⟩, HB4.out⟩
        | true =>
          go_wp2_with fail
          go_ret
          exact ⟨⟨false, rfl, fun e => by cases e⟩, HB4.out⟩
  · have d1 : decide ((s.size : Int) ≤ 1000) = false := decide_eq_false (by omega)
    go_enter Tryd.func5, Tryd.ntmps5
    go_wp2_with (first | ((with_reducible refine gate_dst (N := 3) rfl ?_); refine box_event ?hg (N := 3) ?hd (cs := #[.int .i64 t.f0, .int .i64 t.f1, .slice A2 t.f2.length c2, .int .i64 t.f3, .int .i64 t.f4, .int .i64 t.f5, .string t.f6, .slice A7 t.f7.length c7]) (t := 25) ?hr ?_; (case hd => rfl); (case hg => rfl); (case hr => first | (go_simp; done) | (go_simp; rfl)); intro gb hg w1 hbox hb; have BK := Lib.hid hbox; have HB1 := Lib.hid hb; clear hg hbox hb; obtain ⟨hz0, hz1, hz2, hz3, hz4, hz5, hz6, hz7⟩ := blk8 BK.out))
    go_ret
    exact ⟨⟨false, rfl, fun e => by cases e⟩, HB1.out⟩

theorem fits_some (t : T) : ∃ r, laws_zzFits1.f t.f0 t.f1 t.f2 t.f3 t.f4 t.f5 t.f6 t.f7 = some r := by
  unfold laws_zzFits1.f
  repeat' split
  all_goals exact ⟨_, rfl⟩

set_option maxRecDepth 100000 in
set_option maxHeartbeats 4000000 in
theorem law_calls (t : T) (hT : TW t) (w : World) (cs : List Value) (hK : k25.K w t cs) (hF : Folds w) (hTB : Tabs w) (s : ByteArray) (hs : s.size ≤ 9223372036854775807) :
    Calls Tryd.prog 3 #[.agg cs.toArray, .string s] w fun e w' => e = .returned (.bool true) ∧ Below w.heap.size w w' := by
  obtain ⟨A2, c2, A7, c7, rfl, l2, g2, l7, g7⟩ := k25_open hK
  have hu40 := Tryd.underlying25
  have HG2 := Lib.hid (And.intro l2 g2)
  have HG7 := Lib.hid (And.intro l7 g7)
  have HT := Lib.hid hT
  have HF := Lib.hid (And.intro hF hTB)
  have HK := Lib.hid hK
  have HMK : Hid (∀ w', Below w.heap.size w w' → k25.K w' t [.int .i64 t.f0, .int .i64 t.f1, .slice A2 t.f2.length c2, .int .i64 t.f3, .int .i64 t.f4, .int .i64 t.f5, .string t.f6, .slice A7 t.f7.length c7]) :=
    Lib.hid fun w' hb => k25_mk w' t HG2.out.1 (Kd.C_below HG2.out.2 hb) HG7.out.1 (Kd.C_below HG7.out.2 hb)
  obtain ⟨r1, hr1⟩ := fits_some t
  have HR1 := Lib.hid hr1
  clear hK hT l2 g2 l7 g7 hr1 hF hTB
  go_enter Tryd.func3, Tryd.ntmps3
  go_wp2_with (first | ((with_reducible refine gate_dst (N := 2) rfl ?_); refine box_event ?hg (N := 2) ?hd (cs := #[.int .i64 t.f0, .int .i64 t.f1, .slice A2 t.f2.length c2, .int .i64 t.f3, .int .i64 t.f4, .int .i64 t.f5, .string t.f6, .slice A7 t.f7.length c7]) (t := 25) ?hr ?_; (case hd => rfl); (case hg => rfl); (case hr => first | (go_simp; done) | (go_simp; rfl)); intro gb hg w1 hbox hb; have BK := Lib.hid hbox; have HB1 := Lib.hid hb; clear hg hbox hb; obtain ⟨hz0, hz1, hz2, hz3, hz4, hz5, hz6, hz7⟩ := blk8 BK.out))
  refine (laws_zzFits1.calls t.f0 t.f1 A2 c2 t.f2 t.f3 t.f4 t.f5 t.f6 A7 c7 t.f7 r1 _ (Kd.C_below HG2.out.2 HB1.out) HG2.out.1 (Kd.C_below HG7.out.2 HB1.out) HG7.out.1 HR1.out).mono ?_
  rintro e w2 ⟨rfl, hb2⟩
  have BK2 := Lib.hid (blk_below BK.out hb2)
  have HB2 := Lib.hid (below_step HB1.out hb2)
  clear hb2 BK HB1 hz0 hz1 hz2 hz3 hz4 hz5 hz6 hz7
  obtain ⟨hz0, hz1, hz2, hz3, hz4, hz5, hz6, hz7⟩ := blk8 BK2.out
  cases r1
  · go_wp2_with fail
    go_ret
    exact ⟨rfl, HB2.out⟩
  · by_cases hbig : s.size ≤ 2147483647
    · have d1 : decide ((s.size : Int) > 2147483647) = false := decide_eq_false (by omega)
      have HFC := Lib.hid (fine_calls t HT.out w w2 _ HK.out HB2.out (HF.out.1.below HB2.out) s hbig)
      go_wp2_with fail
      refine HFC.out.mono ?_
      rintro e w3 ⟨⟨fb, rfl, hfb⟩, hb3⟩
      have BK3 := Lib.hid (blk_below BK2.out hb3)
      have HB3 := Lib.hid (below_step HB2.out hb3)
      have HFB := Lib.hid hfb
      clear hb3 BK2 HB2 hfb HFC hz0 hz1 hz2 hz3 hz4 hz5 hz6 hz7
      obtain ⟨hz0, hz1, hz2, hz3, hz4, hz5, hz6, hz7⟩ := blk8 BK3.out
      cases fb with
      | false =>
        go_wp2_with fail
        go_ret
        exact ⟨rfl, HB3.out⟩
      | true =>
        have HX := Lib.hid (HFB.out (by first | rfl | trivial))
        have HS := Lib.hid (sound_says t HT.out 2000 (by omega) HX.out.2.1)
        have HSZ := Lib.hid (show siz t 2000 ≤ 2000 by
          have h := HX.out.2.1
          unfold sound at h
          split at h
          · split at h
            · exact of_decide_eq_true h
            · cases h
          · cases h)
        have HN := Lib.hid (fine_says t HT.out HS.out.node HX.out.2.2 HSZ.out)
        have HTM := Lib.hid (trmin_calls t HS.out HT.out HN.out.1 w3 _ (HMK.out w3 HB3.out))
        go_wp2_with fail
        refine HTM.out.mono ?_
        rintro e w4 ⟨rfl, hb4⟩
        have BK4 := Lib.hid (blk_below BK3.out hb4)
        have HB4 := Lib.hid (below_step HB3.out hb4)
        clear hb4 BK3 HB3 HTM hz0 hz1 hz2 hz3 hz4 hz5 hz6 hz7
        obtain ⟨hz0, hz1, hz2, hz3, hz4, hz5, hz6, hz7⟩ := blk8 BK4.out
        have HSC := Lib.hid (shortest_calls t w w4 _ HK.out HB4.out (HF.out.1.below HB4.out) (Utf8Tabs_below HF.out.2 HB4.out) HN.out.2.1 (by have := HN.out.2.2.2; have := HSZ.out; omega) s (by have := HX.out.1; omega))
        have hm0 := HN.out.2.2.1
        generalize minL t = M at *
        go_wp2_with fail
        refine HSC.out.mono ?_
        rintro e w5 ⟨⟨r, rfl, hr⟩, hb5⟩
        have HB5 := Lib.hid (below_step HB4.out hb5)
        clear hb5 HSC hz0 hz1 hz2 hz3 hz4 hz5 hz6 hz7
        have e0 : decide (M ≥ 0) = true := decide_eq_true hm0
        by_cases hneg : r < 0
        · have e1 : decide (r < 0) = true := decide_eq_true hneg
          clear hr
          go_wp2_with fail
          go_ret
          exact ⟨rfl, HB5.out⟩
        · have e1 : decide (r < 0) = false := decide_eq_false hneg
          have h2 : M ≤ r := by rcases hr with h | h <;> omega
          have e2 : decide (r ≥ M) = true := decide_eq_true h2
          clear hr
          go_wp2_with fail
          go_ret
          exact ⟨rfl, HB5.out⟩
    · have d1 : decide ((s.size : Int) > 2147483647) = true := decide_eq_true (by omega)
      go_wp2_with fail
      go_ret
      exact ⟨rfl, HB2.out⟩
end Go.Proofs.YtofkpinikkfmeaaDoor.TxFnMtLeast
