/- Each place of a set by one step (reEach): the walk. -/
import Derived.Test.YtofkpinikkfmeaaDoorGeFnMtLeast
namespace Go.Proofs.YtofkpinikkfmeaaDoor.TxFnMtLeast
open Go.Proofs.YtofkpinikkfmeaaDoor.Sf hiding T
open Go.RowKit Go.Proofs.YtofkpinikkfmeaaDoor.TrFnMtLeast Go.Proofs.YtofkpinikkfmeaaDoor.PFnMtLeast Go.Proofs.YtofkpinikkfmeaaDoorW.PrintWords Go.Proofs.YtofkpinikkfmeaaDoorW.PrintLast Go.Proofs.YtofkpinikkfmeaaDoorW.PrintMore
set_option linter.unusedSimpArgs false
set_option linter.unusedVariables false

theorem kb_cell {W0 w : World} {A : Option Addr} {l : List Bool} (h : Kd.C Kd.bool W0 A l.length l) (hb : Below W0.heap.size W0 w) (j : Nat) (hj : j < l.length) : ∃ ad, A = some ad ∧ w.cell? (ad.add j) = some (.bool l[j]) := by
  obtain ⟨_, _, h3⟩ := h
  obtain ⟨ad, hA, hc⟩ := h3 (by omega)
  obtain ⟨cs, _, hK, hcell⟩ := hc j l[j] (List.getElem?_eq_getElem hj)
  have := hcell 0 (.bool l[j]) (by rw [show cs = [.bool l[j]] from hK]; rfl)
  have h1 : Kd.bool.sz = 1 := rfl
  rw [h1, Nat.mul_one, Nat.add_zero] at this
  exact ⟨ad, hA, (hb.cell (World.block_lt_of_cell? W0 _ this)).trans this⟩

theorem Lo.set {m : Int} {l out : List Bool} {k n : Nat} (h : Lo m l out) (hk : l[k]? = some true) (hn : (k : Int) + m ≤ n) : Lo m l (out.set n true) := fun j hj => by
  by_cases e : n = j
  · subst e
    exact ⟨k, hk, hn⟩
  · rw [List.getElem?_set_ne e] at hj
    exact h j hj

set_option maxRecDepth 100000 in
set_option maxHeartbeats 4000000 in
theorem each_calls (t : T) (W0 w : World) (cs : List Value) (hK : k25.K W0 t cs) (hW : Below W0.heap.size W0 w) (hF : Folds w) (hT : Tabs w) (s : ByteArray) (hs : s.size ≤ 100000) (hU : t.f0 = 3 → ∀ c ∈ t.f2, UC (fol t) c) (hl : t.f2.length ≤ 4611686018427387000) (hn : ¬ (t.f0 = 13 ∨ t.f0 = 15 ∨ t.f0 = 17 ∨ t.f0 = 18 ∨ t.f0 = 19))
    (A : Option Addr) (c : Nat) (l : List Bool) (hC : Kd.C Kd.bool w A l.length l) (hc : l.length ≤ c) (hlen : l.length = s.size + 1) :
    Calls Tryd.prog 36 #[.agg cs.toArray, .string s, .slice A l.length c] w fun e w' => (∃ (v : Value) (r : List Bool), e = .returned v ∧ Kd.R Kd.bool 4 w' w.heap.size (fun _ => True) v r ∧ r.length = l.length ∧ Lo (minL t) l r) ∧ Below w.heap.size w w' := by
  have HS := Lib.hid (fun w' (hb : Below w.heap.size w w') (i : Nat) (hi : i ≤ s.size) => step_calls t W0 w' _ hK (hW.trans (hb.mono hW.size)) (hF.below hb) (Utf8Tabs_below hT hb) s hs i hi hU hl hn)
  obtain ⟨A2, c2, A7, c7, rfl, l2, g2, l7, g7⟩ := k25_open hK
  have hu40 := Tryd.underlying25
  have HC := Lib.hid hC
  have HL := Lib.hid hlen
  have hl0 : 0 < l.length := by omega
  have hl1 : l.length ≤ 100001 := by omega
  clear hlen l2 g2 l7 g7 hW hK hT hF hU hC hn
  go_enter Tryd.func36, Tryd.ntmps36
  go_wp2_with (first
    | ((with_reducible refine gate_dst (N := 3) rfl ?_); refine box_event ?hg (N := 3) ?hd (cs := #[.int .i64 t.f0, .int .i64 t.f1, .slice A2 t.f2.length c2, .int .i64 t.f3, .int .i64 t.f4, .int .i64 t.f5, .string t.f6, .slice A7 t.f7.length c7]) (t := 25) ?hr ?_; (case hd => rfl); (case hg => rfl); (case hr => first | (go_simp; done) | (go_simp; rfl)); intro gb hg w1 hbox hb; have BK := Lib.hid hbox; have HB1 := Lib.hid hb; have GE : w.heap.size ≤ gb := (by omega); have lgb := blk_lt hbox; clear hg hbox hb)
    | ((with_reducible refine gate_dst (N := 13) rfl ?_); refine Kd.R_make Kd.bool w.heap.size 4 rfl (N := 13) rfl 47 _ _ rfl (l.length : Int) rfl rfl Tryd.underlying47 (.bool false) 1 info4 rfl (by decide) (by omega) false (ok := fun _ => True) (okp := fun _ => True) rfl (fun _ hk => hk) trivial (by omega) (by omega) HB1.out HB1.out.size ?_; intro v w2 ho hb hgr hnew))
  obtain ⟨g, cap, rfl, hge, hglt, _⟩ := Kd.R_form ho (by simp; omega)
  obtain ⟨b, hb1, hb2⟩ := hnew
  have hgb : gb < g := by
    simp only [Value.ownBlock, Option.some.injEq] at hb1
    omega
  have BK2 := Lib.hid (show w2.heap[gb]? = _ from (hgr.block gb lgb (by simp)).trans BK.out)
  have HO := Lib.hid ho
  have HB2 := Lib.hid hb
  clear ho hb hgr hb1 hb2 hglt BK lgb
  have HLR : (List.replicate (l.length : Int).toNat false).length = l.length := by simp
  rw [HLR]
  go_loopg [16] l.length (fun gk s16 wr => ∃ (k : Nat) (out : List Bool), k ≤ l.length ∧ s16 = .int .i64 k ∧ Hid (gk + k = l.length ∧ out.length = l.length ∧ Lo (minL t) l out ∧ Kd.R Kd.bool 4 wr w.heap.size (fun _ => True) (.slice (some ⟨g, 0, none⟩) l.length cap) out ∧ Below w.heap.size w wr ∧ wr.heap[gb]? = some (.cells #[.int .i64 t.f0, .int .i64 t.f1, .slice A2 t.f2.length c2, .int .i64 t.f3, .int .i64 t.f4, .int .i64 t.f5, .string t.f6, .slice A7 t.f7.length c7] 25 (0, 0))))
  case atStart => exact ⟨0, _, Nat.zero_le _, rfl, Lib.hid ⟨by omega, HLR, Lo.none _ _ _ (fun k h => by rw [List.getElem?_replicate] at h; split at h <;> simp at h), by have := HO.out; rw [HLR] at this; exact this, HB2.out, BK2.out⟩⟩
  case round =>
    clear BK2 HO HB2
    obtain ⟨k, out, hk, rfl, HI⟩ := hrel
    by_cases hlt : k < l.length
    · have hd1 : decide (k < l.length) = true := decide_eq_true hlt
      obtain ⟨ad, hA, hcell⟩ := kb_cell HC.out HI.out.2.2.2.2.1 k hlt
      subst hA
      have HN := Lib.hid (List.getElem?_eq_getElem hlt)
      obtain ⟨x, hx⟩ : ∃ x, x = l[k] := ⟨_, rfl⟩
      rw [← hx] at hcell HN
      clear hx
      have HST := Lib.hid (HS.out wr HI.out.2.2.2.2.1 k (by have := HL.out; omega))
      obtain ⟨hz0, hz1, hz2, hz3, hz4, hz5, hz6, hz7⟩ := blk8 HI.out.2.2.2.2.2
      have lgb := blk_lt HI.out.2.2.2.2.2
      cases x with
      | false =>
        go_wp2_with fail
        go_roundg (gk - 1)
        case measure => have := HI.out.1; omega
        case rel => exact ⟨k + 1, out, by omega, by go_num, Lib.hid ⟨by have := HI.out.1; omega, HI.out.2⟩⟩
      | true =>
        go_wp2_with fail
        refine HST.out.mono ?_
        rintro e w3 ⟨⟨q, rfl, hq⟩, hb3⟩
        have HI3 : Hid (gk + k = l.length ∧ out.length = l.length ∧ Lo (minL t) l out ∧ Kd.R Kd.bool 4 w3 w.heap.size (fun _ => True) (.slice (some ⟨g, 0, none⟩) l.length cap) out ∧ Below w.heap.size w w3 ∧ w3.heap[gb]? = some (.cells #[.int .i64 t.f0, .int .i64 t.f1, .slice A2 t.f2.length c2, .int .i64 t.f3, .int .i64 t.f4, .int .i64 t.f5, .string t.f6, .slice A7 t.f7.length c7] 25 (0, 0))) := Lib.hid ⟨HI.out.1, HI.out.2.1, HI.out.2.2.1, Kd.R_below HI.out.2.2.2.1 hb3, below_step HI.out.2.2.2.2.1 hb3, blk_below HI.out.2.2.2.2.2 hb3⟩
        clear HI hz0 hz1 hz2 hz3 hz4 hz5 hz6 hz7 hcell HST hb3
        rcases hq with rfl | ⟨n, rfl, hn1, hn2⟩
        · go_wp2_with fail
          go_roundg (gk - 1)
          case measure => have := HI3.out.1; omega
          case rel => exact ⟨k + 1, out, by omega, by go_num, Lib.hid ⟨by have := HI3.out.1; omega, HI3.out.2⟩⟩
        · have HLO := Lib.hid (Lo.set HI3.out.2.2.1 HN.out hn2)
          have hnl : n < l.length := by have := HL.out; omega
          have e0 : decide ((n : Int) ≥ 0) = true := decide_eq_true (by omega)
          have hq1 : (n : Int) < (l.length : Int) := by omega
          have hq0 : 0 ≤ (n : Int) := by omega
          obtain ⟨hy, hz⟩ := Kd.R_celln false HI3.out.2.2.2.1 (n : Int) hq0 hq1
          have HP := Kd.R_putg HI3.out.2.2.2.1 (n : Int) true
          rw [Int.toNat_natCast] at hy hz HP
          have HPH := Lib.hid HP
          have HLT := Lib.hid hlt
          clear hn2 HP hlt
          go_wp2_with (first
            | ((with_reducible refine gate_store (t := 4) (p := 30) rfl ?_); refine store_event (t := 4) (p := 30) (v := .bool true) (w1 := (w3.setCell ⟨g, n, none⟩ (.bool true))) ?hg ?ho ?hn ?hr ?_; (case ho => rfl); (case hg => rfl); (case hn => rfl); (case hr => first | (go_simp; done) | (go_simp; rfl)); intro w4 hw; subst hw))
          go_roundg (gk - 1)
          case measure => have := HI3.out.1; have := HLT.out; omega
          case rel => exact ⟨k + 1, out.set n true, by have := HN.out; have h := List.getElem?_eq_some_iff.1 this; obtain ⟨h, _⟩ := h; omega, by go_num, Lib.hid ⟨by have := HI3.out.1; have h := List.getElem?_eq_some_iff.1 HN.out; obtain ⟨h, _⟩ := h; omega, by rw [List.length_set]; exact HI3.out.2.1, HLO.out, HPH.out.1, below_set HI3.out.2.2.2.2.1 hge, by rw [Below.heap_setCell _ _ _ _ (by simp; omega)]; exact HI3.out.2.2.2.2.2⟩⟩
    · have hd1 : decide (k < l.length) = false := decide_eq_false hlt
      go_wp2_with fail
      go_ret
      exact ⟨⟨_, out, rfl, HI.out.2.2.2.1, HI.out.2.1, HI.out.2.2.1⟩, HI.out.2.2.2.2.1⟩
end Go.Proofs.YtofkpinikkfmeaaDoor.TxFnMtLeast
