import Derived.Test.YteoljppcafakpaaDoorTbFnPgSpan
namespace Go.Proofs.YteoljppcafakpaaDoor.PgFnPgSpan
open Go.RowKit Go.Proofs.YteoljppcafakpaaDoor.EvN Go.Proofs.YteoljppcafakpaaDoor.Row Go.Proofs.YteoljppcafakpaaDoor.Sf Go.Proofs.YteoljppcafakpaaDoor.PFnPgSpan Go.Proofs.YteoljppcafakpaaDoorW.PrintWords Go.Proofs.YteoljppcafakpaaDoorW.PrintLast Go.Proofs.YteoljppcafakpaaDoorW.PrintMore
set_option linter.unusedSimpArgs false
set_option linter.unusedVariables false
theorem hasM_take (L : List I) (D : List Nat) (k : Nat) (h : k < D.length) : hasM L (D.take (k + 1)) = (hasM L (D.take k) || ((ins L D[k]).f0 == 4)) := by
  unfold hasM
  rw [List.take_succ_eq_append_getElem h, List.any_append]; simp
theorem nextP_take (L : List I) (c : Int) (D : List Nat) (k : Nat) (h : k < D.length) : nextP L c (D.take (k + 1)) = nextP L c (D.take k) ++ (if goes L c D[k] = true then [(ins L D[k]).f1.toNat] else []) := by
  unfold nextP
  rw [List.take_succ_eq_append_getElem h, List.filter_append, List.map_append]
  by_cases g : goes L c D[k] = true
  · rw [if_pos g]; simp [g]
  · rw [if_neg g]; simp [g]
def outK (L : List I) (outs : List Nat) (j : Nat) (D : List Nat) : List Nat := outs ++ (if hasM L D = true then [j] else [])
def nextK (L : List I) (c : Int) (kk : Nat) (D : List Nat) : List Nat := if kk = 0 then [] else nextP L c D
theorem nextP_lt {L : List I} (hl : Leads L) (c : Int) {D : List Nat} (hD : ∀ x ∈ D, x < L.length) : ∀ x ∈ nextP L c D, x < L.length := by
  intro x hx
  unfold nextP at hx
  obtain ⟨pc, h1, rfl⟩ := List.mem_map.1 hx
  obtain ⟨h2, h3⟩ := List.mem_filter.1 h1
  unfold goes at h3
  simp only [Bool.and_eq_true, Bool.not_eq_true', beq_eq_false_iff_ne] at h3
  have hw := h3.1.2
  unfold waitsB at hw
  simp only [Bool.not_eq_true', Bool.or_eq_false_iff, decide_eq_false_iff_not] at hw
  have := hl.out pc (hD pc h2) (by omega)
  omega
theorem nextK_lt {L : List I} (hl : Leads L) (c : Int) (kk : Nat) {D : List Nat} (hD : ∀ x ∈ D, x < L.length) : ∀ x ∈ nextK L c kk D, x < L.length := by
  unfold nextK
  by_cases h : kk = 0
  · rw [if_pos h]; intro x hx; cases hx
  · rw [if_neg h]; exact nextP_lt hl c hD
theorem nextP_len (L : List I) (c : Int) (D : List Nat) : (nextP L c D).length ≤ D.length := by
  unfold nextP
  rw [List.length_map]; exact List.length_filter_le _ _
theorem nextK_len (L : List I) (c : Int) (kk : Nat) (D : List Nat) : (nextK L c kk D).length ≤ D.length := by
  unfold nextK
  split
  · simp
  · exact nextP_len L c D
theorem own_below {a b : World} {B n : Nat} {e : TypeId} {v : Value} {xs : List Value} (h : a.ownsRow B e 1 v n xs) (hb : Below a.heap.size a b) : b.ownsRow B e 1 v n xs :=
  h.kept (Row.grown_of_below hb none) (by cases v.ownBlock <;> simp)
theorem outK_hit {L : List I} {outs : List Nat} {j : Nat} {D : List Nat} (k : Nat) (h : k < D.length) (h4 : (ins L D[k]).f0 = 4) : outK L outs j (D.take (k + 1)) = outs ++ [j] := by
  unfold outK
  rw [hasM_take L D k h, h4]; simp
theorem outK_miss {L : List I} {outs : List Nat} {j : Nat} {D : List Nat} (k : Nat) (h : k < D.length) (h4 : (ins L D[k]).f0 ≠ 4) : outK L outs j (D.take (k + 1)) = outK L outs j (D.take k) := by
  unfold outK
  have e : ((ins L D[k]).f0 == 4) = false := by rw [beq_eq_false_iff_ne]; exact h4
  rw [hasM_take L D k h, e, Bool.or_false]
theorem nextK_miss {L : List I} {ch : Int} {kk : Nat} {D : List Nat} (k : Nat) (h : k < D.length) (hg : kk = 0 ∨ goes L ch D[k] = false) : nextK L ch kk (D.take (k + 1)) = nextK L ch kk (D.take k) := by
  unfold nextK
  by_cases h0 : kk = 0
  · rw [if_pos h0, if_pos h0]
  · rw [if_neg h0, if_neg h0, nextP_take L ch D k h]
    rcases hg with hg | hg
    · exact absurd hg h0
    · rw [hg]; simp
theorem nextK_hit {L : List I} {ch : Int} {kk : Nat} {D : List Nat} (k : Nat) (h : k < D.length) (h0 : kk ≠ 0) (hg : goes L ch D[k] = true) : nextK L ch kk (D.take (k + 1)) = nextK L ch kk (D.take k) ++ [(ins L D[k]).f1.toNat] := by
  unfold nextK
  rw [if_neg h0, if_neg h0, nextP_take L ch D k h, if_pos hg]
abbrev iv (l : List Nat) : List Value := l.map fun x : Nat => Value.int .i64 (x : Int)
structure Inn (L : List I) (outs : List Nat) (j : Nat) (ch : Int) (kk : Nat) (D : List Nat) (w1 w2 w3 : World) (k : Nat) (wr : World) (v7 v8 : Value) : Prop where
  bl : Below w1.heap.size w1 wr
  fr : ∀ b, w2.heap.size ≤ b → b < w3.heap.size → wr.heap[b]? = w3.heap[b]?
  sz : w3.heap.size ≤ wr.heap.size
  oo : wr.ownsRow w1.heap.size 3 1 v7 (outK L outs j (D.take k)).length (iv (outK L outs j (D.take k)))
  np : wr.ownsRow w3.heap.size 3 1 v8 (nextK L ch kk (D.take k)).length (iv (nextK L ch kk (D.take k)))
  ob : ∀ b, v7.ownBlock = some b → b < w2.heap.size ∨ w3.heap.size ≤ b
  ap : v7.ownBlock = none ∨ v7.ownBlock ≠ v8.ownBlock
section
variable {L : List I} {outs : List Nat} {j : Nat} {ch : Int} {kk : Nat} {D : List Nat} {w1 w2 w3 wr W W' : World} {k : Nat} {v7 v8 : Value}
theorem Inn.below (h : Inn L outs j ch kk D w1 w2 w3 k wr v7 v8) (hb : Below wr.heap.size wr W) : Inn L outs j ch kk D w1 w2 w3 k W v7 v8 :=
  ⟨below_step h.bl hb, fun b h1 h2 => (hb.block b (by have := h.sz; omega)).trans (h.fr b h1 h2), Nat.le_trans h.sz hb.size, own_below h.oo hb, own_below h.np hb, h.ob, h.ap⟩
theorem Inn.skip (h : Inn L outs j ch kk D w1 w2 w3 k wr v7 v8) (e1 : outK L outs j (D.take (k + 1)) = outK L outs j (D.take k)) (e2 : nextK L ch kk (D.take (k + 1)) = nextK L ch kk (D.take k)) : Inn L outs j ch kk D w1 w2 w3 (k + 1) wr v7 v8 :=
  ⟨h.bl, h.fr, h.sz, by rw [e1]; exact h.oo, by rw [e2]; exact h.np, h.ob, h.ap⟩
theorem Inn.addO {gn cap : Nat} (h : Inn L outs j ch kk D w1 w2 w3 k W v7 v8) (e1 : outK L outs j (D.take (k + 1)) = outK L outs j (D.take k) ++ [j]) (e2 : nextK L ch kk (D.take (k + 1)) = nextK L ch kk (D.take k))
    (hown : W'.ownsRow w1.heap.size 3 1 (.slice (some ⟨gn, 0, none⟩) ((outK L outs j (D.take k)).length + 1) cap) ((outK L outs j (D.take k)).length + 1) (iv (outK L outs j (D.take k)) ++ [.int .i64 (j : Int)])) (hbel : Below w1.heap.size w1 W') (hg : W.grownBy W' v7.ownBlock) (hat : (v7.ownBlock = some gn ∨ gn = W.heap.size) ∧ gn < W'.heap.size) :
    Inn L outs j ch kk D w1 w2 w3 (k + 1) W' (.slice (some ⟨gn, 0, none⟩) ((outK L outs j (D.take k)).length + 1) cap) v8 := by
  refine ⟨hbel, fun b h1 h2 => ?_, Nat.le_trans h.sz hg.size, ?_, ?_, fun b hb => ?_, .inr fun e => ?_⟩
  · refine (hg.block b (by have := h.sz; omega) (fun e => ?_)).trans (h.fr b h1 h2)
    rcases h.ob b e.symm with c | c <;> omega
  · rw [e1]
    have : iv (outK L outs j (D.take k) ++ [j]) = iv (outK L outs j (D.take k)) ++ [.int .i64 (j : Int)] := by simp [iv]
    rw [this, List.length_append]
    exact hown
  · rw [e2]
    refine h.np.kept hg ?_
    cases h8 : v8.ownBlock with
    | none => exact .inl rfl
    | some b =>
      right
      rcases h.ap with c | c
      · rw [c]; simp
      · rw [← h8]; exact fun e => c e.symm
  · have hb2 : gn = b := by simpa [Value.ownBlock] using hb
    subst hb2
    rcases hat.1 with c | c
    · exact h.ob gn c
    · right; have := h.sz; omega
  · have e' : v8.ownBlock = some gn := by rw [← e]; rfl
    have l8 := (h.np.lt gn e').2
    rcases hat.1 with c | c
    · rcases h.ap with d | d
      · rw [d] at c; cases c
      · exact d (c.trans e'.symm)
    · omega
theorem Inn.addN {gn cap : Nat} {f : Int} (h : Inn L outs j ch kk D w1 w2 w3 k W v7 v8) (x : Nat) (hf : f = (x : Int)) (e1 : outK L outs j (D.take (k + 1)) = outK L outs j (D.take k)) (e2 : nextK L ch kk (D.take (k + 1)) = nextK L ch kk (D.take k) ++ [x])
    (hown : W'.ownsRow w3.heap.size 3 1 (.slice (some ⟨gn, 0, none⟩) ((nextK L ch kk (D.take k)).length + 1) cap) ((nextK L ch kk (D.take k)).length + 1) (iv (nextK L ch kk (D.take k)) ++ [.int .i64 f])) (hbel : Below w1.heap.size w1 W') (hg : W.grownBy W' v8.ownBlock) (hat : (v8.ownBlock = some gn ∨ gn = W.heap.size) ∧ gn < W'.heap.size) :
    Inn L outs j ch kk D w1 w2 w3 (k + 1) W' v7 (.slice (some ⟨gn, 0, none⟩) ((nextK L ch kk (D.take k)).length + 1) cap) := by
  refine ⟨hbel, fun b h1 h2 => ?_, Nat.le_trans h.sz hg.size, ?_, ?_, h.ob, ?_⟩
  · refine (hg.block b (by have := h.sz; omega) (fun e => ?_)).trans (h.fr b h1 h2)
    have := (h.np.lt b e.symm).1; omega
  · rw [e1]
    exact h.oo.kept hg h.ap
  · rw [e2]
    have : iv (nextK L ch kk (D.take k) ++ [x]) = iv (nextK L ch kk (D.take k)) ++ [.int .i64 f] := by simp [iv, hf]
    rw [this, List.length_append]
    exact hown
  · cases h7 : v7.ownBlock with
    | none => exact .inl rfl
    | some b =>
      right
      intro e
      have e' : b = gn := by simpa [Value.ownBlock] using e
      subst e'
      have l7 := (h.oo.lt b h7).2
      rcases hat.1 with c | c
      · rcases h.ap with d | d
        · rw [d] at h7; cases h7
        · exact d (h7.trans c.symm)
      · omega
end
set_option maxRecDepth 100000 in
set_option maxHeartbeats 8000000 in
theorem ends_calls {L : List I} {st nc most : Int} (h : PSound L st nc most) (hm : L.length ≤ 2000) (hr : ∀ i ∈ L, i.f3.length ≤ 4611686018427387000) (hop : ∀ pc, pc < L.length → 0 ≤ (ins L pc).f0 ∧ (ins L pc).f0 ≤ 10 ∧ (ins L pc).f0 ≠ 1) (W0 w : World) (A : Option Addr) (c : Nat) (hK : Kd.C k29 W0 A L.length L) (hW : Below W0.heap.size W0 w)
    (s : ByteArray) (hs : s.size ≤ 100000) (i : Nat) (hi : i ≤ s.size) (hT : Tabs W0) (hF : Folds W0) :
    Calls Tryd.prog 11 #[.agg #[.slice A L.length c, .int .i64 st, .int .i64 nc], .string s, .int .i64 (i : Int)] w fun e w' => ∃ lv, e = .returned lv ∧
      RowAt w' (fun b => w.heap.size ≤ b ∧ b < w'.heap.size) 3 lv (iv (endsF L s (s.size + 2 - i) [st.toNat] (lastR s i) i)) ∧ Below w.heap.size w w' := by
  have hu60 := Tryd.underlying29
  have hu24 := Tryd.underlying24
  obtain ⟨t, ht⟩ : ∃ t : Nat, st = (t : Int) := ⟨st.toNat, by have := h.st0; omega⟩
  subst ht
  have ht1 : t < L.length := by have := h.st1; omega
  have HS := Lib.hid h
  have HR := Lib.hid hr
  have HOP := Lib.hid hop
  have HKw := Lib.hid (Kd.C_below hK hW)
  have HTw := Lib.hid (Utf8Tabs_below hT hW)
  have HFw := Lib.hid (hF.below hW)
  have hpos := h.pos
  clear h hr hop hK hW hT hF
  rw [Int.toNat_natCast]
  obtain ⟨fu, hfu⟩ : ∃ fu, fu = s.size + 2 - i := ⟨_, rfl⟩
  rw [← hfu]
  obtain ⟨En, hEn⟩ : ∃ En, En = endsF L s fu [t] (lastR s i) i := ⟨_, rfl⟩
  rw [← hEn]
  have HEn := Lib.hid hEn
  have HFu := Lib.hid hfu
  clear hEn hfu
  go_enter Tryd.func11, Tryd.ntmps11
  go_wp2_with (first | ((with_reducible refine gate_dst (N := 3) rfl ?_); refine box_event ?hg (N := 3) ?hd (cs := #[.slice A L.length c, .int .i64 (t : Int), .int .i64 nc]) (t := 24) ?hr ?_; (case hd => rfl); (case hg => rfl); (case hr => first | (go_simp; done) | (go_simp; rfl)); intro gb hg w1 hbox hb; have BK := Lib.hid hbox; have HB1 := Lib.hid hb; have GB : w.heap.size ≤ gb := (by omega); clear hg hbox hb; obtain ⟨hz0, hz1, hz2⟩ := blk3 BK.out))
  have lb := blk_lt BK.out
  have HTA := Lib.hid (show ∀ w', Below w1.heap.size w1 w' → Tabs w' from fun w' hb => Utf8Tabs_below HTw.out (below_step HB1.out hb))
  go_upto_region 2 with (fail)
  go_cut [8, 9] (fun v8 v9 wc => ∃ g : Nat, v8 = .slice (some ⟨g, 0, none⟩) 1 1 ∧ v9 = .int .i32 (lastR s i) ∧ Hid (wc.heap[g]? = some (.cells #[.int .i64 (t : Int)] 3 (0, 0)) ∧ Below w1.heap.size w1 wc))
  case first =>
    go_region_held3 (fun w' => w'.cell? ⟨gb, 1, none⟩ = some (.int .i64 (t : Int)))
      (first
        | go_keep
        | ((rw [hd.cell (by simp; omega)]); assumption))
      ((go_at_call 25; refine (last_calls s i _ hi (by omega) (HTA.out _ (by first | exact below_drew (Below.refl _ w1) | exact below_drew (below_alloc (Below.refl _ w1) _) | exact below_alloc (below_drew (Below.refl _ w1)) _))).mono ?_; rintro e w2 ⟨rfl, hd⟩))
    · go_wp2_with fail
      go_meet
      first
        | exact ⟨_, rfl, rfl, Lib.hid ⟨blk_below (heap_alloc_new _ _) hd, below_step (below_alloc (below_drew (Below.refl _ w1)) _) hd⟩⟩
        | exact ⟨_, rfl, rfl, Lib.hid ⟨blk_below (blk_drew (heap_alloc_new _ _)) hd, below_step (below_drew (below_alloc (Below.refl _ w1) _)) hd⟩⟩
    · go_wp2_with fail
      go_meet
      exact ⟨_, rfl, rfl, Lib.hid ⟨heap_alloc_new w2 _, below_alloc (below_step (below_drew (Below.refl _ w1)) hd) _⟩⟩
  case rest =>
    obtain ⟨g0, rfl, rfl, HQ⟩ := hcut
    clear hz0 hz1 hz2
    have hw1 : w.heap.size ≤ w1.heap.size := HB1.out.size
    go_wp2_with fail
    go_loopg [2, 7, 8, 9] fu (fun gk s2 s7 s8 s9 wr => ∃ (j : Nat) (outs pcs : List Nat) (last : Int) (Ap : Option Addr) (cp : Nat), Hid (Below w1.heap.size w1 wr ∧ wr.ownsRow w1.heap.size 3 1 s7 outs.length (iv outs) ∧ Kd.C (Kd.int .i64) wr Ap pcs.length (pcs.map fun x : Nat => (x : Int)) ∧
      En = outs ++ endsF L s gk pcs last j ∧ (∀ x ∈ pcs, x < L.length) ∧ (pcs = [] ∨ ((∀ x ∈ outs, x < j) ∧ s.size + 1 - j < gk ∧ outs.length ≤ j))) ∧ j ≤ s.size ∧ s2 = .int .i64 j ∧ s8 = .slice Ap pcs.length cp ∧ s9 = .int .i32 last)
    case atStart =>
      refine ⟨i, [], [t], lastR s i, some ⟨g0, 0, none⟩, 1, ⟨HQ.out.2, World.ownsRow_nil _ _ _ _, ?_, HEn.out, fun x hx => by simp at hx; omega, .inr ⟨fun x hx => by (cases hx), by have := HFu.out; omega, by simp⟩⟩, hi, rfl, rfl, rfl⟩
      obtain ⟨A0, c0, e0, _, k0⟩ := rowAt_kd (enc := Value.int .i64) (h1 := fun _ => rfl) (l := [(t : Int)]) (S := fun _ => True) (.inr ⟨g0, 1, _, rfl, trivial, HQ.out.1, by simp, by unfold maxLen; simp, by simp, by simp⟩)
      cases e0
      exact k0
    case round =>
      obtain ⟨j, outs, pcs, last, Ap, cp, HI, hj, rfl, rfl, rfl⟩ := hrel
      obtain ⟨og, rfl⟩ : ∃ og, og = gk := ⟨gk, rfl⟩
      obtain ⟨wq, rfl⟩ : ∃ wq, wq = wr := ⟨wr, rfl⟩
      obtain ⟨v7, rfl⟩ : ∃ v7, v7 = u7 := ⟨u7, rfl⟩
      by_cases hne : pcs = []
      · subst hne
        go_wp2_with fail
        go_ret
        obtain ⟨i1, i2, _, i4, _⟩ := HI.out
        rw [endsF_nil, List.append_nil] at i4
        rw [i4]
        exact ⟨_, rfl, RowAt.of_owns i2 (fun g hg => by have := i2.lt g hg; omega), below_step HB1.out i1⟩
      · have hpl : 0 < pcs.length := List.length_pos_iff.2 hne
        have hd0 : decide (0 < pcs.length) = true := decide_eq_true hpl
        go_wp2_with fail
        refine (next_calls s j wq hj (by omega) (HTA.out wq HI.out.1)).mono ?_
        rintro e w2 ⟨rfl, hb2⟩
        obtain ⟨ch, hch⟩ : ∃ ch, ch = (dec s j).1 := ⟨_, rfl⟩
        obtain ⟨kk, hkk⟩ : ∃ kk, kk = (dec s j).2 := ⟨_, rfl⟩
        rw [← hch, ← hkk]
        have HCH := Lib.hid hch
        have HKK := Lib.hid hkk
        clear hch hkk
        have HB2 := Lib.hid (below_step HI.out.1 hb2)
        have HB2r := Lib.hid hb2
        obtain ⟨hz0, hz1, hz2⟩ := blk3 (blk_below BK.out HB2.out)
        clear hb2
        go_wp2_with fail
        have HPL := Lib.hid (And.intro hpl hne)
        refine (reach_calls HS.out.leads hm hpos HOP.out last ch (condZ last ch) 6 (cond_z last ch) w w2 A c HKw.out (below_step HB1.out HB2.out) pcs Ap cp HI.out.2.2.2.2.1 (Kd.C_below HI.out.2.2.1 HB2r.out)).mono ?_
        obtain ⟨D, hD⟩ : ∃ D, D = reachA L (condZ last ch) [] pcs := ⟨_, rfl⟩
        rw [← hD]
        rintro e w3 ⟨lv, wv, rfl, r1, r2, hb3⟩
        have HDE := Lib.hid hD
        have HR1 := Lib.hid r1
        have HB3 := Lib.hid (below_step HB2.out hb3)
        have HB3r := Lib.hid (below_step HB2r.out hb3)
        have HS23 := Lib.hid hb3.size
        have hDF : Fine L.length D := by rw [hD]; exact reachA_fine HS.out.leads pcs [] ⟨by simp, fun x hx => by cases hx⟩ HI.out.2.2.2.2.1
        have hDl := hDF.len
        have HDF := Lib.hid hDF
        obtain ⟨AD, cD, e0, hcD, hkD⟩ := rowAt_kd (l := dI D) (enc := Value.int .i64) (h1 := fun _ => rfl) (by unfold dI; rw [List.map_map]; exact r1)
        have hdl : (dI D).length = D.length := by unfold dI; rw [List.length_map]
        rw [hdl] at e0 hcD
        subst e0
        have HKD := Lib.hid hkD
        clear hz0 hz1 hz2 r1 r2 hb3 hD hDF hkD hpl hne hd0
        go_wp2_with fail
        go_loopg [7, 8, 42] D.length (fun ik s7 s8 s42 wi => ∃ (k : Nat), Hid (ik + k = D.length ∧ Inn L outs j ch kk D w1 w2 w3 k wi s7 s8) ∧ k ≤ D.length ∧ s42 = .int .i64 k)
        case atStart =>
          have e1 : outK L outs j (D.take 0) = outs := by unfold outK hasM; simp
          have e2 : nextK L ch kk (D.take 0) = [] := by unfold nextK nextP; simp
          refine ⟨0, ⟨by omega, ⟨HB3.out, fun _ _ _ => rfl, Nat.le_refl _, by rw [e1]; exact own_below HI.out.2.1 HB3r.out, by rw [e2]; exact World.ownsRow_nil _ _ _ _, fun b hb => .inl ?_, ?_⟩⟩, Nat.zero_le _, rfl⟩
          · have := (HI.out.2.1.lt b hb).2
            have := HB2r.out.size
            omega
          · cases h : v7.ownBlock with
            | none => exact .inl rfl
            | some b => exact .inr (by simp [Value.ownBlock])
        case round =>
          obtain ⟨k, HJ, hk, rfl⟩ := hrel
          by_cases hlt : k < D.length
          · have hpk := HDF.out.lt _ (List.getElem_mem hlt)
            obtain ⟨gl, cap0, e, _, _, _, _, hcell⟩ := (HR1.out.mono (w' := wr) (S' := fun _ => True) fun b _ hS => ⟨trivial, HJ.out.2.fr b hS.1 hS.2⟩).cell (by simp; intro e; rw [e] at hlt; simp at hlt)
            rw [List.length_map] at e
            cases e
            have hx := hcell k (by simpa using hlt)
            rw [List.getElem_map] at hx
            obtain ⟨ad, A3, c3, e, hx0, hx1, hx2, hx3, l3, g3⟩ := inst_at HKw.out (below_step HB1.out HJ.out.2.bl) D[k] hpk
            cases e
            rw [← ins_lt L D[k] hpk] at hx0 hx1 hx2 hx3 l3 g3
            have HG3 := Lib.hid (And.intro l3 g3)
            obtain ⟨hz0, hz1, hz2⟩ := blk3 (blk_below BK.out HJ.out.2.bl)
            clear l3 g3 hcell
            by_cases g4 : (ins L D[k]).f0 = 4
            · have h4 : ((ins L D[k]).f0 == 4) = true := by rw [g4]; rfl
              have hoe := outK_hit (outs := outs) (j := j) k hlt g4
              have hg4 : goes L ch D[k] = false := by unfold goes; rw [h4]; rfl
              have hne := nextK_miss (ch := ch) (kk := kk) k hlt (.inr hg4)
              by_cases hm2 : hasM L (D.take k) = true
              · have hO : outK L outs j (D.take k) = outs ++ [j] := by unfold outK; rw [if_pos hm2]
                have hIn := HJ.out.2.skip (hoe.trans hO.symm) hne
                have i5 := HJ.out.2.oo
                rw [hO] at i5
                obtain ⟨A7, c7, e7⟩ := owns_slice i5
                obtain ⟨m, hm3⟩ : ∃ m, outs.length = m := ⟨_, rfl⟩
                have hml : (outs ++ [j]).length = m + 1 := by simp [hm3]
                rw [hml] at e7
                subst e7
                rw [hml] at i5
                obtain ⟨g7, cap7, e, _, _, _, _, hcl⟩ := (RowAt.of_owns i5 (S := fun _ => True) fun _ _ => trivial).cell (by simp)
                rw [List.length_map, hml] at e
                cases e
                have hlast := hcl m (by rw [List.length_map, hml]; omega)
                have hl2 : ∀ o, (wr.alloc o).cell? ⟨g7, m, none⟩ = some (.int .i64 (j : Int)) := fun o => by
                  rw [(below_alloc (Below.refl _ wr) o).cell (World.block_lt_of_cell? wr _ hlast), hlast]; simp [iv, ← hm3]
                have hmb : m ≤ 100000 := by
                  have := HI.out.2.2.2.2.2.resolve_left HPL.out.2
                  omega
                have HM3 := Lib.hid hm3
                have HIn := Lib.hid hIn
                clear hcl hlast i5 hIn
                go_wp2_with fail
                go_roundg (gk - 1)
                case measure => have := HJ.out.1; omega
                case rel => exact ⟨k + 1, ⟨by have := HJ.out.1; omega, HIn.out.below (below_alloc (Below.refl _ wr) _)⟩, by omega, by go_num⟩
              · have hO : outK L outs j (D.take k) = outs := by unfold outK; rw [if_neg hm2]; simp
                replace hoe : outK L outs j (D.take (k + 1)) = outK L outs j (D.take k) ++ [j] := by rw [hO]; exact hoe
                obtain ⟨q1, q2, q3⟩ := HI.out.2.2.2.2.2.resolve_left HPL.out.2
                have hol : outs.length ≤ 100000 := by omega
                by_cases hou : outs = []
                · have i5 := HJ.out.2.oo
                  rw [hO, hou] at i5
                  obtain ⟨A7, c7, e7⟩ := owns_slice i5
                  subst e7
                  have HOW := Lib.hid (own_below i5 (below_alloc (below_alloc (Below.refl _ wr) (.cells #[.int .i64 4, .int .i64 (ins L D[k]).f1, .int .i64 (ins L D[k]).f2, .slice A3 (ins L D[k]).f3.length c3] 29)) (.cells #[.int .i64 (j : Int)] 3)))
                  have HJ2 := Lib.hid (HJ.out.2.below (below_alloc (below_alloc (Below.refl _ wr) (.cells #[.int .i64 4, .int .i64 (ins L D[k]).f1, .int .i64 (ins L D[k]).f2, .slice A3 (ins L D[k]).f3.length c3] 29)) (.cells #[.int .i64 (j : Int)] 3)))
                  clear i5 q1
                  go_wp2_with (at_builtin; refine app2 rfl (.tmp 67) (.tmp 69) 32 rfl 3 (.int .i64 0) 8 Tryd.underlying32 iint rfl _ 0 _ rfl w1.heap.size w1.heap.size w1 HOW.out HJ2.out.bl (Nat.le_refl _) (Nat.le_refl _) HJ2.out.bl.size (wr.heap.size + 1) rfl (.int .i64 (j : Int)) (by simp) rfl (by omega) (by unfold maxLen; omega) ?_; intro gn cap w5 hown hbel hgrow hat)
                  go_roundg (gk - 1)
                  case measure => have := HJ.out.1; omega
                  case rel =>
                    have hz : (outK L outs j (D.take k)).length = 0 := by rw [hO, hou]; rfl
                    have hz2 : iv (outK L outs j (D.take k)) = [] := by rw [hO, hou]; rfl
                    have := HJ2.out.addO (cap := cap) hoe hne (by rw [hz, hz2]; exact hown.out) hbel.out hgrow.out hat.out
                    rw [hz] at this
                    exact ⟨k + 1, ⟨by have := HJ.out.1; omega, this⟩, by omega, by go_num⟩
                · obtain ⟨m, hm3⟩ : ∃ m, outs.length = m + 1 := ⟨outs.length - 1, by have := List.length_pos_iff.2 hou; omega⟩
                  have i5 := HJ.out.2.oo
                  rw [hO] at i5
                  obtain ⟨A7, c7, e7⟩ := owns_slice i5
                  rw [hm3] at e7
                  subst e7
                  have i6 := i5
                  rw [hm3] at i6
                  obtain ⟨g7, cap7, e, _, _, _, _, hcl⟩ := (RowAt.of_owns i6 (S := fun _ => True) fun _ _ => trivial).cell (by simpa using hou)
                  rw [List.length_map, hm3] at e
                  cases e
                  have hlast := hcl m (by simp; omega)
                  rw [List.getElem_map] at hlast
                  have hl2 : ∀ o, (wr.alloc o).cell? ⟨g7, m, none⟩ = some (.int .i64 ((outs[m]'(by omega) : Nat) : Int)) := fun o => by
                    rw [(below_alloc (Below.refl _ wr) o).cell (World.block_lt_of_cell? wr _ hlast), hlast]
                  have hlj : outs[m]'(by omega) < j := q1 _ (List.getElem_mem _)
                  have hlj2 : (((outs[m]'(by omega) : Nat) : Int) != (j : Int)) = true := by simp; omega
                  have hlj3 : ((outs[m]'(by omega)) != j) = true := by simp; omega
                  have HOW := Lib.hid (own_below i6 (below_alloc (below_alloc (Below.refl _ wr) (.cells #[.int .i64 4, .int .i64 (ins L D[k]).f1, .int .i64 (ins L D[k]).f2, .slice A3 (ins L D[k]).f3.length c3] 29)) (.cells #[.int .i64 (j : Int)] 3)))
                  have HJ2 := Lib.hid (HJ.out.2.below (below_alloc (below_alloc (Below.refl _ wr) (.cells #[.int .i64 4, .int .i64 (ins L D[k]).f1, .int .i64 (ins L D[k]).f2, .slice A3 (ins L D[k]).f3.length c3] 29)) (.cells #[.int .i64 (j : Int)] 3)))
                  have HM3 := Lib.hid hm3
                  clear i5 i6 q1 hcl hlast
                  go_wp2_with (at_builtin; refine app2 rfl (.tmp 67) (.tmp 69) 32 rfl 3 (.int .i64 0) 8 Tryd.underlying32 iint rfl _ (m + 1) _ rfl w1.heap.size w1.heap.size w1 HOW.out HJ2.out.bl (Nat.le_refl _) (Nat.le_refl _) HJ2.out.bl.size (wr.heap.size + 1) rfl (.int .i64 (j : Int)) (by simp) rfl (by have := HM3.out; omega) (by have := HM3.out; unfold maxLen; omega) ?_; intro gn cap w5 hown hbel hgrow hat)
                  go_roundg (gk - 1)
                  case measure => have := HJ.out.1; omega
                  case rel =>
                    have hz : (outK L outs j (D.take k)).length = m + 1 := by rw [hO]; exact HM3.out
                    have := HJ2.out.addO (cap := cap) hoe hne (by rw [hz, hO]; exact hown.out) hbel.out hgrow.out hat.out
                    rw [hz] at this
                    exact ⟨k + 1, ⟨by have := HJ.out.1; omega, this⟩, by omega, by go_num⟩
            · have h4 : ((ins L D[k]).f0 == 4) = false := by rw [beq_eq_false_iff_ne]; exact g4
              have hoe := outK_miss (outs := outs) (j := j) k hlt g4
              have HNB : Hid ((wr.alloc (.cells #[.int .i64 (ins L D[k]).f0, .int .i64 (ins L D[k]).f1, .int .i64 (ins L D[k]).f2, .slice A3 (ins L D[k]).f3.length c3] 29)).heap[wr.heap.size]? = some (.cells #[.int .i64 (ins L D[k]).f0, .int .i64 (ins L D[k]).f1, .int .i64 (ins L D[k]).f2, .slice A3 (ins L D[k]).f3.length c3] 29 (0, 0))) := Lib.hid (heap_alloc_new wr _)
              have HJ1 := Lib.hid (HJ.out.2.below (below_alloc (Below.refl _ wr) (.cells #[.int .i64 (ins L D[k]).f0, .int .i64 (ins L D[k]).f1, .int .i64 (ins L D[k]).f2, .slice A3 (ins L D[k]).f3.length c3] 29)))
              have HG4 := Lib.hid (And.intro g4 hoe)
              clear g4 hoe
              by_cases hk0 : kk = 0
              · have hkd : decide (0 < kk) = false := decide_eq_false (by omega)
                go_wp2_with fail
                go_roundg (gk - 1)
                case measure => have := HJ.out.1; omega
                case rel => exact ⟨k + 1, ⟨by have := HJ.out.1; omega, HJ1.out.skip HG4.out.2 (nextK_miss k hlt (.inl hk0))⟩, by omega, by go_num⟩
              · have hkd : decide (0 < kk) = true := decide_eq_true (by omega)
                go_wp2_with fail
                refine (spec_progWaits.calls (ins L D[k]).f0 (ins L D[k]).f1 (ins L D[k]).f2 A3 c3 (ins L D[k]).f3 (waitsB (ins L D[k])) _ (Kd.C_below HG3.out.2 (below_step HB1.out HJ1.out.bl)) HG3.out.1 (waits_f _)).mono ?_
                rintro e w5 ⟨rfl, hb5⟩
                have HJ5 := Lib.hid (HJ1.out.below hb5)
                obtain ⟨hy0, hy1, hy2, hy3⟩ := blk4 (blk_below HNB.out hb5)
                have HNB5 := Lib.hid (blk_below HNB.out hb5)
                clear hb5
                cases hwt : waitsB (ins L D[k]) with
                | false =>
                  have hgo : goes L ch D[k] = false := by unfold goes; rw [hwt]; simp
                  go_wp2_with fail
                  go_roundg (gk - 1)
                  case measure => have := HJ.out.1; omega
                  case rel => exact ⟨k + 1, ⟨by have := HJ.out.1; omega, HJ5.out.skip HG4.out.2 (nextK_miss k hlt (.inr hgo))⟩, by omega, by go_num⟩
                | true =>
                  go_wp2_with fail
                  refine (takes_calls (ins L D[k]) (HS.out.tak D[k] hpk hwt HG4.out.1) (HR.out _ (ins_mem L _ hpk)) w5 A3 c3 (Kd.C_below HG3.out.2 (below_step HB1.out HJ5.out.bl)) HG3.out.1 (HFw.out.below (below_step HB1.out HJ5.out.bl)) ch).mono ?_
                  rintro e w6 ⟨rfl, hb6⟩
                  have HJ6 := Lib.hid (HJ5.out.below hb6)
                  obtain ⟨hy0, hy1, hy2, hy3⟩ := blk4 (blk_below HNB5.out hb6)
                  clear hb6
                  have h44 : (!((ins L D[k]).f0 == 4)) = true := by rw [h4]; rfl
                  cases htk : takesB (ins L D[k]) ch with
                  | false =>
                    have hgo : goes L ch D[k] = false := by unfold goes; rw [htk, Bool.and_false]
                    go_wp2_with fail
                    go_roundg (gk - 1)
                    case measure => have := HJ.out.1; omega
                    case rel => exact ⟨k + 1, ⟨by have := HJ.out.1; omega, HJ6.out.skip HG4.out.2 (nextK_miss k hlt (.inr hgo))⟩, by omega, by go_num⟩
                  | true =>
                    have hgo : goes L ch D[k] = true := by unfold goes; rw [htk, hwt, h44]; rfl
                    have hne := nextK_hit (ch := ch) k hlt hk0 hgo
                    have hf1 : (ins L D[k]).f1 = (((ins L D[k]).f1.toNat : Nat) : Int) := by
                      have hw := hwt
                      unfold waitsB at hw
                      simp only [Bool.not_eq_true', Bool.or_eq_false_iff, decide_eq_false_iff_not] at hw
                      have h4' := HG4.out.1
                      have := HS.out.outIn D[k] hpk (by omega)
                      omega
                    have hnl := nextK_len L ch kk (D.take k)
                    rw [List.length_take] at hnl
                    obtain ⟨A8, c8, e8⟩ := owns_slice HJ6.out.np
                    subst e8
                    have HJ7 := Lib.hid (HJ6.out.below (below_alloc (Below.refl _ w6) (.cells #[.int .i64 (ins L D[k]).f1] 3)))
                    have HF1 := Lib.hid (And.intro hf1 hne)
                    clear hf1 hne
                    go_wp2_with (at_builtin; refine app2 rfl (.tmp 82) (.tmp 85) 32 rfl 3 (.int .i64 0) 8 Tryd.underlying32 iint rfl _ (nextK L ch kk (D.take k)).length _ rfl w3.heap.size w1.heap.size w1 HJ7.out.np HJ7.out.bl HB3.out.size (Nat.le_refl _) HJ7.out.sz w6.heap.size rfl (.int .i64 (ins L D[k]).f1) (by simp) rfl (by omega) (by unfold maxLen; omega) ?_; intro gn cap w7 hown hbel hgrow hat)
                    go_roundg (gk - 1)
                    case measure => have := HJ.out.1; omega
                    case rel => exact ⟨k + 1, ⟨by have := HJ.out.1; omega, HJ7.out.addN _ HF1.out.1 HG4.out.2 HF1.out.2 hown.out hbel.out hgrow.out hat.out⟩, by omega, by go_num⟩
          · have hke : k = D.length := by omega
            subst hke
            have hIn := HJ.out.2
            have hk1 : j + kk ≤ s.size := by rw [HKK.out]; exact dec_le s j hj
            have HIN := Lib.hid hIn
            clear hIn
            go_wp2_with fail
            go_roundg (og - 1)
            case measure =>
              obtain ⟨q1, q2, q3⟩ := HI.out.2.2.2.2.2.resolve_left HPL.out.2
              omega
            case rel =>
              obtain ⟨q1, q2, q3⟩ := HI.out.2.2.2.2.2.resolve_left HPL.out.2
              obtain ⟨og1, rfl⟩ : ∃ g, og = g + 1 := ⟨og - 1, by omega⟩
              have hnp := HIN.out.np
              have hoo := HIN.out.oo
              rw [List.take_length] at hnp hoo
              obtain ⟨Ap2, cp2, e8, _, k8⟩ := rowAt_kd (enc := Value.int .i64) (h1 := fun _ => rfl) (l := dI (nextK L ch kk D)) (by unfold dI; rw [List.map_map]; exact RowAt.of_owns hnp (S := fun _ => True) fun _ _ => trivial)
              have hdl2 : (dI (nextK L ch kk D)).length = (nextK L ch kk D).length := by unfold dI; rw [List.length_map]
              rw [hdl2] at e8
              rw [hdl2] at k8
              refine ⟨j + kk, outK L outs j D, nextK L ch kk D, ch, Ap2, cp2, ⟨HIN.out.bl, hoo, k8, ?_, nextK_lt HS.out.leads ch kk (fun x hx => HDF.out.lt x hx), ?_⟩, hk1, by go_num, e8, rfl⟩
              · have h4 := HI.out.2.2.2.1
                rw [endsF, if_neg HPL.out.2, ← HCH.out, ← HKK.out, ← HDE.out] at h4
                rw [h4, ← List.append_assoc]; rfl
              · by_cases hk0 : kk = 0
                · left; unfold nextK; rw [if_pos hk0]
                · right
                  refine ⟨fun x hx => ?_, by omega, ?_⟩
                  · unfold outK at hx
                    rcases List.mem_append.1 hx with hx | hx
                    · have := q1 x hx; omega
                    · split at hx
                      · simp at hx; omega
                      · cases hx
                  · unfold outK
                    rw [List.length_append]
                    split <;> simp <;> omega
end Go.Proofs.YteoljppcafakpaaDoor.PgFnPgSpan
