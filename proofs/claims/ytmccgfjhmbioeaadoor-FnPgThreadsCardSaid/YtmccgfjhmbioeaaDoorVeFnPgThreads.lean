import Derived.Test.YtmccgfjhmbioeaaDoorVxFnPgThreads
import Derived.WalkMore
import Derived.ScopeJumps
import Derived.BigQuiet
namespace Go.Proofs.YtmccgfjhmbioeaaDoor.PgFnPgThreads
open Go.RowKit Go.Proofs.YtmccgfjhmbioeaaDoor.EvN Go.Proofs.YtmccgfjhmbioeaaDoor.Row Go.Proofs.YtmccgfjhmbioeaaDoor.PFnPgThreads Go.Proofs.YtmccgfjhmbioeaaDoorW.PrintWords Go.Proofs.YtmccgfjhmbioeaaDoorW.PrintLast Go.Proofs.YtmccgfjhmbioeaaDoorW.PrintMore
theorem wp_scope_label {P : Program} {a : Act} {w : World} {Q : Exit → Act → World → Prop} {c body : Code} (l : Nat) (J : Act → World → Prop) (μ : Act → World → Nat) (hf : findLabel c l = some (.seq .skip body)) (a1 : Act) (w1 : World) (hJ : J a1 w1)
    (first : body.wp P (Exit.jump l J Q) a1 w1 → c.wp P (Exit.jump l J Q) a w)
    (pass : ∀ a w, J a w → body.wp P (Exit.jump l (fun a' w' => J a' w' ∧ μ a' w' < μ a w) Q) a w) : (Code.scope c).wp P Q a w :=
  wp_scope_jumps l J μ hf (first (Code.wp_mono (fun e a2 w2 h => by
    cases e <;> first | exact h | exact ⟨h.1, h.2.1⟩) (pass a1 w1 hJ))) (fun a w h => wp_seq (wp_skip (pass a w h)))
def frA (mb qo pc : Nat) (pos : Int) (cb n cc lf : Nat) (t : Option Th) (us : Nat → Value) : Act :=
  { tmps := #[.pointer (some ⟨mb, 0, none⟩), .pointer (some ⟨mb, qo, none⟩), .int .u32 (pc : Int), .int .i64 pos, .slice (some ⟨cb, 0, none⟩) n cc, .pointer (some ⟨lf, 0, none⟩), ptrT t, us 7, us 8, us 9, us 10, us 11, us 12, us 13, us 14, us 15, us 16, us 17, us 18, us 19, us 20, us 21, us 22, us 23, us 24, us 25, us 26, us 27, us 28, us 29, us 30, us 31, us 32, us 33, us 34, us 35, us 36, us 37, us 38, us 39, us 40, us 41, us 42, us 43, us 44, us 45, us 46, us 47, us 48, us 49, us 50, us 51, us 52, us 53, us 54, us 55, us 56, us 57, us 58, us 59, us 60, us 61, us 62, us 63, us 64, us 65, us 66, us 67, us 68, us 69, us 70, us 71, us 72, us 73, us 74, us 75, us 76, us 77, us 78, us 79, us 80, us 81, us 82, us 83, us 84, us 85, us 86, us 87, us 88, us 89, us 90, us 91, us 92, us 93, us 94, us 95, us 96, us 97, us 98, us 99, us 100, us 101, us 102, us 103, us 104, us 105, us 106, us 107, us 108, us 109, us 110, us 111, us 112, us 113, us 114, us 115, us 116, us 117, us 118, us 119, us 120, us 121, us 122, us 123, us 124, us 125, us 126, us 127, us 128, us 129, us 130, us 131, us 132, us 133, us 134, us 135, us 136, us 137, us 138, us 139, us 140, us 141, us 142, us 143, us 144, us 145, us 146, us 147, us 148, us 149, us 150, us 151, us 152, us 153, us 154, us 155, us 156, us 157, us 158, us 159, us 160, us 161, us 162, us 163, us 164, us 165, us 166, us 167, us 168, us 169, us 170, us 171, us 172, us 173, us 174, us 175, us 176, us 177, us 178, us 179, us 180, us 181, us 182, us 183, us 184, us 185, us 186, us 187, us 188, us 189, us 190, us 191, us 192, us 193, us 194, us 195, us 196, us 197, us 198, us 199, us 200, us 201, us 202, us 203, us 204, us 205, us 206, us 207, us 208, us 209, us 210, us 211, us 212, us 213, us 214, us 215, us 216, us 217, us 218, us 219, us 220, us 221, us 222, us 223, us 224, us 225], defers := [] }
def lenAt (w : World) (mb qo : Nat) : Nat := match w.cell? ⟨mb, qo + 1, none⟩ with | some (.slice _ n _) => n | _ => 0
theorem MS.cells {N : Nat} {W0 w : World} {p mb qo sp de lf S n cc : Nat} {F : Int} {mc : Nat → Value} {E : List En} {pool out : List Th} (h : MS N W0 w p mb qo sp de lf S n cc F mc E pool out) :
    w.cell? ⟨mb, 1, none⟩ = some (.pointer (some ⟨p, 0, none⟩)) ∧ w.cell? ⟨mb, qo, none⟩ = some (.slice (some ⟨sp, 0, none⟩) S S) ∧ w.cell? ⟨mb, qo + 1, none⟩ = some (.slice (some ⟨de, 0, none⟩) E.length S) ∧ w.cell? ⟨lf, 0, none⟩ = some (.int .u64 F) ∧
      (∀ i, w.frozen? ⟨mb, i, none⟩ = false) ∧ (∀ i, w.frozen? ⟨sp, i, none⟩ = false) ∧ (∀ i, w.frozen? ⟨de, i, none⟩ = false) := by
  have hq := h.q2
  obtain ⟨sa, s1, _⟩ := h.sa
  obtain ⟨da, d1, _⟩ := h.da
  exact ⟨(mach_cell h.ma 1 (by omega)).trans (by rw [h.m1]), (mach_cell h.ma qo (by omega)).trans (by rw [h.mq]), (mach_cell h.ma (qo + 1) (by omega)).trans (by rw [h.md]), blk1 h.fl, blk_frozen h.ma, blk_frozen s1, blk_frozen d1⟩
theorem MS.sparse {N : Nat} {W0 w : World} {p mb qo sp de lf S n cc : Nat} {F : Int} {mc : Nat → Value} {E : List En} {pool out : List Th} (h : MS N W0 w p mb qo sp de lf S n cc F mc E pool out) (pc : Nat) (hpc : pc < N) :
    ∃ v : Nat, w.cell? ⟨sp, pc, none⟩ = some (.int .u32 (v : Int)) ∧ v < 4294967296 ∧ (v < E.length → ∃ q : Nat, w.cell? ⟨de, v * 2, none⟩ = some (.int .u32 (q : Int)) ∧ (q = pc ↔ pc ∈ E.map Prod.fst) ∧ q < N) ∧ (E.length ≤ v → pc ∉ E.map Prod.fst) := by
  obtain ⟨sa, s1, s2, s3, s4⟩ := h.sa
  obtain ⟨da, d1, d2, d3⟩ := h.da
  have hls := h.ls
  obtain ⟨v, hv, hv0, hv1⟩ := s3 pc (by omega)
  obtain ⟨v, rfl⟩ : ∃ k : Nat, v = (k : Int) := ⟨v.toNat, by omega⟩
  have key : pc ∈ E.map Prod.fst → ∃ e, E[v]? = some e ∧ e.1 = pc := by
    intro hm
    obtain ⟨e, he, e1⟩ := List.mem_map.1 hm
    obtain ⟨i, hi⟩ := List.getElem?_of_mem he
    have := s4 i e hi
    rw [e1, hv] at this
    simp only [Option.some.injEq, Value.int.injEq, true_and] at this
    have hiv : v = i := by omega
    subst hiv
    exact ⟨e, hi, e1⟩
  refine ⟨v, (blk_cell s1 pc).trans hv, by omega, fun hlt => ?_, fun hge hm => ?_⟩
  · have he := List.getElem?_eq_getElem hlt
    have := d3 v _ he
    refine ⟨E[v].1, (blk_cell d1 _).trans this.1, ⟨fun e => e ▸ List.mem_map_of_mem (List.getElem_mem hlt), fun hm => ?_⟩, h.fi.lt _ (List.mem_map_of_mem (List.getElem_mem hlt))⟩
    obtain ⟨e, h1, h2⟩ := key hm
    rw [he] at h1
    cases h1
    exact h2
  · obtain ⟨e, h1, _⟩ := key hm
    have := (List.getElem?_eq_some_iff.1 h1).1
    omega
theorem MS.dcell {N : Nat} {W0 w : World} {p mb qo sp de lf S n cc : Nat} {F : Int} {mc : Nat → Value} {E : List En} {pool out : List Th} (h : MS N W0 w p mb qo sp de lf S n cc F mc E pool out) (i : Nat) (hi : i < S * 2) : ∃ v, w.cell? ⟨de, i, none⟩ = some v := by
  obtain ⟨da, d1, d2, _⟩ := h.da
  exact ⟨da[i]'(by omega), (blk_cell d1 i).trans (Array.getElem?_eq_getElem (by omega))⟩
theorem AR.capAt {N : Nat} {W0 w w1 : World} {p mb qo sp de lf S n cc cb : Nat} {F : Int} {ad : Addr} {mc mc1 : Nat → Value} {E new : List En} {pool pool1 out : List Th} {t t1 : Option Th} {A : List Ae} {C : List Int} (h : MS N W0 w p mb qo sp de lf S n cc F mc E pool (t.toList ++ out)) (hc : CapAt w n cc cb C) (hcb : ∀ x ∈ pool, x.2 ≠ cb)
    (h1 : AR N W0 p mb qo sp de lf S n cc F ad A w mc E pool t out w1 mc1 new pool1 t1) : CapAt w1 n cc cb C := by
  obtain ⟨r, hb, hl⟩ := hc
  obtain ⟨sa, s1, _⟩ := h.sa
  obtain ⟨da, d1, _⟩ := h.da
  refine CapAt.keep ⟨r, hb, hl⟩ (h1.fr.block cb (blk_lt hb) ?_)
  rintro (a | a | a | ⟨y, hy1, a | a⟩ | ⟨y, hy1, a⟩)
  · exact blk_ne hb h.ma (by decide) a
  · exact blk_ne hb s1 (by decide) a
  · exact blk_ne hb d1 (by decide) a
  · obtain ⟨i, C2, hC2⟩ := h.pl.th y hy1
    exact blk_ne hb hC2.1 (by decide) a
  · exact hcb y hy1 a.symm
  · obtain ⟨i, C2, hC2⟩ := h.th y (by rw [hy1]; simp)
    exact blk_ne hb hC2.1 (by decide) a
def nth : List Value → Nat → Value
  | [], _ => undef
  | v :: _, 0 => v
  | _ :: l, n + 1 => nth l n
theorem fr_intro {a : Act} {mb qo : Nat} {pos : Int} {cb n cc lf : Nat} {R : Nat → Option Th → Prop} (pc : Nat) (t : Option Th) (h : a = frA mb qo pc pos cb n cc lf t (nth a.tmps.toList)) (hR : R pc t) : ∃ (us : Nat → Value) (pc' : Nat) (t' : Option Th), a = frA mb qo pc' pos cb n cc lf t' us ∧ R pc' t' := ⟨_, pc, t, h, hR⟩
theorem MS.lenAt {N : Nat} {W0 w : World} {p mb qo sp de lf S n cc : Nat} {F : Int} {mc : Nat → Value} {E : List En} {pool out : List Th} (h : MS N W0 w p mb qo sp de lf S n cc F mc E pool out) : PgFnPgThreads.lenAt w mb qo = E.length := by
  unfold PgFnPgThreads.lenAt
  rw [h.cells.2.2.1]
section
variable {L : List I} {cond pos : Int} {k : Nat} {D : List Nat} {pc : Nat} {C : List Int}
theorem aF_alt (h : ¬ (pc = 0 ∨ pc ∈ D)) (h0 : (ins L pc).f0 = 0) : aF L cond pos (k + 1) D pc C = (pc, none) :: (aF L cond pos k (D ++ [pc]) (ins L pc).f1.toNat C ++ aF L cond pos k (D ++ pc :: (aF L cond pos k (D ++ [pc]) (ins L pc).f1.toNat C).map Prod.fst) (ins L pc).f2.toNat C) := by rw [aF, if_neg h, if_pos h0]
theorem aF_nop (h : ¬ (pc = 0 ∨ pc ∈ D)) (h0 : (ins L pc).f0 = 6) : aF L cond pos (k + 1) D pc C = (pc, none) :: aF L cond pos k (D ++ [pc]) (ins L pc).f1.toNat C := by rw [aF, if_neg h, if_neg (by omega), if_pos h0]
theorem aF_cap (h : ¬ (pc = 0 ∨ pc ∈ D)) (h0 : (ins L pc).f0 = 2) : aF L cond pos (k + 1) D pc C = (pc, none) :: aF L cond pos k (D ++ [pc]) (ins L pc).f1.toNat (C.set (ins L pc).f2.toNat pos) := by rw [aF, if_neg h, if_neg (by omega), if_neg (by omega), if_pos h0]
theorem aF_emp (h : ¬ (pc = 0 ∨ pc ∈ D)) (h0 : (ins L pc).f0 = 3) : aF L cond pos (k + 1) D pc C = (pc, none) :: (if holds cond (ins L pc).f2 = true then aF L cond pos k (D ++ [pc]) (ins L pc).f1.toNat C else []) := by rw [aF, if_neg h, if_neg (by omega), if_neg (by omega), if_neg (by omega), if_pos h0]
theorem aF_fail (h : ¬ (pc = 0 ∨ pc ∈ D)) (h0 : (ins L pc).f0 = 5) : aF L cond pos (k + 1) D pc C = [(pc, none)] := by rw [aF, if_neg h, if_neg (by omega), if_neg (by omega), if_neg (by omega), if_neg (by omega), if_pos h0]
theorem aF_leaf (h : ¬ (pc = 0 ∨ pc ∈ D)) (h0 : (ins L pc).f0 = 4 ∨ 7 ≤ (ins L pc).f0) : aF L cond pos (k + 1) D pc C = [(pc, some C)] := by rw [aF, if_neg h, if_neg (by omega), if_neg (by omega), if_neg (by omega), if_neg (by omega), if_neg (by omega)]
end
set_option maxRecDepth 100000 in
set_option maxHeartbeats 4000000 in
theorem madd_calls {L : List I} (hl : Leads L) (hm : L.length ≤ 2000) (hop : ∀ pc, pc < L.length → 0 ≤ (ins L pc).f0 ∧ (ins L pc).f0 ≤ 10 ∧ (ins L pc).f0 ≠ 1) (ha3 : ∀ pc, pc < L.length → (ins L pc).f0 = 3 → 0 < (ins L pc).f2 ∧ (ins L pc).f2 < 64) (ha2 : ∀ pc, pc < L.length → (ins L pc).f0 = 2 → 0 ≤ (ins L pc).f2 ∧ (ins L pc).f2 < 4294967296)
    (cond F : Int) (hmatch : ∀ a, 0 < a → a < 64 → ∃ k, regexp_lazyFlag_match.f k F a = some (holds cond a)) (W0 : World) (p : Nat) (ad : Addr) (hP : Prg W0 L p ad) (mb qo sp de lf S n cc cb : Nat) (hcl : W0.heap.size ≤ cb) (pos : Int) :
    ∀ (m : Nat) (w : World) (mc : Nat → Value) (E : List En) (pool out : List Th) (t : Option Th) (pc : Nat) (C : List Int), MS L.length W0 w p mb qo sp de lf S n cc F mc E pool (t.toList ++ out) → CapAt w n cc cb C → (∀ x ∈ pool, x.2 ≠ cb) → (∀ x, t = some x → x.2 = cb) → pc < L.length → L.length - E.length < m →
      Calls Tryd.prog 44 #[.pointer (some ⟨mb, 0, none⟩), .pointer (some ⟨mb, qo, none⟩), .int .u32 (pc : Int), .int .i64 pos, .slice (some ⟨cb, 0, none⟩) n cc, .pointer (some ⟨lf, 0, none⟩), ptrT t] w fun e w' =>
        ∃ mc' new pool' t', e = .returned (ptrT t') ∧ AR L.length W0 p mb qo sp de lf S n cc F ad (aF L cond pos m (E.map Prod.fst) pc C) w mc E pool t out w' mc' new pool' t' := by
  have HL := Lib.hid hl
  have HOP := Lib.hid hop
  have HA3 := Lib.hid ha3
  have HG2 := Lib.hid ha2
  have HMT := Lib.hid hmatch
  have HP := Lib.hid hP
  clear hl hop ha3 ha2 hmatch hP
  suffices H : ∀ (m0 m : Nat), m ≤ m0 → ∀ (w : World) (mc : Nat → Value) (E : List En) (pool out : List Th) (t : Option Th) (pc : Nat) (C : List Int), MS L.length W0 w p mb qo sp de lf S n cc F mc E pool (t.toList ++ out) → CapAt w n cc cb C → (∀ x ∈ pool, x.2 ≠ cb) → (∀ x, t = some x → x.2 = cb) → pc < L.length → L.length - E.length < m →
      Calls Tryd.prog 44 #[.pointer (some ⟨mb, 0, none⟩), .pointer (some ⟨mb, qo, none⟩), .int .u32 (pc : Int), .int .i64 pos, .slice (some ⟨cb, 0, none⟩) n cc, .pointer (some ⟨lf, 0, none⟩), ptrT t] w fun e w' =>
        ∃ mc' new pool' t', e = .returned (ptrT t') ∧ AR L.length W0 p mb qo sp de lf S n cc F ad (aF L cond pos m (E.map Prod.fst) pc C) w mc E pool t out w' mc' new pool' t' from fun m => H m m (Nat.le_refl _)
  intro m0
  induction m0 with
  | zero => intro m h0 w mc E pool out t pc C _ _ _ _ _ h; omega
  | succ m0 ih =>
    intro m hm0 w mc E pool out t pc C hQ hC hcb ht hp hn
    have HQ := Lib.hid hQ
    have HC := Lib.hid hC
    have HCB := Lib.hid hcb
    have HT := Lib.hid ht
    have HIH := Lib.hid ih
    clear hQ hC hcb ht ih
    go_enter Tryd.func44, Tryd.ntmps44
    go_wp2
    refine wp_scope_label 0 (fun a' w' => ∃ (us : Nat → Value) (pc' : Nat) (t' : Option Th), a' = frA mb qo pc' pos cb n cc lf t' us ∧ Hid (∃ k A0 new mc' pool', AR L.length W0 p mb qo sp de lf S n cc F ad A0 w mc E pool t out w' mc' new pool' t' ∧ A0 ++ aF L cond pos k (E.map Prod.fst ++ A0.map Prod.fst) pc' C = aF L cond pos m (E.map Prod.fst) pc C ∧ pc' < L.length ∧ k ≤ m0 + 1 ∧ L.length - (E ++ new).length < k)) (fun _ w' => L.length - lenAt w' mb qo) rfl (frA mb qo pc pos cb n cc lf t (fun i => if i = 14 then .pointer none else undef)) w ?_ ?_ ?_
    · exact ⟨_, pc, t, rfl, Lib.hid ⟨m, [], [], mc, pool, AR.refl HQ.out, by simp, hp, hm0, by simpa using hn⟩⟩
    · intro h
      go_wp2
      go_step3
      refine (by assumption : ∀ (a : Act) (w : World), _ → _) _ _ ?_
      exact h
    · rintro a' w1 ⟨us, pc1, t1, rfl, hJ⟩
      unfold frA
      obtain ⟨k, A0, new, mc1, pool1, hAR, hA, hp1, hk0, hk⟩ := hJ.out
      clear hJ
      have HAR := Lib.hid hAR
      have HA := Lib.hid hA
      have HQ1 := Lib.hid hAR.ms
      have HC1 := Lib.hid (AR.capAt HQ.out HC.out HCB.out hAR)
      have HD : Hid ((E ++ new).map Prod.fst = E.map Prod.fst ++ A0.map Prod.fst) := Lib.hid (by rw [List.map_append, hAR.rel.fst])
      have HCB1 : Hid (∀ x ∈ pool1, x.2 ≠ cb) := Lib.hid (by
        obtain ⟨r, e⟩ := hAR.pp
        intro x hx
        exact HCB.out x (by rw [e]; simp [hx]))
      have HT1 : Hid (∀ x, t1 = some x → x.2 = cb) := Lib.hid (by
        intro x hx
        rcases hAR.tt with e | e
        · exact HT.out x (by rw [← e]; exact hx)
        · rw [e] at hx; cases hx)
      obtain ⟨k, rfl⟩ : ∃ j, k = j + 1 := ⟨k - 1, by omega⟩
      clear hAR hA
      by_cases h0 : pc1 = 0
      · have e0 : aF L cond pos (k + 1) (E.map Prod.fst ++ A0.map Prod.fst) pc1 C = [] := by rw [aF, if_pos (.inl h0)]
        have HA2 := HA.out
        rw [e0, List.append_nil] at HA2
        subst h0
        go_wp2_with fail
        simp only [Exit.jump]
        go_ret
        exact ⟨mc1, new, pool1, t1, rfl, HA2 ▸ HAR.out⟩
      · have e0 : ((pc1 : Int) == 0) = false := by rw [beq_eq_false_iff_ne]; omega
        obtain ⟨hz1, hzq, hzd, hzl, hfm, hfs, hfd⟩ := HQ1.out.cells
        obtain ⟨v, hzs, hv, hv1, hv2⟩ := HQ1.out.sparse pc1 hp1
        have hls := HQ1.out.ls
        have hlm := HQ1.out.lm
        have hE : (E ++ new).length ≤ L.length := HQ1.out.len
        by_cases hd : pc1 ∈ (E ++ new).map Prod.fst
        · have hvl : v < (E ++ new).length := by
            rcases Nat.lt_or_ge v (E ++ new).length with h | h
            · exact h
            · exact absurd hd (hv2 h)
          obtain ⟨q, hzv, hq, _⟩ := hv1 hvl
          have hqe := hq.2 hd
          subst hqe
          have HA2 := HA.out
          rw [aF, if_pos (.inr (by rw [← HD.out]; exact hd)), List.append_nil] at HA2
          have hd1 : decide ((v : Int) < ((E ++ new).length : Int)) = true := decide_eq_true (by omega)
          clear hv1 hv2 hd hq
          generalize (E ++ new).length = len at *
          go_wp2_with fail
          simp only [Exit.jump]
          go_ret
          exact ⟨mc1, new, pool1, t1, rfl, HA2 ▸ HAR.out⟩
        · have hlt : (E ++ new).length < S := by
            have := (HQ1.out.fi.add hp1 hd).len
            simp at this
            simp
            omega
          have hqo := HQ1.out.q2
          go_upto_region 4 with (fail)
          go_cut [49] (fun b w' => b = .bool false ∧ w1 = w')
          case first =>
            by_cases hvl : v < (E ++ new).length
            · obtain ⟨q, hzv, hq, hqn⟩ := hv1 hvl
              have hqe : ((q : Int) == (pc1 : Int)) = false := by
                rw [beq_eq_false_iff_ne]
                intro e
                exact hd (hq.1 (by omega))
              have hd1 : decide ((v : Int) < ((E ++ new).length : Int)) = true := decide_eq_true (by omega)
              clear hv1 hv2 hd hq
              generalize (E ++ new).length = len at *
              go_wp2_with fail
              go_meet
              exact ⟨rfl, rfl⟩
            · have hd1 : decide ((v : Int) < ((E ++ new).length : Int)) = false := decide_eq_false (by omega)
              clear hv1 hv2 hd
              generalize (E ++ new).length = len at *
              go_wp2_with fail
              go_meet
              exact ⟨rfl, rfl⟩
          case rest =>
            obtain ⟨rfl, rfl⟩ := hcut
            obtain ⟨c1, hzc1⟩ := HQ1.out.dcell ((E ++ new).length * 2) (by omega)
            obtain ⟨c2, hzc2⟩ := HQ1.out.dcell ((E ++ new).length * 2 + 1) (by omega)
            obtain ⟨ne1, ne2, ne3, ne4, ne5, ne6⟩ := HQ1.out.sp_ne
            have ne7 := Ne.symm ne1
            have ne8 := Ne.symm ne2
            have ne9 := Ne.symm ne3
            have ne10 := Ne.symm ne4
            have ne11 := Ne.symm ne5
            have ne12 := Ne.symm ne6
            have HPU := Lib.hid (AR.push (ad := ad) (t := t1) (out := out) HQ1.out hp1 hd)
            have HDN := Lib.hid hd
            clear hv1 hv2 hd
            generalize hlen : (E ++ new).length = len at *
            go_upto_region 12 with (fail)
            have HND : Hid (¬ (pc1 = 0 ∨ pc1 ∈ E.map Prod.fst ++ A0.map Prod.fst)) := Lib.hid (fun e => e.elim h0 (fun e => HDN.out (by rw [HD.out]; exact e)))
            generalize hw2 : push w1 mb qo sp de S len pc1 = w2 at HPU
            simp only [push] at hw2
            rw [hw2]
            clear hw2 hz1 hzq hzd hzl hfm hfs hfd hzs hzc1 hzc2 hv
            have HQ2 := Lib.hid HPU.out.ms
            have HPG := Lib.hid (HP.out.below HQ2.out.bl)
            obtain ⟨hz1, -, -, hzl, hfm, hfs, hfd⟩ := HQ2.out.cells
            obtain ⟨pcap, pst, pnc, hpp, hpcap, hpi⟩ := HPG.out
            obtain ⟨A3, c3, hx0, hx1, hx2, -, -, -⟩ := hpi pc1 hp1
            obtain ⟨hp0, -, -⟩ := blk3 hpp
            have hl63 : (L.length : Int) ≤ 9223372036854775807 := by omega
            have HL2 : Hid (L.length - (E ++ new ++ [(pc1, none)]).length < k ∧ (E ++ new ++ [(pc1, (none : Option Th))]).length = len + 1 ∧ len + 1 ≤ L.length) := Lib.hid (by
              simp only [List.length_append, List.length_singleton] at *
              have := HQ2.out.len
              simp only [List.length_append, List.length_singleton] at this
              omega)
            have HAR2 := Lib.hid (HAR.out.trans HPU.out)
            clear hpi hpp
            have HOUT := Lib.hid (HL.out.out pc1 hp1)
            have HARG := Lib.hid (HL.out.arg pc1 hp1)
            obtain ⟨op0, op1, op2⟩ := HOP.out pc1 hp1
            rw [pin_op] at hx0
            have hcase : (ins L pc1).f0 = 5 ∨ (ins L pc1).f0 = 0 ∨ (ins L pc1).f0 = 3 ∨ (ins L pc1).f0 = 6 ∨ (ins L pc1).f0 = 2 ∨ ((ins L pc1).f0 = 4 ∨ (ins L pc1).f0 = 7 ∨ (ins L pc1).f0 = 8 ∨ (ins L pc1).f0 = 9 ∨ (ins L pc1).f0 = 10) := by omega
            rcases hcase with ho | ho | ho | ho | ho | ho
            ·
              rw [ho] at hx0
              have HA2 := HA.out
              rw [aF_fail HND.out ho] at HA2
              go_wp2_with fail
              simp only [Exit.jump]
              go_ret
              exact ⟨_, _, _, t1, rfl, HA2 ▸ HAR2.out⟩
            ·
              have hno : ¬ ((ins L pc1).f0 = 4 ∨ (ins L pc1).f0 = 5) := by omega
              obtain ⟨o, hoo⟩ : ∃ o : Nat, (ins L pc1).f1 = (o : Int) := ⟨(ins L pc1).f1.toNat, by have := (HOUT.out (by omega)).1; omega⟩
              obtain ⟨a, haa⟩ : ∃ a : Nat, (ins L pc1).f2 = (a : Int) := ⟨(ins L pc1).f2.toNat, by have := (HARG.out ho).1; omega⟩
              have hol : o < L.length := by have := (HOUT.out (by omega)).2; omega
              have hal : a < L.length := by have := (HARG.out ho).2; omega
              rw [ho] at hx0
              rw [pin_out hno, hoo] at hx1
              rw [pin_arg hno, haa, wrap_u32 (by omega) (by omega)] at hx2
              have HA2 := Lib.hid HA.out
              rw [aF_alt HND.out ho, hoo, haa, Int.toNat_natCast, Int.toNat_natCast] at HA2
              go_wp2_with fail
              have HC2 := Lib.hid (AR.capAt HQ1.out HC1.out HCB1.out HPU.out)
              refine (HIH.out k (by omega) w2 _ _ pool1 out t1 o C HQ2.out HC2.out HCB1.out HT1.out hol HL2.out.1).mono ?_
              rintro e w3 ⟨mc3, new3, pool3, t3, rfl, hAR3⟩
              have HAR3 := Lib.hid hAR3
              have HPG3 := Lib.hid (HP.out.below hAR3.ms.bl)
              obtain ⟨_, _, _, _, _, hpi3⟩ := HPG3.out
              obtain ⟨_, _, -, -, hy2, -, -, -⟩ := hpi3 pc1 hp1
              rw [pin_arg hno, haa, wrap_u32 (by omega) (by omega)] at hy2
              clear hAR3 hpi3 hx0 hx1 hx2
              go_wp2_with fail
              go_step3
              have HF := Lib.hid (HAR2.out.trans (by rw [List.append_assoc] at HAR3; exact HAR3.out))
              refine ⟨rfl, fr_intro a t3 rfl (Lib.hid ⟨k, _, _, mc3, pool3, HF.out, ?_, hal, by omega, ?_⟩), ?_⟩
              · have e2 : (E ++ (new ++ [(pc1, (none : Option Th))])).map Prod.fst = E.map Prod.fst ++ A0.map Prod.fst ++ [pc1] := by rw [← List.append_assoc, List.map_append, HD.out]; rfl
                rw [← HA2.out, e2]
                simp
              · have := HF.out.ms.len
                have := HL2.out
                simp only [List.length_append] at *
                omega
              · have a1 := HQ1.out.lenAt; have a2 := HF.out.ms.lenAt; have a3 := HL2.out.2; rw [hlen] at a1
                simp only [List.length_append] at *
                rw [a1, a2]; omega
            ·
              have hno : ¬ ((ins L pc1).f0 = 4 ∨ (ins L pc1).f0 = 5) := by omega
              obtain ⟨o, hoo⟩ : ∃ o : Nat, (ins L pc1).f1 = (o : Int) := ⟨(ins L pc1).f1.toNat, by have := (HOUT.out (by omega)).1; omega⟩
              have hol : o < L.length := by have := (HOUT.out (by omega)).2; omega
              obtain ⟨a0, a1⟩ := HA3.out pc1 hp1 ho
              obtain ⟨kk, hkk⟩ := HMT.out _ a0 a1
              have HA2 := Lib.hid HA.out
              rw [aF_emp HND.out ho, hoo, Int.toNat_natCast] at HA2
              generalize haa : (ins L pc1).f2 = a at *
              rw [ho] at hx0
              rw [pin_out hno, hoo] at hx1
              rw [pin_arg hno, haa, wrap_u32 (by omega) (by omega)] at hx2
              have hmq : ∀ nn, Calls Tryd.prog 56 #[.int .u64 F, .int .u8 a] (w2.drewN nn) fun e w' => e = .returned (.bool (holds cond a)) ∧ ∃ m, w' = w2.drewN m := fun nn => Calls.quiet_of ((regexp_lazyFlag_match.calls kk F a _ _ hkk).mono fun _ _ ⟨he, hw⟩ => ⟨he, hw.out⟩)
              have HMQ := Lib.hid hmq
              have a256 : a % 256 = a := by omega
              clear hmq hkk
              go_wp2_with fail
              go_quiet ((go_at_call 56; exact HMQ.out _))
              have HAR3 := Lib.hid (HAR2.out.drewN nq)
              generalize w2.drewN nq = w3 at *
              have HPG3 := Lib.hid (HP.out.below HAR3.out.ms.bl)
              obtain ⟨_, _, _, _, _, hpi3⟩ := HPG3.out
              obtain ⟨_, _, -, hy1, -, -, -, -⟩ := hpi3 pc1 hp1
              rw [pin_out hno, hoo] at hy1
              clear hpi3 hx0 hx1 hx2 hz1 hzl hfm hfs hfd hp0
              by_cases hho : holds cond a = true
              · rw [if_pos hho] at HA2
                rw [hho]
                go_wp2_with fail
                go_step3
                refine ⟨rfl, fr_intro o t1 rfl (Lib.hid ⟨k, A0 ++ [(pc1, none)], new ++ [(pc1, none)], _, pool1, HAR3.out, ?_, hol, by omega, by rw [← List.append_assoc]; exact HL2.out.1⟩), ?_⟩
                · rw [← HA2.out]; simp
                · have a1 := HQ1.out.lenAt; have a2 := HAR3.out.ms.lenAt; have a3 := HL2.out.2; rw [hlen] at a1
                  simp only [List.length_append] at *
                  rw [a1, a2]; omega
              · rw [if_neg hho] at HA2
                rw [show holds cond a = false by simpa using hho]
                go_wp2_with fail
                simp only [Exit.jump]
                go_ret
                exact ⟨_, _, _, t1, rfl, HA2.out ▸ HAR3.out⟩
            ·
              have hno : ¬ ((ins L pc1).f0 = 4 ∨ (ins L pc1).f0 = 5) := by omega
              obtain ⟨o, hoo⟩ : ∃ o : Nat, (ins L pc1).f1 = (o : Int) := ⟨(ins L pc1).f1.toNat, by have := (HOUT.out (by omega)).1; omega⟩
              have hol : o < L.length := by have := (HOUT.out (by omega)).2; omega
              rw [ho] at hx0
              rw [pin_out hno, hoo] at hx1
              have HA2 := HA.out
              rw [aF_nop HND.out ho, hoo, Int.toNat_natCast] at HA2
              go_wp2_with fail
              go_step3
              refine ⟨rfl, fr_intro o t1 rfl (Lib.hid ⟨k, A0 ++ [(pc1, none)], new ++ [(pc1, none)], _, pool1, HAR2.out, ?_, hol, by omega, by rw [← List.append_assoc]; exact HL2.out.1⟩), ?_⟩
              · rw [← HA2]; simp
              · have a1 := HQ1.out.lenAt; have a2 := HQ2.out.lenAt; have a3 := HL2.out.2; rw [hlen] at a1; rw [a3.1] at a2; rw [a1, a2]; omega
            ·
              have hno : ¬ ((ins L pc1).f0 = 4 ∨ (ins L pc1).f0 = 5) := by omega
              obtain ⟨o, hoo⟩ : ∃ o : Nat, (ins L pc1).f1 = (o : Int) := ⟨(ins L pc1).f1.toNat, by have := (HOUT.out (by omega)).1; omega⟩
              have hol : o < L.length := by have := (HOUT.out (by omega)).2; omega
              obtain ⟨g0, g1⟩ := HG2.out pc1 hp1 ho
              obtain ⟨a, haa⟩ : ∃ a : Nat, (ins L pc1).f2 = (a : Int) := ⟨(ins L pc1).f2.toNat, by omega⟩
              rw [ho] at hx0
              rw [pin_out hno, hoo] at hx1
              rw [pin_arg hno, haa, wrap_u32 (by omega) (by omega)] at hx2
              have ha32 : (a : Int) < 4294967296 := by omega
              have HA2 := Lib.hid HA.out
              rw [aF_cap HND.out ho, hoo, haa, Int.toNat_natCast, Int.toNat_natCast] at HA2
              have HC2 := Lib.hid (AR.capAt HQ1.out HC1.out HCB1.out HPU.out)
              have hCn : C.length = n := by obtain ⟨_, _, h, _⟩ := HC2.out; exact h
              have hncc := HQ2.out.nc
              have hcm := HQ2.out.cm
              have hfc : ∀ i, w2.frozen? ⟨cb, i, none⟩ = false := by obtain ⟨_, h, _⟩ := HC2.out; exact blk_frozen h
              by_cases han : a < n
              · have hcx := HC2.out.cell (show a < C.length by omega)
                obtain ⟨cv, hcv⟩ : ∃ cv, cv = C[a]'(by omega) := ⟨_, rfl⟩
                rw [← hcv] at hcx
                have HCV := Lib.hid hcv
                clear hcv
                have hd1 : decide ((a : Int) < (n : Int)) = true := decide_eq_true (by omega)
                have hcba : (ad.add (pc1 * 4)).block ≠ cb := by
                  obtain ⟨_, _, _, _, _, hq⟩ := HP.out
                  obtain ⟨_, _, hq0, _⟩ := hq pc1 hp1
                  have := World.block_lt_of_cell? W0 _ hq0
                  omega
                have hcba2 := Ne.symm hcba
                go_wp2_with fail
                have HCS := Lib.hid (HC2.out.set han pos)
                have HQS : Hid (MS L.length W0 (w2.setCell ⟨cb, a, none⟩ (.int .i64 pos)) p mb qo sp de lf S n cc F (up mc1 (qo + 1) (.slice (some ⟨de, 0, none⟩) (len + 1) S)) (E ++ new ++ [(pc1, none)]) pool1 ((none : Option Th).toList ++ (t1.toList ++ out))) := Lib.hid (HQ2.out.cap HC2.out ((Fr.refl _ w2).set _ rfl) hcl HCS.out)
                refine (HIH.out k (by omega) (w2.setCell ⟨cb, a, none⟩ (.int .i64 pos)) _ _ pool1 (t1.toList ++ out) none o (C.set a pos) HQS.out HCS.out HCB1.out (fun x h => by cases h) hol HL2.out.1).mono ?_
                rintro e w3 ⟨mc3, new3, pool3, t3, rfl, hAR3⟩
                have HAR3 := Lib.hid hAR3
                have HC3 := Lib.hid (AR.capAt HQS.out HCS.out HCB1.out hAR3)
                have hcy := HC3.out.cell (show a < (C.set a pos).length by simp; omega)
                rw [List.getElem_set_self] at hcy
                have hfy : ∀ i, w3.frozen? ⟨cb, i, none⟩ = false := by obtain ⟨_, h, _⟩ := HC3.out; exact blk_frozen h
                have HPG3 := Lib.hid (HP.out.below hAR3.ms.bl)
                obtain ⟨_, _, _, _, _, hpi3⟩ := HPG3.out
                obtain ⟨_, _, -, -, hy2, -, -, -⟩ := hpi3 pc1 hp1
                rw [pin_arg hno, haa, wrap_u32 (by omega) (by omega)] at hy2
                clear hAR3 hpi3 hx0 hx1 hx2 hcx hfc hz1 hzl hfm hfs hfd hp0
                go_wp2_with fail
                simp only [Exit.jump]
                go_ret
                have HF := Lib.hid (HAR2.out.trans (by have := AR.capt HQ2.out HC2.out HCB1.out hcl han (show a < C.length by omega) HAR3.out; rw [List.append_assoc] at this; exact this))
                have e2 : (E ++ (new ++ [(pc1, (none : Option Th))])).map Prod.fst = E.map Prod.fst ++ A0.map Prod.fst ++ [pc1] := by rw [← List.append_assoc, List.map_append, HD.out]; rfl
                have e3 := HA2.out
                have HF2 := HF.out
                rw [e2, List.append_assoc, List.singleton_append, e3] at HF2
                rw [← HCV.out] at HF2
                exact ⟨_, _, _, t1, rfl, HF2⟩
              · have hset : C.set a pos = C := List.set_eq_of_length_le (by omega)
                rw [hset] at HA2
                have hd1 : decide ((a : Int) < (n : Int)) = false := decide_eq_false (by omega)
                go_wp2_with fail
                go_step3
                refine ⟨rfl, fr_intro o t1 rfl (Lib.hid ⟨k, A0 ++ [(pc1, none)], new ++ [(pc1, none)], _, pool1, HAR2.out, ?_, hol, by omega, by rw [← List.append_assoc]; exact HL2.out.1⟩), ?_⟩
                · rw [← HA2.out]; simp
                · have a1 := HQ1.out.lenAt; have a2 := HQ2.out.lenAt; have a3 := HL2.out.2; rw [hlen] at a1; rw [a3.1] at a2; rw [a1, a2]; omega
            ·
              have HA2 := Lib.hid HA.out
              rw [aF_leaf HND.out (by omega)] at HA2
              have HC2 := Lib.hid (AR.capAt HQ1.out HC1.out HCB1.out HPU.out)
              have hncc := HQ2.out.nc
              have hcm := HQ2.out.cm
              generalize hopg : (ins L pc1).f0 = op at *
              have f5 : (op == 5) = false := by rw [beq_eq_false_iff_ne]; omega
              have f0 : (op == 0) = false := by rw [beq_eq_false_iff_ne]; omega
              have f1 : (op == 1) = false := by rw [beq_eq_false_iff_ne]; omega
              have f3 : (op == 3) = false := by rw [beq_eq_false_iff_ne]; omega
              have f6 : (op == 6) = false := by rw [beq_eq_false_iff_ne]; omega
              have f2 : (op == 2) = false := by rw [beq_eq_false_iff_ne]; omega
              clear HOUT HARG hopg
              go_upto_region 32 with (fail)
              go_upto_if 187 with (fail)
              go_cut [187] (fun b w' => b = .bool true ∧ w2 = w')
              case first =>
                rcases ho with rfl | rfl | rfl | rfl | rfl
                all_goals
                  go_wp2_with fail
                  go_meet
                  exact ⟨rfl, rfl⟩
              case rest =>
                obtain ⟨rfl, rfl⟩ := hcut
                clear f5 f0 f1 f3 f6 f2 ho op0 op1 op2
                cases t1 with
                | none =>
                  obtain ⟨mcb, hm8⟩ := HQ2.out.m8
                  simp only [ptrT]
                  go_wp2_with fail
                  · refine (alloc_calls w2 mb W0.heap.size n cc mcb _ pool1 HQ2.out.ma HQ2.out.pl hm8 HQ2.out.nc HQ2.out.cm HQ2.out.pm (ad.add (pc1 * 4))).mono ?_
                    rintro e w3 ⟨x, pool3, pv3, C3, rfl, hth3, hma3, hor, hown3, hob3⟩
                    have HTH3 := Lib.hid hth3
                    have HOB := Lib.hid hob3
                    have HM3 := Lib.hid (alloc_ms HQ2.out HC2.out HCB1.out hth3 hma3 hor hown3)
                    have HRR := Lib.hid HM3.out.2.2
                    clear hth3 hma3 hor hown3 hob3 hx0 hx1 hx2 hz1 hzl hfm hfs hfd hp0
                    by_cases hn0 : n = 0
                    · have hd1 : decide ((n : Int) > 0) = false := decide_eq_false (by omega)
                      have hd2 : decide (0 < (n : Int)) = false := decide_eq_false (by omega)
                      have hCC : C3 = C := by
                        obtain ⟨_, _, h3, _⟩ := HTH3.out.2
                        obtain ⟨_, _, h4, _⟩ := HC2.out
                        rw [List.eq_nil_of_length_eq_zero (by omega : C3.length = 0), List.eq_nil_of_length_eq_zero (by omega : C.length = 0)]
                      subst hCC
                      go_wp2_with fail
                      go_quiet (fail)
                      have HM4 := Lib.hid (HM3.out.1.drewN nq)
                      have HF4 := Lib.hid (HM3.out.2.1.drewN nq)
                      have HT4 := Lib.hid (HTH3.out.keep (w' := w3.drewN nq) rfl rfl)
                      clear HM3 HTH3
                      generalize w3.drewN nq = w4 at *
                      obtain ⟨c5, hz5⟩ := HM4.out.dcell (len * 2 + 1) (by omega)
                      have hfd4 := HM4.out.cells.2.2.2.2.2.2
                      go_wp2_with fail
                      simp only [Exit.jump]
                      go_ret
                      have HF := HAR.out.trans (AR.leafN HPU.out HM4.out HF4.out HRR.out.1 HRR.out.2.1 HOB.out HT4.out)
                      rw [HA2.out, hlen] at HF
                      exact ⟨_, _, _, none, rfl, HF⟩
                    · have hd1 : decide ((n : Int) > 0) = true := decide_eq_true (by omega)
                      have hd2 : decide (0 < (n : Int)) = true := decide_eq_true (by omega)
                      have hxc := HRR.out.2.2.1
                      have hxc2 := Ne.symm hxc
                      obtain ⟨hy0, hy1⟩ := blk2 HTH3.out.1
                      have hn1 : 0 < n := by omega
                      have hpe : ∀ nn, (binOp .neq 141 (.pointer (some ⟨x.2, 0, none⟩)) (.pointer (some ⟨cb, 0, none⟩))).run Tryd.prog (w3.drewN nn) = .ok (.bool true) (w3.drewN nn) := by
                        intro nn
                        obtain ⟨_, q1, _⟩ := HTH3.out.2
                        obtain ⟨_, q2, _⟩ := HRR.out.2.2.2.1
                        exact neq_other _ (fun e => hxc (by injection e)) q1 q2
                      go_wp2_with fail
                      go_quiet (fail)
                      have HM4 := Lib.hid (HM3.out.1.drewN nq)
                      have HF4 := Lib.hid (HM3.out.2.1.drewN nq)
                      have HT4 := Lib.hid (HTH3.out.keep (w' := w3.drewN nq) rfl rfl)
                      have HC4 := Lib.hid (HM3.out.2.2.2.2.2.1.keep (w' := w3.drewN nq) rfl)
                      clear HM3 HTH3 hy0 hy1 hpe
                      generalize w3.drewN nq = w4 at *
                      obtain ⟨hy0, hy1⟩ := blk2 HT4.out.1
                      obtain ⟨w5, hrun5, hfr5, hc5⟩ := run_copy_cap w4 x.2 cb n cc C C3 HT4.out.2 HC4.out
                      have HFR5 := Lib.hid hfr5
                      have HC5 := Lib.hid hc5
                      clear hfr5 hc5
                      have HM5 := Lib.hid (HM4.out.cap HT4.out.2 HFR5.out HRR.out.2.2.2.2 HC5.out)
                      obtain ⟨c5, hz5⟩ := HM5.out.dcell (len * 2 + 1) (by omega)
                      have hfd4 := HM5.out.cells.2.2.2.2.2.2
                      go_wp2_with fail
                      simp only [Exit.jump]
                      go_ret
                      have hF5 : Fr (touched mb sp de pool1 none) w2 w5 := HF4.out.via HFR5.out (HRR.out.2.1.elim (fun h => .inl ⟨x, h, rfl⟩) (fun h => .inr h.2))
                      have hT5 : ThAt w5 n cc x (.pointer (some (ad.add (pc1 * 4)))) C := ⟨(HFR5.out.block _ (blk_lt HT4.out.1) HT4.out.ne).trans HT4.out.1, HC5.out⟩
                      have HF := HAR.out.trans (AR.leafN HPU.out HM5.out hF5 HRR.out.1 HRR.out.2.1 HOB.out hT5)
                      rw [HA2.out, hlen] at HF
                      exact ⟨_, _, _, none, rfl, HF⟩
                | some x =>
                  have hxcb := HT1.out x rfl
                  simp only [ptrT]
                  obtain ⟨i0, C0, hth⟩ := HQ2.out.th x (by simp)
                  have HTH := Lib.hid (show ThAt w2 n cc x i0 C from ⟨hth.1, by rw [hxcb]; exact HC2.out⟩)
                  have hlx : W0.heap.size ≤ x.1 := (HQ2.out.lo.2.2.2 x (by simp)).1
                  obtain ⟨hy0, hy1⟩ := blk2 hth.1
                  have hfx := blk_frozen hth.1 0
                  have HXN := Lib.hid (HQ2.out.th_ne hth)
                  obtain ⟨⟨xn1, -⟩, ⟨xn2, -⟩, ⟨xn3, -⟩, xn4, -⟩ := HXN.out
                  have xm1 := Ne.symm xn1
                  have xm2 := Ne.symm xn2
                  have xm3 := Ne.symm xn3
                  have xm4 := Ne.symm xn4
                  have HM3 := Lib.hid (HQ2.out.inst hth hlx (.pointer (some (ad.add (pc1 * 4)))))
                  have HT3 := Lib.hid (HTH.out.set (.pointer (some (ad.add (pc1 * 4)))))
                  have HF3 := Lib.hid ((Fr.refl (fun b => b = x.1) w2).set (g := x.1) (j := 0) (.pointer (some (ad.add (pc1 * 4)))) rfl)
                  clear hth
                  go_wp2_with fail
                  · generalize w2.setCell ⟨x.1, 0, none⟩ (.pointer (some (ad.add (pc1 * 4)))) = w3 at *
                    clear hy0 hy1 hfx hx0 hx1 hx2 hz1 hzl hfm hfs hfd hp0
                    obtain ⟨hy0, hy1⟩ := blk2 HT3.out.1
                    rw [hxcb] at hy1
                    by_cases hn0 : n = 0
                    · have hd1 : decide ((n : Int) > 0) = false := decide_eq_false (by omega)
                      have hd2 : decide (0 < (n : Int)) = false := decide_eq_false (by omega)
                      go_quiet (fail)
                      have HM4 := Lib.hid (HM3.out.drewN nq)
                      have HF4 := Lib.hid (HF3.out.drewN nq)
                      have HT4 := Lib.hid (HT3.out.keep (w' := w3.drewN nq) rfl rfl)
                      try clear hpe
                      clear HM3 HT3 HF3 hy0 hy1
                      generalize w3.drewN nq = w4 at *
                      obtain ⟨c5, hz5⟩ := HM4.out.dcell (len * 2 + 1) (by omega)
                      have hfd4 := HM4.out.cells.2.2.2.2.2.2
                      go_wp2_with fail
                      simp only [Exit.jump]
                      go_ret
                      have HF := HAR.out.trans (AR.leafT HPU.out HM4.out HF4.out HT4.out)
                      rw [HA2.out, hlen] at HF
                      exact ⟨_, _, _, none, rfl, HF⟩
                    · have hd1 : decide ((n : Int) > 0) = true := decide_eq_true (by omega)
                      have hd2 : decide (0 < (n : Int)) = true := decide_eq_true (by omega)
                      have hn1 : 0 < n := by omega
                      have hpe : ∀ nn, (binOp .neq 141 (.pointer (some ⟨cb, 0, none⟩)) (.pointer (some ⟨cb, 0, none⟩))).run Tryd.prog (w3.drewN nn) = .ok (.bool false) (w3.drewN nn) := fun nn => neq_same _ _
                      go_quiet (fail)
                      have HM4 := Lib.hid (HM3.out.drewN nq)
                      have HF4 := Lib.hid (HF3.out.drewN nq)
                      have HT4 := Lib.hid (HT3.out.keep (w' := w3.drewN nq) rfl rfl)
                      try clear hpe
                      clear HM3 HT3 HF3 hy0 hy1
                      generalize w3.drewN nq = w4 at *
                      obtain ⟨c5, hz5⟩ := HM4.out.dcell (len * 2 + 1) (by omega)
                      have hfd4 := HM4.out.cells.2.2.2.2.2.2
                      go_wp2_with fail
                      simp only [Exit.jump]
                      go_ret
                      have HF := HAR.out.trans (AR.leafT HPU.out HM4.out HF4.out HT4.out)
                      rw [HA2.out, hlen] at HF
                      exact ⟨_, _, _, none, rfl, HF⟩
end Go.Proofs.YtmccgfjhmbioeaaDoor.PgFnPgThreads
