import Derived.Test.YteoljppcafakpaaDoorMxFnPgSpan
import Derived.Test.YteoljppcafakpaaDoorSxFnPgSpan
namespace Go.Proofs.YteoljppcafakpaaDoor.PgFnPgSpan
open Go.RowKit Go.Proofs.YteoljppcafakpaaDoor.EvN Go.Proofs.YteoljppcafakpaaDoor.Row Go.Proofs.YteoljppcafakpaaDoor.Sf Go.Proofs.YteoljppcafakpaaDoor.PFnPgSpan Go.Proofs.YteoljppcafakpaaDoorW.PrintWords Go.Proofs.YteoljppcafakpaaDoorW.PrintLast Go.Proofs.YteoljppcafakpaaDoorW.PrintMore
set_option linter.unusedSimpArgs false
set_option linter.unusedVariables false
theorem dec_z (s : ByteArray) (i : Nat) : (dec s i).1 = -1 ↔ (dec s i).2 = 0 := by
  rw [dec_w]
  unfold dec
  by_cases h : s.size ≤ i
  · rw [if_pos h]; simp [h]
  · rw [if_neg h]
    simp only [h, iff_false]
    omega
theorem lastR_rng (s : ByteArray) (i : Nat) : -1 ≤ lastR s i ∧ lastR s i ≤ 1114111 := by
  unfold lastR
  split
  · omega
  · have := Lib.decodeLastL_rune (s.data.toList.take i)
    omega
theorem stepF_waits (L : List I) (long : Bool) (n : Nat) (c cond pos np : Int) : ∀ (RA A : List Ae) (m : Bool) (M : List Int), (∀ a ∈ A, a.2.isSome = waitsB (ins L a.1)) → ∀ a ∈ (stepF L long n c cond pos np RA (A, m, M)).1, a.2.isSome = waitsB (ins L a.1) := by
  intro RA
  induction RA with
  | nil => intro A m M h; exact h
  | cons a r ih =>
    intro A m M h
    obtain ⟨x, o⟩ := a
    cases o with
    | none => rw [stepF]; exact ih A m M h
    | some C =>
      rw [stepF]
      split
      · exact ih A m M h
      · split
        · cases long with
          | true => rw [if_pos rfl]; exact ih _ _ _ h
          | false => rw [if_neg (by decide)]; exact h
        · split
          · refine ih _ _ _ fun b hb => ?_
            rcases List.mem_append.1 hb with hb | hb
            · exact h b hb
            · exact aF_waits L cond np _ _ _ _ b hb
          · exact ih A m M h
structure PutI (L : List I) (W0 : World) (p mb lf z n cc : Nat) (ad : Addr) (mcb rb : Nat) (s : ByteArray) (mc : Nat → Value) (ra qo sp sq de rde pl : Nat) (mr : Nat → Value) (E : List En) (pool : List Th) (A : List Ae) (mt : Bool) (M : List Int) (F : Int) (wr : World) : Prop where
  si : SI L.length W0 p mb qo sp de lf z n cc F ad [] [] mcb ra rde pl mr wr none 0 wr mr E pool A mt M
  jx : JX z W0 sp de ra sq rde rb s wr mr
  wt : ∀ a ∈ A, a.2.isSome = waitsB (ins L a.1)
  m9 : mr 9 = mc 9
  m11 : mr 11 = mc 11
structure LoopI (L : List I) (W0 : World) (p mb lf z n cc : Nat) (ad : Addr) (mcb rb : Nat) (s : ByteArray) (long anch : Bool) (st : Nat) (Fin : Bool × List Int) (mc : Nat → Value) (i k : Nat) (last : Int) (ra qo sp sq de rde pl : Nat) (mr : Nat → Value) (E : List En) (pool : List Th) (A : List Ae) (mt : Bool) (M : List Int) (F : Int) (wr : World) : Prop where
  pi : PutI L W0 p mb lf z n cc ad mcb rb s mc ra qo sp sq de rde pl mr E pool A mt M F wr
  fin : mLoop L st long anch s k last i A mt M = Fin
  lr : -1 ≤ last ∧ last ≤ 1114111
  fl : ∀ x, 0 < x → x < 64 → ∃ k, regexp_lazyFlag_match.f k F x = some (holds (condZ last (dec s i).1) x)
  ile : i ≤ s.size
  fu : s.size + 2 ≤ k + i
  plb : pl ≤ L.length * i
def EndI (L : List I) (W0 : World) (mb n cc mcb : Nat) (mc : Nat → Value) (mt : Bool) (M : List Int) (w : World) : Prop :=
  Below W0.heap.size W0 w ∧ ∃ mr : Nat → Value, w.heap[mb]? = some (mach mr) ∧ mr 7 = .bool mt ∧ mr 8 = .slice (some ⟨mcb, 0, none⟩) n cc ∧ CapAt w n cc mcb M ∧ mr 9 = mc 9 ∧ mr 11 = mc 11
section
variable {L : List I} {W0 : World} {p mb lf z n cc : Nat} {ad : Addr} {mcb rb : Nat} {s : ByteArray} {mc : Nat → Value} {ra qo sp sq de rde pl : Nat} {mr : Nat → Value} {E : List En} {pool : List Th} {A : List Ae} {mt : Bool} {M : List Int} {F : Int} {wr w1 : World}
theorem PutI.kept {mr1 : Nat → Value} {E1 : List En} {pool1 : List Th} {A1 : List Ae} {mt1 : Bool} {M1 : List Int} {F1 : Int} (h : PutI L W0 p mb lf z n cc ad mcb rb s mc ra qo sp sq de rde pl mr E pool A mt M F wr)
    (k : SI L.length W0 p mb qo sp de lf z n cc F1 ad [] [] mcb ra rde pl mr wr none 0 w1 mr1 E1 pool1 A1 mt1 M1) (kp : Kpt sp de wr w1) (hw : ∀ a ∈ A1, a.2.isSome = waitsB (ins L a.1)) : PutI L W0 p mb lf z n cc ad mcb rb s mc ra qo sp sq de rde pl mr1 E1 pool1 A1 mt1 M1 F1 w1 := by
  have hq := h.si.rq
  obtain ⟨q1, q2⟩ := h.si.apartQ
  exact ⟨k.root (by have := k.pl; simpa using this), h.jx.keep kp (fun sa hs => q1 _ _ hs) (fun da hd => q2 _ _ hd) (k.mm ra (by omega) (by omega) (by omega)) (k.mm 0 (by omega) (by omega) (by omega)) (k.mm 10 (by omega) (by omega) (by omega)), hw, (k.mm 9 (by omega) (by omega) (by omega)).trans h.m9, (k.mm 11 (by omega) (by omega) (by omega)).trans h.m11⟩
theorem PutI.capm (h : PutI L W0 p mb lf z n cc ad mcb rb s mc ra qo sp sq de rde pl mr E pool A mt M F wr) (hn : 0 < n) (v : Int) : PutI L W0 p mb lf z n cc ad mcb rb s mc ra qo sp sq de rde pl mr E pool A mt (M.set 0 v) F (wr.setCell ⟨mcb, 0, none⟩ (.int .i64 v)) := by
  have k := h.si.capm (w1 := wr.setCell ⟨mcb, 0, none⟩ (.int .i64 v)) ((Fr.refl _ _).set _ rfl) (h.si.cp.set hn v)
  exact h.kept k k.kp h.wt
theorem PutI.grow (h : PutI L W0 p mb lf z n cc ad mcb rb s mc ra qo sp sq de rde pl mr E pool A mt M F wr) (hb : Below wr.heap.size wr w1) : PutI L W0 p mb lf z n cc ad mcb rb s mc ra qo sp sq de rde pl mr E pool A mt M F w1 := by
  have k := h.si.grow hb
  exact h.kept k k.kp h.wt
theorem PutI.drewN (h : PutI L W0 p mb lf z n cc ad mcb rb s mc ra qo sp sq de rde pl mr E pool A mt M F wr) (m : Nat) : PutI L W0 p mb lf z n cc ad mcb rb s mc ra qo sp sq de rde pl mr E pool A mt M F (wr.drewN m) := by
  have k := h.si.drewN m
  exact h.kept k k.kp h.wt
theorem PutI.flag (h : PutI L W0 p mb lf z n cc ad mcb rb s mc ra qo sp sq de rde pl mr E pool A mt M F wr) (hl : W0.heap.size ≤ lf) (F' : Int) : PutI L W0 p mb lf z n cc ad mcb rb s mc ra qo sp sq de rde pl mr E pool A mt M F' (wr.setCell ⟨lf, 0, none⟩ (.int .u64 F')) :=
  h.kept (h.si.flag (F' := F') hl) h.si.flagK h.wt
theorem PutI.add {stI ncp most : Int} (h : PutI L W0 p mb lf z n cc ad mcb rb s mc ra qo sp sq de rde pl mr E pool A mt M F wr) (hS : PSound L stI ncp most) (hm : L.length ≤ 2000) (cond : Int) (hmatch : ∀ a, 0 < a → a < 64 → ∃ k, regexp_lazyFlag_match.f k F a = some (holds cond a)) (hP : Prg W0 L p ad) (st : Nat) (hst : st < L.length) (pos : Int) :
    Calls Tryd.prog 74 #[.pointer (some ⟨mb, 0, none⟩), .pointer (some ⟨mb, qo, none⟩), .int .u32 (st : Int), .int .i64 pos, .slice (some ⟨mcb, 0, none⟩) n cc, .pointer (some ⟨lf, 0, none⟩), .pointer none] wr fun e w' =>
      ∃ mr1 E1 pool1 t1, e = .returned (ptrT t1) ∧ PutI L W0 p mb lf z n cc ad mcb rb s mc ra qo sp sq de rde pl mr1 E1 pool1 (A ++ aF L cond pos (L.length + 1) (A.map Prod.fst) st M) mt M F w' := by
  have h0 : MS L.length W0 wr p mb qo sp de lf z n cc F mr E pool ((none : Option Th).toList ++ []) := h.si.ms
  refine (madd_calls hS.leads hm (fun pc hp => (hS.op pc hp)) hS.arg3 (fun pc hpc h2 => by have := hS.arg2 pc hpc h2; have := hS.nc1; omega) cond F hmatch W0 p ad hP mb qo sp de lf z n cc mcb h.si.cl pos (L.length + 1) wr mr E pool [] none st M h0 h.si.cp (fun x hx => h.si.nm x (by simp [hx])) (fun x hx => by cases hx) hst (by omega)).mono ?_
  rintro e w' ⟨mr1, new, pool1, t1, rfl, har⟩
  have ht1 : t1 = none := by rcases har.tt with e | e <;> exact e
  subst ht1
  have k := h.si.add_ har
  rw [h.si.rE.fst] at k
  refine ⟨mr1, E ++ new, pool1, none, rfl, h.kept k k.kp fun a ha => ?_⟩
  rcases List.mem_append.1 ha with ha | ha
  · exact h.wt a ha
  · exact aF_waits _ _ _ _ _ _ _ a ha
theorem PutI.step {stI ncp most : Int} (h : PutI L W0 p mb lf z n cc ad mcb rb s mc ra qo sp sq de rde pl mr E pool A mt M F wr) (hS : PSound L stI ncp most) (hm : L.length ≤ 2000) (cond : Int) (hmatch : ∀ a, 0 < a → a < 64 → ∃ k, regexp_lazyFlag_match.f k F a = some (holds cond a)) (hP : Prg W0 L p ad) (hF : Folds W0) (hn : n = 0 ∨ 2 ≤ n) (long : Bool) (hre : W0.cell? ⟨rb, 15, none⟩ = some (.bool long)) (hlg : long = true) (hpl : pl + L.length ≤ 1900000) (c pos np : Int) :
    Calls Tryd.prog 55 #[.pointer (some ⟨mb, 0, none⟩), .pointer (some ⟨mb, qo, none⟩), .pointer (some ⟨mb, ra, none⟩), .int .i64 pos, .int .i64 np, .int .i32 c, .pointer (some ⟨lf, 0, none⟩)] wr fun e w' =>
      ∃ mr1 E1 pool1, e = .returned (.tuple #[]) ∧ PutI L W0 p mb lf z n cc ad mcb rb s mc qo ra sq sp rde de (pl + L.length) mr1 E1 pool1 (stepF L long n c cond pos np A ([], mt, M)).1 (stepF L long n c cond pos np A ([], mt, M)).2.1 (stepF L long n c cond pos np A ([], mt, M)).2.2 F w' := by
  have hq := h.si.rq
  obtain ⟨da, d1, d2, d3⟩ := h.si.ms.da
  obtain ⟨q1, q2⟩ := h.si.apartQ
  obtain ⟨sa', s1', _⟩ := h.jx.qs
  have hlen := h.si.ms.len
  have hls := h.si.ms.ls
  have hpp : pool.length ≤ pl := by have := h.si.pl; simpa using this
  refine (mstep_calls hS hm cond F hmatch W0 p ad hP hF mb ra sq rde lf z n cc mcb qo de rb pl hn long hre c pos np E A mr wr pool mt M h.jx.m0 da d1 d3 ⟨Ne.symm (q1 _ _ s1'), Ne.symm h.jx.qn.2⟩ (fun e he => ⟨h.si.ms.fi.lt _ (List.mem_map_of_mem he), fun hsm => by
    obtain ⟨a, ha, e1, e2⟩ := rel_mem h.si.rE e he
    rw [e1, ← h.wt a ha, ← e2]; exact hsm⟩) (h.si.turn h.jx hpp) (by omega) (by omega) hlg).mono ?_
  rintro e w' ⟨mr1, E1, pool1, rfl, k⟩
  have hp1 : pool1.length ≤ pl + L.length := by have := k.pl; simp at this; omega
  refine ⟨mr1, E1, pool1, rfl, k.root hp1, h.si.turned h.jx k, stepF_waits L long n c cond pos np A [] mt M (fun a h => by cases h), ?_, ?_⟩
  · exact ((k.mm 9 (by omega) (by omega) (by omega)).trans (up_ne _ _ (by omega))).trans h.m9
  · exact ((k.mm 11 (by omega) (by omega) (by omega)).trans (up_ne _ _ (by omega))).trans h.m11
theorem PutI.clear (h : PutI L W0 p mb lf z n cc ad mcb rb s mc ra qo sp sq de rde pl mr E pool A mt M F wr) (hpl : pl + L.length ≤ 1900000) :
    Calls Tryd.prog 81 #[.pointer (some ⟨mb, 0, none⟩), .pointer (some ⟨mb, qo, none⟩)] wr fun e w' => e = .returned (.tuple #[]) ∧ EndI L W0 mb n cc mcb mc mt M w' := by
  have hq := h.si.rq
  obtain ⟨da, d1, d2, d3⟩ := h.si.ms.da
  obtain ⟨q1, q2⟩ := h.si.apartQ
  obtain ⟨sa', s1', _⟩ := h.jx.qs
  have hlen := h.si.ms.len
  have hpp : pool.length ≤ pl := by have := h.si.pl; simpa using this
  refine (clear_calls (h.si.turn h.jx hpp) da d1 d3 ⟨Ne.symm (q1 _ _ s1'), Ne.symm h.jx.qn.2⟩ (by omega)).mono ?_
  rintro e w' ⟨mr1, pool1, rfl, k⟩
  refine ⟨rfl, k.ms.bl, mr1, k.ms.ma, k.m7, k.m8, k.cp, ?_, ?_⟩
  · exact ((k.mm 9 (by omega) (by omega) (by omega)).trans (up_ne _ _ (by omega))).trans h.m9
  · exact ((k.mm 11 (by omega) (by omega) (by omega)).trans (up_ne _ _ (by omega))).trans h.m11
theorem PutI.clear0 (h : PutI L W0 p mb lf z n cc ad mcb rb s mc ra qo sp sq de rde pl mr [] pool [] mt M F wr) (hpl : pl + L.length ≤ 1900000) :
    Calls Tryd.prog 81 #[.pointer (some ⟨mb, 0, none⟩), .pointer (some ⟨mb, ra, none⟩)] wr fun e w' => e = .returned (.tuple #[]) ∧ EndI L W0 mb n cc mcb mc mt M w' := by
  have hq := h.si.rq
  obtain ⟨da, d1, d2⟩ := h.jx.qd
  obtain ⟨q1, q2⟩ := h.si.apartQ
  have hpp : pool.length ≤ pl := by have := h.si.pl; simpa using this
  refine (clear_calls h.si da d1 (fun i e he => by simp at he) ⟨q2 _ _ d1, h.jx.qn.2⟩ (by simp; omega)).mono ?_
  rintro e w' ⟨mr1, pool1, rfl, k⟩
  refine ⟨rfl, k.ms.bl, mr1, k.ms.ma, k.m7, k.m8, k.cp, ?_, ?_⟩
  · exact ((k.mm 9 (by omega) (by omega) (by omega)).trans (up_ne _ _ (by omega))).trans h.m9
  · exact ((k.mm 11 (by omega) (by omega) (by omega)).trans (up_ne _ _ (by omega))).trans h.m11
theorem LoopI.next {long anch : Bool} {st : Nat} {Fin : Bool × List Int} {i k : Nat} {last : Int} {A1 A2 : List Ae} {M1 M2 : List Int} {mt2 : Bool}
    (h : LoopI L W0 p mb lf z n cc ad mcb rb s long anch st Fin mc i (k + 1) last ra qo sp sq de rde pl mr E pool A mt M F wr) (hbr : ¬ (A = [] ∧ ((anch = true ∧ i ≠ 0) ∨ mt = true)))
    (hM1 : M1 = if mt = true then M else M.set 0 (i : Int)) (hA1 : A1 = if mt = true then A else A ++ aF L (condZ last (dec s i).1) (i : Int) (L.length + 1) (A.map Prod.fst) st M1)
    (hr : stepF L long n (dec s i).1 (condZ (dec s i).1 (dec s (i + (dec s i).2)).1) (i : Int) ((i + (dec s i).2 : Nat) : Int) A1 ([], mt, M1) = (A2, mt2, M2)) :
    ((dec s i).2 = 0 → (mt2, M2) = Fin) ∧ ((dec s i).2 ≠ 0 → n = 0 → mt2 = true → (mt2, M2) = Fin) ∧ ((dec s i).2 ≠ 0 → ¬ (n = 0 ∧ mt2 = true) → mLoop L st long anch s k (dec s i).1 (i + (dec s i).2) A2 mt2 M2 = Fin) := by
  have hML : M.length = n := by obtain ⟨_, _, h, _⟩ := h.pi.si.cp; exact h
  have hf := h.fin
  rw [mLoop, if_neg hbr] at hf
  simp only [← hM1] at hf
  rw [← hA1, hML, hr] at hf
  refine ⟨fun h0 => ?_, fun h0 h1 h2 => ?_, fun h0 h1 => ?_⟩
  · rw [if_pos h0] at hf; exact hf
  · rw [if_neg h0, if_pos ⟨h1, h2⟩] at hf; exact hf
  · rw [if_neg h0, if_neg h1] at hf; exact hf
end
end Go.Proofs.YteoljppcafakpaaDoor.PgFnPgSpan
