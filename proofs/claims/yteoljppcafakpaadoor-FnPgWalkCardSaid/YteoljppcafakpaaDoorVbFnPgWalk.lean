import Derived.Test.YteoljppcafakpaaDoorVaFnPgWalk
namespace Go.Proofs.YteoljppcafakpaaDoor.PgFnPgWalk
open Go.RowKit Go.Proofs.YteoljppcafakpaaDoor.EvN Go.Proofs.YteoljppcafakpaaDoor.Row Go.Proofs.YteoljppcafakpaaDoor.PFnPgWalk Go.Proofs.YteoljppcafakpaaDoorW.PrintWords Go.Proofs.YteoljppcafakpaaDoorW.PrintLast Go.Proofs.YteoljppcafakpaaDoorW.PrintMore
abbrev Ae := Nat × Option (List Int)
def aF (L : List I) (cond pos : Int) : Nat → List Nat → Nat → List Int → List Ae
  | 0, _, _, _ => []
  | n + 1, D, pc, C =>
    if pc = 0 ∨ pc ∈ D then []
    else if (ins L pc).f0 = 0 then
      (pc, none) :: (aF L cond pos n (D ++ [pc]) (ins L pc).f1.toNat C ++ aF L cond pos n (D ++ pc :: (aF L cond pos n (D ++ [pc]) (ins L pc).f1.toNat C).map Prod.fst) (ins L pc).f2.toNat C)
    else if (ins L pc).f0 = 6 then (pc, none) :: aF L cond pos n (D ++ [pc]) (ins L pc).f1.toNat C
    else if (ins L pc).f0 = 2 then (pc, none) :: aF L cond pos n (D ++ [pc]) (ins L pc).f1.toNat (C.set (ins L pc).f2.toNat pos)
    else if (ins L pc).f0 = 3 then (pc, none) :: (if holds cond (ins L pc).f2 = true then aF L cond pos n (D ++ [pc]) (ins L pc).f1.toNat C else [])
    else if (ins L pc).f0 = 5 then [(pc, none)]
    else [(pc, some C)]
theorem aF_rF (L : List I) (cond pos : Int) : ∀ (n : Nat) (D : List Nat) (pc : Nat) (C : List Int), D ++ (aF L cond pos n D pc C).map Prod.fst = rF L cond n D pc := by
  intro n
  induction n with
  | zero => intro D pc C; simp [aF, rF]
  | succ n ih =>
    intro D pc C
    rw [aF, rF]
    by_cases h0 : pc = 0 ∨ pc ∈ D
    · rw [if_pos h0, if_pos h0]; simp
    · rw [if_neg h0, if_neg h0]
      by_cases g0 : (ins L pc).f0 = 0
      · rw [if_pos g0, if_pos g0]
        have h1 := ih (D ++ [pc]) (ins L pc).f1.toNat C
        have h2 := ih (D ++ pc :: (aF L cond pos n (D ++ [pc]) (ins L pc).f1.toNat C).map Prod.fst) (ins L pc).f2.toNat C
        have e : D ++ pc :: (aF L cond pos n (D ++ [pc]) (ins L pc).f1.toNat C).map Prod.fst = rF L cond n (D ++ [pc]) (ins L pc).f1.toNat := by rw [← h1]; simp
        rw [e] at h2
        rw [← h2, e, ← h1]
        simp
      · rw [if_neg g0, if_neg g0]
        by_cases g6 : (ins L pc).f0 = 6
        · rw [if_pos g6, if_pos (.inr g6), ← ih (D ++ [pc]) (ins L pc).f1.toNat C]; simp
        · rw [if_neg g6]
          by_cases g2 : (ins L pc).f0 = 2
          · rw [if_pos g2, if_pos (.inl g2), ← ih (D ++ [pc]) (ins L pc).f1.toNat (C.set (ins L pc).f2.toNat pos)]; simp
          · rw [if_neg g2, if_neg (show ¬ ((ins L pc).f0 = 2 ∨ (ins L pc).f0 = 6) from fun e => e.elim g2 g6)]
            by_cases g3 : (ins L pc).f0 = 3
            · rw [if_pos g3, if_pos g3]
              split
              · rw [← ih (D ++ [pc]) (ins L pc).f1.toNat C]; simp
              · simp
            · rw [if_neg g3, if_neg g3]
              split <;> simp
abbrev En := Nat × Option Th
def thr (E : List En) : List Th := E.filterMap (·.2)
theorem thr_append (E F : List En) : thr (E ++ F) = thr E ++ thr F := by simp [thr]
def ptrT : Option Th → Value
  | none => .pointer none
  | some x => .pointer (some ⟨x.1, 0, none⟩)
def RelE (w : World) (ad : Addr) (n cc : Nat) (e : En) (a : Ae) : Prop :=
  e.1 = a.1 ∧ match e.2, a.2 with
    | none, none => True
    | some x, some C => ThAt w n cc x (.pointer (some (ad.add (e.1 * 4)))) C
    | _, _ => False
def Rel (w : World) (ad : Addr) (n cc : Nat) : List En → List Ae → Prop
  | [], [] => True
  | e :: es, a :: bs => RelE w ad n cc e a ∧ Rel w ad n cc es bs
  | _, _ => False
theorem Rel.append {w : World} {ad : Addr} {n cc : Nat} : ∀ {E : List En} {A : List Ae} {E2 : List En} {A2 : List Ae}, Rel w ad n cc E A → Rel w ad n cc E2 A2 → Rel w ad n cc (E ++ E2) (A ++ A2)
  | [], [], _, _, _, h => h
  | [], _ :: _, _, _, h, _ => h.elim
  | _ :: _, [], _, _, h, _ => h.elim
  | _ :: _, _ :: _, _, _, h, k => ⟨h.1, h.2.append k⟩
theorem Rel.fst {w : World} {ad : Addr} {n cc : Nat} : ∀ {E : List En} {A : List Ae}, Rel w ad n cc E A → E.map Prod.fst = A.map Prod.fst
  | [], [], _ => rfl
  | [], _ :: _, h => h.elim
  | _ :: _, [], h => h.elim
  | _ :: _, _ :: _, h => by rw [List.map_cons, List.map_cons, h.1.1, Rel.fst h.2]
theorem Rel.keep {w w' : World} {ad : Addr} {n cc : Nat} : ∀ {E : List En} {A : List Ae}, Rel w ad n cc E A → (∀ x ∈ thr E, w'.heap[x.1]? = w.heap[x.1]? ∧ w'.heap[x.2]? = w.heap[x.2]?) → Rel w' ad n cc E A
  | [], [], _, _ => trivial
  | [], _ :: _, h, _ => h.elim
  | _ :: _, [], h, _ => h.elim
  | (pc, o) :: es, (pc2, c) :: bs, h, k => by
    refine ⟨⟨h.1.1, ?_⟩, Rel.keep h.2 fun x hx => k x ?_⟩
    · have h2 := h.1.2
      cases o with
      | none => cases c <;> exact h2
      | some x =>
        cases c with
        | none => exact h2
        | some C =>
          obtain ⟨k1, k2⟩ := k x (by simp [thr])
          exact ThAt.keep h2 k1 k2
    · cases o <;> simp [thr] at hx ⊢
      · exact hx
      · exact .inr hx
theorem Rel.some {w : World} {ad : Addr} {n cc : Nat} : ∀ {E : List En} {A : List Ae}, Rel w ad n cc E A → E.map (fun e => e.2.isSome) = A.map (fun a => a.2.isSome)
  | [], [], _ => rfl
  | [], _ :: _, h => h.elim
  | _ :: _, [], h => h.elim
  | (_, o) :: es, (_, c) :: bs, h => by
    rw [List.map_cons, List.map_cons, Rel.some h.2]
    have h2 := h.1.2
    cases o <;> cases c <;> first | rfl | exact h2.elim
def Prg (w : World) (L : List I) (p : Nat) (ad : Addr) : Prop :=
  ∃ cap st nc, w.heap[p]? = some (.cells #[.slice (some ad) L.length cap, .int .i64 st, .int .i64 nc] 83 (0, 0)) ∧ L.length ≤ cap ∧
    ∀ k, k < L.length → ∃ A3 c3, w.cell? (ad.add (k * 4)) = some (.int .u8 (pin (ins L k)).f0) ∧ w.cell? ⟨(ad.add (k * 4)).block, (ad.add (k * 4)).off + 1, none⟩ = some (.int .u32 (pin (ins L k)).f1) ∧ w.cell? ⟨(ad.add (k * 4)).block, (ad.add (k * 4)).off + 2, none⟩ = some (.int .u32 (pin (ins L k)).f2) ∧ w.cell? ⟨(ad.add (k * 4)).block, (ad.add (k * 4)).off + 3, none⟩ = some (.slice A3 (pin (ins L k)).f3.length c3) ∧
      (pin (ins L k)).f3.length ≤ c3 ∧ Kd.C (Kd.int .i32) w A3 (pin (ins L k)).f3.length (pin (ins L k)).f3
theorem ProgAt.prg {w : World} {p : Nat} {L : List I} {st nc : Int} (h : ProgAt w p L st nc) (h1 : 1 ≤ L.length) : ∃ ad, Prg w L p ad := by
  obtain ⟨ad, cap, a, b, _, d⟩ := pinst_at h h1
  exact ⟨ad, cap, st, nc, a, b, d⟩
theorem Prg.below {w w' : World} {L : List I} {p : Nat} {ad : Addr} (h : Prg w L p ad) (hb : Below w.heap.size w w') : Prg w' L p ad := by
  obtain ⟨cap, st, nc, a, b, c⟩ := h
  refine ⟨cap, st, nc, blk_below a hb, b, fun k hk => ?_⟩
  obtain ⟨A3, c3, x0, x1, x2, x3, l, g⟩ := c k hk
  have kc : ∀ {a : Addr} {v : Value}, w.cell? a = some v → w'.cell? a = some v := fun hc => (hb.cell (World.block_lt_of_cell? w _ hc)).trans hc
  exact ⟨A3, c3, kc x0, kc x1, kc x2, kc x3, l, Kd.C_below g hb⟩
structure MS (N : Nat) (W0 w : World) (p mb qo sp de lf S n cc : Nat) (F : Int) (mc : Nat → Value) (E : List En) (pool out : List Th) : Prop where
  ma : w.heap[mb]? = some (mach mc)
  m1 : mc 1 = .pointer (some ⟨p, 0, none⟩)
  m8 : ∃ mcb, mc 8 = .slice (some ⟨mcb, 0, none⟩) n cc
  q2 : qo = 2 ∨ qo = 4
  mq : mc qo = .slice (some ⟨sp, 0, none⟩) S S
  md : mc (qo + 1) = .slice (some ⟨de, 0, none⟩) E.length S
  sa : ∃ sa : Array Value, w.heap[sp]? = some (.cells sa 54 (0, 0)) ∧ sa.size = S ∧ (∀ i, i < S → ∃ v, sa[i]? = some (.int .u32 v) ∧ 0 ≤ v ∧ v < 4294967296) ∧ ∀ (i : Nat) (e : En), E[i]? = some e → sa[e.1]? = some (.int .u32 i)
  da : ∃ da : Array Value, w.heap[de]? = some (.cells da 158 (0, 0)) ∧ da.size = S * 2 ∧ ∀ (i : Nat) (e : En), E[i]? = some e → da[i * 2]? = some (.int .u32 e.1) ∧ da[i * 2 + 1]? = some (ptrT e.2)
  fl : w.heap[lf]? = some (.cells #[.int .u64 F] 117 (0, 0))
  pl : Pool w W0.heap.size n cc (mc 6) pool
  th : ∀ x ∈ thr E ++ out, ∃ i C, ThAt w n cc x i C
  n1 : ((thr E ++ (out ++ pool)).map Prod.fst).Nodup
  n2 : ((thr E ++ (out ++ pool)).map Prod.snd).Nodup
  lo : W0.heap.size ≤ mb ∧ W0.heap.size ≤ sp ∧ W0.heap.size ≤ de ∧ ∀ x ∈ thr E ++ (out ++ pool), W0.heap.size ≤ x.1 ∧ W0.heap.size ≤ x.2
  bl : Below W0.heap.size W0 w
  fi : Fine N (E.map Prod.fst)
  ls : N ≤ S
  lm : S ≤ 1000000
  nc : n ≤ cc
  cm : cc ≤ 100000
  pm : pool.length ≤ 2000000
section
variable {N : Nat} {W0 w : World} {p mb qo sp de lf S n cc : Nat} {F : Int} {mc : Nat → Value} {E : List En} {pool out : List Th}
theorem MS.len (h : MS N W0 w p mb qo sp de lf S n cc F mc E pool out) : E.length ≤ N := by have := h.fi.len; simpa using this
theorem MS.sp_ne (h : MS N W0 w p mb qo sp de lf S n cc F mc E pool out) : sp ≠ mb ∧ sp ≠ de ∧ de ≠ mb ∧ lf ≠ mb ∧ lf ≠ sp ∧ lf ≠ de := by
  obtain ⟨sa, h1, _⟩ := h.sa
  obtain ⟨da, h2, _⟩ := h.da
  exact ⟨blk_ne h1 h.ma (by decide), blk_ne h1 h2 (by decide), blk_ne h2 h.ma (by decide), blk_ne h.fl h.ma (by decide), blk_ne h.fl h1 (by decide), blk_ne h.fl h2 (by decide)⟩
theorem MS.th_all (h : MS N W0 w p mb qo sp de lf S n cc F mc E pool out) : ∀ x ∈ thr E ++ (out ++ pool), ∃ i C, ThAt w n cc x i C := by
  intro x hx
  rw [← List.append_assoc] at hx
  rcases List.mem_append.1 hx with hx | hx
  · exact h.th x hx
  · exact h.pl.th x hx
theorem ThAt.far {w : World} {n cc : Nat} {x : Th} {i : Value} {C : List Int} (h : ThAt w n cc x i C) {g : Nat} {cs : Array Value} {t : TypeId} (hg : w.heap[g]? = some (.cells cs t (0, 0))) (h1 : t ≠ 160) (h2 : t ≠ 3) : x.1 ≠ g ∧ x.2 ≠ g := by
  obtain ⟨k1, r, k2, _⟩ := h
  exact ⟨blk_ne k1 hg (Ne.symm h1), blk_ne k2 hg (Ne.symm h2)⟩
theorem MS.th_ne (h : MS N W0 w p mb qo sp de lf S n cc F mc E pool out) {x : Th} {i : Value} {C : List Int} (hx : ThAt w n cc x i C) : (x.1 ≠ mb ∧ x.2 ≠ mb) ∧ (x.1 ≠ sp ∧ x.2 ≠ sp) ∧ (x.1 ≠ de ∧ x.2 ≠ de) ∧ x.1 ≠ lf ∧ x.2 ≠ lf := by
  obtain ⟨sa, h1, _⟩ := h.sa
  obtain ⟨da, h2, _⟩ := h.da
  exact ⟨hx.far h.ma (by decide) (by decide), hx.far h1 (by decide) (by decide), hx.far h2 (by decide) (by decide), hx.far h.fl (by decide) (by decide)⟩
theorem MS.pool_ne (h : MS N W0 w p mb qo sp de lf S n cc F mc E pool out) : ∀ g, (mc 6).ownBlock = some g → g ≠ mb ∧ g ≠ sp ∧ g ≠ de ∧ ∀ x i C, ThAt w n cc x i C → g ≠ x.1 ∧ g ≠ x.2 := by
  intro g hg
  rcases h.pl.own.2 with ⟨e, _⟩ | ⟨g', cap, cur, e, hb, hgg, _⟩
  · rw [e] at hg; simp [Value.ownBlock] at hg
  · rw [e] at hg
    have e2 : g' = g := by simpa [Value.ownBlock] using hg
    subst e2
    obtain ⟨sa, h1, _⟩ := h.sa
    obtain ⟨da, h2, _⟩ := h.da
    exact ⟨blk_ne hgg h.ma (by decide), blk_ne hgg h1 (by decide), blk_ne hgg h2 (by decide), fun x i C hx => ⟨blk_ne hgg hx.1 (by decide), by obtain ⟨_, r, k, _⟩ := hx; exact blk_ne hgg k (by decide)⟩⟩
def push (w : World) (mb qo sp de S j pc : Nat) : World :=
  (((w.setCell ⟨mb, qo + 1, none⟩ (.slice (some ⟨de, 0, none⟩) (j + 1) S)).setCell ⟨de, j * 2 + 1, none⟩ (.pointer none)).setCell ⟨de, j * 2, none⟩ (.int .u32 pc)).setCell ⟨sp, pc, none⟩ (.int .u32 j)
theorem push_fr (w : World) (mb qo sp de S j pc : Nat) : Fr (fun b => b = mb ∨ b = sp ∨ b = de) w (push w mb qo sp de S j pc) :=
  ((((Fr.refl _ w).set _ (.inl rfl)).set _ (.inr (.inr rfl))).set _ (.inr (.inr rfl))).set _ (.inr (.inl rfl))
theorem MS.push (h : MS N W0 w p mb qo sp de lf S n cc F mc E pool out) (pc : Nat) (hpc : pc < N) (hd : pc ∉ E.map Prod.fst) :
    MS N W0 (push w mb qo sp de S E.length pc) p mb qo sp de lf S n cc F (up mc (qo + 1) (.slice (some ⟨de, 0, none⟩) (E.length + 1) S)) (E ++ [(pc, none)]) pool out := by
  obtain ⟨e1, e2, e3, e4, e5, e6⟩ := h.sp_ne
  have hfr := push_fr w mb qo sp de S E.length pc
  have hfi := h.fi.add hpc hd
  have hlen : E.length < N := by have := hfi.len; simp at this; omega
  have hls := h.ls
  have hqo := h.q2
  have ht : thr (E ++ [(pc, none)]) = thr E := by simp [thr]
  have hkeep : ∀ {x : Th} {i : Value} {C : List Int}, ThAt w n cc x i C → ThAt (PgFnPgWalk.push w mb qo sp de S E.length pc) n cc x i C := fun {x i C} hx => by
    obtain ⟨k1, k2, k3, _⟩ := h.th_ne hx
    have l1 := blk_lt hx.1
    have l2 := hx.2.lt
    exact hx.keep (hfr.block _ l1 (by rintro (a | a | a); exact k1.1 a; exact k2.1 a; exact k3.1 a)) (hfr.block _ l2 (by rintro (a | a | a); exact k1.2 a; exact k2.2 a; exact k3.2 a))
  have u6 : up mc (qo + 1) (.slice (some ⟨de, 0, none⟩) (E.length + 1) S) 6 = mc 6 := up_ne _ _ (by omega)
  refine ⟨?_, ?_, ?_, h.q2, ?_, ?_, ?_, ?_, ?_, ?_, ?_, ?_, ?_, ?_, ?_, ?_, h.ls, h.lm, h.nc, h.cm, h.pm⟩
  · have := mach_set h.ma (qo + 1) (by omega) (.slice (some ⟨de, 0, none⟩) (E.length + 1) S)
    exact (Below.heap_setCell _ _ _ _ (Ne.symm e1)).trans ((Below.heap_setCell _ _ _ _ (Ne.symm e3)).trans ((Below.heap_setCell _ _ _ _ (Ne.symm e3)).trans this))
  · rw [up_ne _ _ (by omega)]; exact h.m1
  · rw [up_ne _ _ (by omega)]; exact h.m8
  · rw [up_ne _ _ (by omega)]; exact h.mq
  · rw [up_same]; simp
  · obtain ⟨sa, h1, h2, h3, h4⟩ := h.sa
    have hb : (((w.setCell ⟨mb, qo + 1, none⟩ (.slice (some ⟨de, 0, none⟩) (E.length + 1) S)).setCell ⟨de, E.length * 2 + 1, none⟩ (.pointer none)).setCell ⟨de, E.length * 2, none⟩ (.int .u32 pc)).heap[sp]? = some (.cells sa 54 (0, 0)) :=
      (Below.heap_setCell _ _ _ _ e2).trans ((Below.heap_setCell _ _ _ _ e2).trans ((Below.heap_setCell _ _ _ _ e1).trans h1))
    refine ⟨sa.setIfInBounds pc (.int .u32 E.length), blk_set hb pc _, by simpa using h2, fun i hi => ?_, fun i e he => ?_⟩
    · by_cases hip : i = pc
      · subst hip
        exact ⟨E.length, by rw [Array.getElem?_setIfInBounds_self_of_lt (by omega)], by omega, by have := h.lm; omega⟩
      · rw [Array.getElem?_setIfInBounds_ne (Ne.symm hip)]; exact h3 i hi
    · by_cases hi : i < E.length
      · rw [List.getElem?_append_left hi] at he
        have : e.1 ≠ pc := fun e' => hd (e' ▸ List.mem_map_of_mem (List.mem_of_getElem? he))
        rw [Array.getElem?_setIfInBounds_ne (Ne.symm this)]
        exact h4 i e he
      · rw [List.getElem?_append_right (by omega)] at he
        have hi2 : i - E.length = 0 := by
          rcases Nat.eq_zero_or_pos (i - E.length) with h | h
          · exact h
          · rw [List.getElem?_eq_none (by simp; omega)] at he; cases he
        rw [hi2] at he
        cases he
        have : i = E.length := by omega
        subst this
        rw [Array.getElem?_setIfInBounds_self_of_lt (by omega)]
  · obtain ⟨da, h1, h2, h3⟩ := h.da
    have hb0 : (w.setCell ⟨mb, qo + 1, none⟩ (.slice (some ⟨de, 0, none⟩) (E.length + 1) S)).heap[de]? = some (.cells da 158 (0, 0)) := (Below.heap_setCell _ _ _ _ e3).trans h1
    have hb1 := blk_set (blk_set hb0 (E.length * 2 + 1) (.pointer none)) (E.length * 2) (.int .u32 pc)
    refine ⟨_, (Below.heap_setCell _ _ _ _ (Ne.symm e2)).trans hb1, by simpa using h2, fun i e he => ?_⟩
    by_cases hi : i < E.length
    · rw [List.getElem?_append_left hi] at he
      rw [Array.getElem?_setIfInBounds_ne (by omega), Array.getElem?_setIfInBounds_ne (by omega), Array.getElem?_setIfInBounds_ne (by omega), Array.getElem?_setIfInBounds_ne (by omega)]
      exact h3 i e he
    · rw [List.getElem?_append_right (by omega)] at he
      have hi2 : i - E.length = 0 := by
        rcases Nat.eq_zero_or_pos (i - E.length) with h | h
        · exact h
        · rw [List.getElem?_eq_none (by simp; omega)] at he; cases he
      rw [hi2] at he
      cases he
      have : i = E.length := by omega
      subst this
      refine ⟨?_, ?_⟩
      · rw [Array.getElem?_setIfInBounds_self_of_lt (by simp; omega)]
      · rw [Array.getElem?_setIfInBounds_ne (by omega), Array.getElem?_setIfInBounds_self_of_lt (by omega)]; rfl
  · exact (hfr.block lf (blk_lt h.fl) (by rintro (a | a | a); exact e4 a; exact e5 a; exact e6 a)).trans h.fl
  · rw [u6]
    refine ⟨hfr.own h.pl.own (fun g hg => ?_), fun x hx => ?_⟩
    · obtain ⟨a1, a2, a3, _⟩ := h.pool_ne g hg
      rintro (a | a | a)
      exact a1 a; exact a2 a; exact a3 a
    · obtain ⟨i, C, hC⟩ := h.pl.th x hx
      exact ⟨i, C, hkeep hC⟩
  · rw [ht]
    intro x hx
    obtain ⟨i, C, hC⟩ := h.th x hx
    exact ⟨i, C, hkeep hC⟩
  · rw [ht]; exact h.n1
  · rw [ht]; exact h.n2
  · rw [ht]; exact h.lo
  · exact h.bl.trans (hfr.to_below h.bl.size (by rintro i (a | a | a); exact a ▸ h.lo.1; exact a ▸ h.lo.2.1; exact a ▸ h.lo.2.2.1))
  · rw [List.map_append]; exact hfi
end
end Go.Proofs.YteoljppcafakpaaDoor.PgFnPgWalk
