import Derived.Test.YtmccgfjhmbioeaaDoorKbFnPgThreads
import Derived.Test.YtmccgfjhmbioeaaDoorJxFnPgThreads
import Derived.Test.YtmccgfjhmbioeaaDoorVyFnPgThreads
import Derived.Test.YtmccgfjhmbioeaaDoorSxFnPgThreads
namespace Go.Proofs.YtmccgfjhmbioeaaDoor.PgFnPgThreads
open Go.RowKit Go.Proofs.YtmccgfjhmbioeaaDoor.EvN Go.Proofs.YtmccgfjhmbioeaaDoor.Row Go.Proofs.YtmccgfjhmbioeaaDoor.Sf Go.Proofs.YtmccgfjhmbioeaaDoor.PFnPgThreads Go.Proofs.YtmccgfjhmbioeaaDoorW.PrintWords Go.Proofs.YtmccgfjhmbioeaaDoorW.PrintLast Go.Proofs.YtmccgfjhmbioeaaDoorW.PrintMore
set_option linter.unusedSimpArgs false
set_option linter.unusedVariables false
section
variable {N : Nat} {W0 w w' : World} {p mb qo sp de lf S n cc : Nat} {F : Int} {mc : Nat → Value} {E : List En} {pool out : List Th}
theorem MS.swap {qo' sp' de' lf' : Nat} {F' : Int} (h : MS N W0 w p mb qo sp de lf S n cc F mc E pool []) (hq : qo' = 2 ∨ qo' = 4) (h1 : mc qo' = .slice (some ⟨sp', 0, none⟩) S S) (h2 : mc (qo' + 1) = .slice (some ⟨de', 0, none⟩) 0 S)
    (hs : ∃ sa : Array Value, w.heap[sp']? = some (.cells sa 96 (0, 0)) ∧ sa.size = S ∧ ∀ i, i < S → ∃ v, sa[i]? = some (.int .u32 v) ∧ 0 ≤ v ∧ v < 4294967296) (hd : ∃ da : Array Value, w.heap[de']? = some (.cells da 137 (0, 0)) ∧ da.size = S * 2)
    (hf : w.heap[lf']? = some (.cells #[.int .u64 F'] 118 (0, 0))) (hl : W0.heap.size ≤ sp' ∧ W0.heap.size ≤ de') : MS N W0 w p mb qo' sp' de' lf' S n cc F' mc [] pool (thr E) := by
  obtain ⟨sa, s1, s2, s3⟩ := hs
  obtain ⟨da, d1, d2⟩ := hd
  refine ⟨h.ma, h.m1, h.m8, hq, h1, h2, ⟨sa, s1, s2, s3, fun i e he => by simp at he⟩, ⟨da, d1, d2, fun i e he => by simp at he⟩, hf, h.pl, fun x hx => h.th x (by simpa [thr] using hx), ?_, ?_, ⟨h.lo.1, hl.1, hl.2, fun x hx => h.lo.2.2.2 x (by simpa [thr] using hx)⟩, h.bl, ⟨by simp, fun x hx => by simp at hx⟩, h.ls, h.lm, h.nc, h.cm, h.pm⟩
  · simpa [thr] using h.n1
  · simpa [thr] using h.n2
end
theorem rel_mem {w : World} {ad : Addr} {n cc : Nat} : ∀ {E : List En} {A : List Ae}, Rel w ad n cc E A → ∀ e ∈ E, ∃ a ∈ A, e.1 = a.1 ∧ e.2.isSome = a.2.isSome
  | [], [], _, e, he => by cases he
  | [], _ :: _, h, _, _ => h.elim
  | _ :: _, [], h, _, _ => h.elim
  | x :: E, a :: A, h, e, he => by
    rcases List.mem_cons.1 he with rfl | he
    · refine ⟨a, by simp, h.1.1, ?_⟩
      have := h.1.2
      cases hx : e.2 <;> cases ha : a.2 <;> rw [hx, ha] at this <;> first | rfl | exact this.elim
    · obtain ⟨b, hb, q⟩ := rel_mem h.2 e he
      exact ⟨b, by simp [hb], q⟩
end Go.Proofs.YtmccgfjhmbioeaaDoor.PgFnPgThreads
namespace Go.Proofs.YtmccgfjhmbioeaaDoor.PgFnPgThreads
open Go.RowKit Go.Proofs.YtmccgfjhmbioeaaDoor.EvN Go.Proofs.YtmccgfjhmbioeaaDoor.Row Go.Proofs.YtmccgfjhmbioeaaDoor.Sf Go.Proofs.YtmccgfjhmbioeaaDoor.PFnPgThreads Go.Proofs.YtmccgfjhmbioeaaDoorW.PrintWords Go.Proofs.YtmccgfjhmbioeaaDoorW.PrintLast Go.Proofs.YtmccgfjhmbioeaaDoorW.PrintMore
set_option linter.unusedSimpArgs false
set_option linter.unusedVariables false
structure JX (S : Nat) (W0 : World) (sp de ra sq rde rb : Nat) (tx : ByteArray) (w : World) (mr : Nat → Value) : Prop where
  q1 : mr ra = .slice (some ⟨sq, 0, none⟩) S S
  qs : ∃ sa : Array Value, w.heap[sq]? = some (.cells sa 96 (0, 0)) ∧ sa.size = S ∧ ∀ i, i < S → ∃ v, sa[i]? = some (.int .u32 v) ∧ 0 ≤ v ∧ v < 4294967296
  qd : ∃ da : Array Value, w.heap[rde]? = some (.cells da 137 (0, 0)) ∧ da.size = S * 2
  ql : W0.heap.size ≤ sq ∧ W0.heap.size ≤ rde
  qn : sq ≠ sp ∧ rde ≠ de
  m0 : mr 0 = .pointer (some ⟨rb, 0, none⟩)
  mx : mr 10 = .string tx
section
variable {N : Nat} {W0 : World} {p mb qo sp de lf S n cc : Nat} {F F' : Int} {ad : Addr} {R : List En} {RA : List Ae} {mcb ra rde sq rb pl0 pl1 : Nat} {tx : ByteArray} {mc : Nat → Value} {w wr w1 : World} {t : Option Th} {j : Nat} {mr mr1 : Nat → Value} {E E' new : List En} {pool pool' : List Th} {A A' : List Ae} {mt mt' : Bool} {M M' : List Int}
theorem JX.keep (h : JX S W0 sp de ra sq rde rb tx w mr) (k : Kpt sp de w w1) (ht : ∀ sa : Array Value, w.heap[sq]? = some (.cells sa 96 (0, 0)) → sq ≠ de) (hu : ∀ da : Array Value, w.heap[rde]? = some (.cells da 137 (0, 0)) → rde ≠ sp) (h1 : mr1 ra = mr ra) (h2 : mr1 0 = mr 0) (h3 : mr1 10 = mr 10) : JX S W0 sp de ra sq rde rb tx w1 mr1 := by
  obtain ⟨sa, s1, s2⟩ := h.qs
  obtain ⟨da, d1, d2⟩ := h.qd
  exact ⟨h1.trans h.q1, ⟨sa, k _ _ _ (.inl rfl) h.qn.1 (ht sa s1) s1, s2⟩, ⟨da, k _ _ _ (.inr rfl) (hu da d1) h.qn.2 d1, d2⟩, h.ql, h.qn, h2.trans h.m0, h3.trans h.mx⟩
theorem SI.apartQ (h : SI N W0 p mb qo sp de lf S n cc F ad R RA mcb ra rde pl0 mc w t j wr mr E pool A mt M) : (∀ (g : Nat) (sa : Array Value), wr.heap[g]? = some (.cells sa 96 (0, 0)) → g ≠ de) ∧ (∀ (g : Nat) (da : Array Value), wr.heap[g]? = some (.cells da 137 (0, 0)) → g ≠ sp) := by
  obtain ⟨sa, s1, _⟩ := h.ms.sa
  obtain ⟨da, d1, _⟩ := h.ms.da
  exact ⟨fun g sa' hg => blk_ne hg d1 (by decide), fun g da' hg => blk_ne hg s1 (by decide)⟩
theorem MS.flag {out : List Th} (h : MS N W0 wr p mb qo sp de lf S n cc F mr E pool out) (hl : W0.heap.size ≤ lf) : MS N W0 (wr.setCell ⟨lf, 0, none⟩ (.int .u64 F')) p mb qo sp de lf S n cc F' mr E pool out := by
  have kp : ∀ {g : Nat} {cs : Array Value} {t : TypeId}, wr.heap[g]? = some (.cells cs t (0, 0)) → t ≠ 118 → (wr.setCell ⟨lf, 0, none⟩ (.int .u64 F')).heap[g]? = some (.cells cs t (0, 0)) := fun hg ht => (Below.heap_setCell _ _ _ _ (blk_ne hg h.fl ht)).trans hg
  have hfr : Fr (fun b => b = lf) wr (wr.setCell ⟨lf, 0, none⟩ (.int .u64 F')) := (Fr.refl (fun b => b = lf) wr).set _ (show lf = lf from rfl)
  have kt : ∀ {y : Th}, (∃ i C, ThAt wr n cc y i C) → ∃ i C, ThAt (wr.setCell ⟨lf, 0, none⟩ (.int .u64 F')) n cc y i C := fun {y} ⟨i0, C, hC⟩ => ⟨i0, C, hC.keep (Below.heap_setCell _ _ _ _ (blk_ne hC.1 h.fl (by decide))) (Below.heap_setCell _ _ _ _ (by obtain ⟨r, k, _⟩ := hC.2; exact blk_ne k h.fl (by decide)))⟩
  obtain ⟨sa, s1, s2⟩ := h.sa
  obtain ⟨da, d1, d2⟩ := h.da
  exact ⟨kp h.ma (by decide), h.m1, h.m8, h.q2, h.mq, h.md, ⟨sa, kp s1 (by decide), s2⟩, ⟨da, kp d1 (by decide), d2⟩, (blk_set h.fl 0 _).trans rfl, ⟨hfr.own h.pl.own (fun g hg e => own_not h.pl.own h.fl (by decide) (by rw [hg]; exact congrArg some e)), fun y hy => kt (h.pl.th y hy)⟩, fun y hy => kt (h.th y hy), h.n1, h.n2, h.lo, below_set h.bl hl, h.fi, h.ls, h.lm, h.nc, h.cm, h.pm⟩
theorem SI.flag (h : SI N W0 p mb qo sp de lf S n cc F ad R RA mcb ra rde pl0 mc w t j wr mr E pool A mt M) (hl : W0.heap.size ≤ lf) : SI N W0 p mb qo sp de lf S n cc F' ad R RA mcb ra rde pl0 mc w t j (wr.setCell ⟨lf, 0, none⟩ (.int .u64 F')) mr E pool A mt M := by
  have kt : ∀ {y : Th}, (∃ i C, ThAt wr n cc y i C) → (wr.setCell ⟨lf, 0, none⟩ (.int .u64 F')).heap[y.1]? = wr.heap[y.1]? ∧ (wr.setCell ⟨lf, 0, none⟩ (.int .u64 F')).heap[y.2]? = wr.heap[y.2]? := fun {y} ⟨i0, C, hC⟩ => ⟨Below.heap_setCell _ _ _ _ (blk_ne hC.1 h.ms.fl (by decide)), Below.heap_setCell _ _ _ _ (by obtain ⟨r, k, _⟩ := hC.2; exact blk_ne k h.ms.fl (by decide))⟩
  exact ⟨h.ms.flag hl, h.rE.keep fun y hy => kt (h.ms.th y (by simp [hy])), h.rR.keep fun y hy => kt (h.ms.th y (by simp [hy])), h.m7, h.m8, h.cp.keep (Below.heap_setCell _ _ _ _ (by obtain ⟨r, k, _⟩ := h.cp; exact blk_ne k h.ms.fl (by decide))), h.cl, h.nm, h.rd, h.mm, h.rq, h.pl, h.kp.trans fun g cs t ht _ _ hg => (Below.heap_setCell _ _ _ _ (blk_ne hg h.ms.fl (by rcases ht with rfl | rfl <;> decide))).trans hg⟩
theorem SI.flagK (h : SI N W0 p mb qo sp de lf S n cc F ad R RA mcb ra rde pl0 mc w t j wr mr E pool A mt M) : Kpt sp de wr (wr.setCell ⟨lf, 0, none⟩ (.int .u64 F')) := fun g cs t ht _ _ hg => (Below.heap_setCell _ _ _ _ (blk_ne hg h.ms.fl (by rcases ht with rfl | rfl <;> decide))).trans hg
theorem SI.turn (h : SI N W0 p mb qo sp de lf S n cc F ad [] [] mcb ra rde pl0 mc w none 0 wr mr E pool A mt M) (x : JX S W0 sp de ra sq rde rb tx wr mr) (hpl : pool.length ≤ pl1) :
    SI N W0 p mb ra sq rde lf S n cc F ad E A mcb qo de pl1 mr wr none 0 wr mr [] pool [] mt M := by
  have hq := h.rq
  have h0 : MS N W0 wr p mb qo sp de lf S n cc F mr E pool [] := by have := h.ms; simpa [thr] using this
  have hsw := h0.swap (qo' := ra) (sp' := sq) (de' := rde) (lf' := lf) (F' := F) (by omega) x.q1 (h.rd.trans rfl) x.qs x.qd h0.fl x.ql
  exact ⟨by simpa using hsw, trivial, by simpa using h.rE, h.m7, h.m8, h.cp, h.cl, fun y hy => h.nm y (by simpa [thr] using hy), h.ms.md, fun _ _ _ _ => rfl, by omega, by simpa using hpl, Kpt.refl _ _ _⟩
theorem SI.root (h : SI N W0 p mb qo sp de lf S n cc F ad [] [] mcb ra rde pl0 mc w none 0 wr mr E pool A mt M) (hpl : pool.length ≤ pl1) : SI N W0 p mb qo sp de lf S n cc F ad [] [] mcb ra rde pl1 mr wr none 0 wr mr E pool A mt M :=
  ⟨h.ms, h.rE, h.rR, h.m7, h.m8, h.cp, h.cl, h.nm, h.rd, fun _ _ _ _ => rfl, h.rq, by simpa using hpl, Kpt.refl _ _ _⟩
theorem SI.turned (h : SI N W0 p mb qo sp de lf S n cc F ad [] [] mcb ra rde pl0 mc w none 0 wr mr E pool A mt M) (x : JX S W0 sp de ra sq rde rb tx wr mr) (k : SI N W0 p mb ra sq rde lf S n cc F ad [] [] mcb qo de pl1 (up mr (qo + 1) (.slice (some ⟨de, 0, none⟩) 0 S)) wr none 0 w1 mr1 E' pool' A' mt' M') :
    JX S W0 sq rde qo sp de rb tx w1 mr1 := by
  have hq := h.rq
  obtain ⟨sa, s1, s2, s3, _⟩ := h.ms.sa
  obtain ⟨da, d1, d2, _⟩ := h.ms.da
  obtain ⟨sa', s1', _⟩ := x.qs
  obtain ⟨da', d1', _⟩ := x.qd
  have e : ∀ i, i ≠ ra + 1 → i ≠ 6 → i ≠ 7 → i ≠ qo + 1 → mr1 i = mr i := fun i a b c d => (k.mm i a b c).trans (up_ne _ _ d)
  exact ⟨(e qo (by omega) (by omega) (by omega) (by omega)).trans h.ms.mq, ⟨sa, k.kp _ _ _ (.inl rfl) (Ne.symm x.qn.1) (blk_ne s1 d1' (by decide)) s1, s2, s3⟩, ⟨da, k.kp _ _ _ (.inr rfl) (blk_ne d1 s1' (by decide)) (Ne.symm x.qn.2) d1, d2⟩, ⟨h.ms.lo.2.1, h.ms.lo.2.2.1⟩, ⟨Ne.symm x.qn.1, Ne.symm x.qn.2⟩, (e 0 (by omega) (by omega) (by omega) (by omega)).trans x.m0, (e 10 (by omega) (by omega) (by omega) (by omega)).trans x.mx⟩
end
end Go.Proofs.YtmccgfjhmbioeaaDoor.PgFnPgThreads
namespace Go.Proofs.YtmccgfjhmbioeaaDoor.PgFnPgThreads
open Go.RowKit Go.Proofs.YtmccgfjhmbioeaaDoor.EvN Go.Proofs.YtmccgfjhmbioeaaDoor.Row Go.Proofs.YtmccgfjhmbioeaaDoor.Sf Go.Proofs.YtmccgfjhmbioeaaDoor.PFnPgThreads Go.Proofs.YtmccgfjhmbioeaaDoorW.PrintWords Go.Proofs.YtmccgfjhmbioeaaDoorW.PrintLast Go.Proofs.YtmccgfjhmbioeaaDoorW.PrintMore
set_option linter.unusedSimpArgs false
set_option linter.unusedVariables false
set_option maxRecDepth 100000 in
set_option maxHeartbeats 4000000 in
theorem clear_calls {N : Nat} {W0 : World} {p mb qo sp de lf S n cc : Nat} {F : Int} {ad : Addr} {R : List En} {RA : List Ae} {mcb ra rde pl0 : Nat} {mc : Nat → Value} {w : World} {pool : List Th} {mt : Bool} {M : List Int}
    (hS : SI N W0 p mb qo sp de lf S n cc F ad R RA mcb ra rde pl0 mc w none 0 w mc [] pool [] mt M) (rd : Array Value) (hrd : w.heap[rde]? = some (.cells rd 137 (0, 0))) (hrE : ∀ (i : Nat) (e : En), R[i]? = some e → rd[i * 2]? = some (.int .u32 e.1) ∧ rd[i * 2 + 1]? = some (ptrT e.2)) (hne : rde ≠ sp ∧ rde ≠ de) (hpl : pl0 + R.length ≤ 1900000) :
    Calls Tryd.prog 46 #[.pointer (some ⟨mb, 0, none⟩), .pointer (some ⟨mb, ra, none⟩)] w fun e w' =>
      ∃ mr pool', e = .returned (.tuple #[]) ∧ SI N W0 p mb qo sp de lf S n cc F ad [] [] mcb ra rde (pl0 + R.length) (up mc (ra + 1) (.slice (some ⟨rde, 0, none⟩) 0 S)) w none 0 w' mr [] pool' [] mt M := by
  have HI0 := Lib.hid hS
  have HRD := Lib.hid hrd
  have HRdE := Lib.hid hrE
  have HNE := Lib.hid hne
  have hrl : R.length ≤ 1900000 := by omega
  have hz := (mach_cell hS.ms.ma (ra + 1) (by have := hS.rq; omega)).trans (congrArg some hS.rd)
  clear hS hrd hrE hne
  go_enter Tryd.func46, Tryd.ntmps46
  go_wp2_with fail
  clear hz
  go_loopg [11] R.length (fun gk s11 wr => ∃ (j : Nat) (mr : Nat → Value) (pool : List Th), s11 = .int .i64 j ∧ gk + j = R.length ∧ Hid (SI N W0 p mb qo sp de lf S n cc F ad R RA mcb ra rde pl0 mc w none j wr mr [] pool [] mt M))
  case atStart => exact ⟨0, mc, pool, rfl, by omega, HI0⟩
  case round =>
    obtain ⟨j, mr, pool, rfl, hgk, HI⟩ := hrel
    clear HI0
    by_cases hlt : j < R.length
    · have hd1 : decide (j < R.length) = true := decide_eq_true hlt
      have hrdw := HI.out.kp rde rd 137 (.inr rfl) HNE.out.1 HNE.out.2 HRD.out
      obtain ⟨hx0, hx1⟩ := HRdE.out j R[j] (List.getElem?_eq_getElem hlt)
      have hy0 : wr.cell? ⟨rde, j * 2, none⟩ = some (.int .u32 R[j].1) := (blk_cell hrdw _).trans hx0
      have hy1 : wr.cell? ⟨rde, j * 2 + 1, none⟩ = some (ptrT R[j].2) := (blk_cell hrdw _).trans hx1
      obtain ⟨pc, hpc⟩ : ∃ pc, pc = (R[j].1 : Int) := ⟨_, rfl⟩
      rw [← hpc] at hy0
      clear hrdw hx0 hx1 hpc
      cases hR2 : R[j].2 with
      | none =>
        rw [hR2] at hy1
        obtain ⟨_, hI2⟩ := HI.out.none_ hlt hR2
        have HI2 := Lib.hid hI2
        clear hR2 hI2 HI
        simp only [ptrT] at hy1
        go_wp2_with fail
        go_roundg (gk - 1)
        case measure => omega
        case rel => exact ⟨j + 1, mr, pool, by go_num, by omega, Lib.hid (HI2.out.grow (below_alloc (Below.refl _ _) _))⟩
      | some x =>
        rw [hR2] at hy1
        obtain ⟨⟨pc2, C, hRj, hRA, hth⟩, hI2⟩ := HI.out.some_ hlt hR2
        have HI2 := Lib.hid hI2
        have HPL : Hid (pool.length + 1 ≤ 1900001) := Lib.hid (by have := hI2.pl; simp at this; omega)
        clear hR2 hI2 HI hRj hRA hth
        simp only [ptrT] at hy1
        go_wp2_with fail
        have hob := heap_alloc_new wr (.cells #[.int .u32 pc, .pointer (some ⟨x.1, 0, none⟩)] 137)
        have HI3 := Lib.hid (HI2.out.grow (below_alloc (Below.refl _ _) (.cells #[.int .u32 pc, .pointer (some ⟨x.1, 0, none⟩)] 137)))
        obtain ⟨g, hg⟩ : ∃ g, g = wr.heap.size := ⟨_, rfl⟩
        rw [← hg] at hob ⊢
        generalize wr.alloc (.cells #[.int .u32 pc, .pointer (some ⟨x.1, 0, none⟩)] 137) = w2 at *
        have hcd : w2.cell? ⟨g, 1, none⟩ = some (.pointer (some ⟨x.1, 0, none⟩)) := (blk_cell hob 1).trans rfl
        clear HI2 hy0 hy1 hob hg
        have h6 := mach_cell HI3.out.ms.ma 6 (by omega)
        have hf6 := blk_frozen HI3.out.ms.ma 6
        have h6a : ∀ o, (w2.alloc o).cell? ⟨mb, 6, none⟩ = some (mr 6) := fun o => mach_cell (blk_alloc HI3.out.ms.ma o) 6 (by omega)
        have hcda : ∀ o, (w2.alloc o).cell? ⟨g, 1, none⟩ = some (.pointer (some ⟨x.1, 0, none⟩)) := fun o => (Below.cell (below_alloc (Below.refl _ w2) o) (World.block_lt_of_cell? w2 _ hcd)).trans hcd
        obtain ⟨i0, hi0, hi1, hi2, hi3⟩ := info_parts ithp
        go_region_law
          (first
            | (refine step_append_lies _ (by rfl) _ _ _ (by rfl) W0.heap.size 107 i0 _ 1 8 Tryd.underlying68 hi0 hi1 hi2 hi3 rfl (by omega) (mr 6) pool.length (pool.map fun (y : Th) => Value.pointer (some ⟨y.1, 0, none⟩)) (by rfl) (own_drew (HI3.out.ms.pl.own.alloc (.cells #[.pointer (some ⟨x.1, 0, none⟩)] 107))) ⟨w2.heap.size, 0, none⟩ 1 1 [.pointer (some ⟨x.1, 0, none⟩)] (by rfl) (by rfl) (World.news_of_block (cs := #[.pointer (some ⟨x.1, 0, none⟩)]) (t := 107) (fr := (0, 0)) (heap_alloc_new w2 _)) (by simp [Value.oneCell']) (by omega) (by have := HPL.out; unfold maxLen; omega) (by have := HPL.out; omega) (by have := HI3.out.ms.bl.size; simp; omega) (w2.heap.size + 1) (by simp) ?_; intro gg cap w3 hown1 hgrow1 hat1 hlt1; have HOWN := Lib.hid hown1; have HG : Hid (w2.grownBy w3 (mr 6).ownBlock) := Lib.hid (grown_trans (grown_drew' (grown_alloc (grown_refl w2 _) (.cells #[.pointer (some ⟨x.1, 0, none⟩)] 107))) hgrow1); have HMA := Lib.hid (HI3.out.ms.ma_grown HG.out); have hfz3 := blk_frozen HMA.out 6; have hz63 := mach_cell HMA.out 6 (by omega); clear hown1 hgrow1 hat1 hlt1)
            | (trace_state; fail))
        all_goals
          go_wp2_with fail
          go_roundg (gk - 1)
          case measure => omega
          case rel => exact ⟨j + 1, _, _, by go_num, by omega, Lib.hid (HI3.out.pool_ HG.out HOWN.out (by omega))⟩
    · have hd1 : decide (j < R.length) = false := decide_eq_false hlt
      obtain rfl : j = R.length := by omega
      have HI2 := HI
      have hz := (mach_cell HI2.out.ms.ma (ra + 1) (by have := HI2.out.rq; omega)).trans (congrArg some HI2.out.rd)
      have hfz := blk_frozen HI2.out.ms.ma (ra + 1)
      go_wp2_with fail
      go_end0
      exact ⟨_, _, rfl, HI2.out.cut⟩
end Go.Proofs.YtmccgfjhmbioeaaDoor.PgFnPgThreads
namespace Go.Proofs.YtmccgfjhmbioeaaDoor.PgFnPgThreads
open Go.RowKit Go.Proofs.YtmccgfjhmbioeaaDoor.EvN Go.Proofs.YtmccgfjhmbioeaaDoor.Row Go.Proofs.YtmccgfjhmbioeaaDoor.Sf Go.Proofs.YtmccgfjhmbioeaaDoor.PFnPgThreads Go.Proofs.YtmccgfjhmbioeaaDoorW.PrintWords Go.Proofs.YtmccgfjhmbioeaaDoorW.PrintLast Go.Proofs.YtmccgfjhmbioeaaDoorW.PrintMore
set_option linter.unusedSimpArgs false
set_option linter.unusedVariables false
set_option maxRecDepth 100000 in
theorem istep_calls (s : ByteArray) (i : Nat) (w : World) (mb : Nat) (hi : i ≤ s.size) (hs : s.size ≤ 4611686018427387904) (hT : Tabs w) (hc : w.cell? ⟨mb, 10, none⟩ = some (.string s)) :
    Calls Tryd.prog 105 #[.pointer (some ⟨mb, 10, none⟩), .int .i64 (i : Int)] w fun e w' => e = .returned (.tuple #[.int .i32 (dec s i).1, .int .i64 ((dec s i).2 : Nat)]) ∧ Below w.heap.size w w' := by
  unfold dec
  by_cases h : s.size ≤ i
  · rw [if_pos h]
    have hd : decide (i < s.size) = false := decide_eq_false (by omega)
    go_enter Tryd.func105, Tryd.ntmps105
    go_wp2_with fail
    go_ret2
    exact ⟨rfl, Below.refl _ w⟩
  · rw [if_neg h]
    have hd : decide (i < s.size) = true := decide_eq_true (by omega)
    have hc2 := Tryd.utf8_DecodeRuneInString (s.extract i s.size) w hT
    rw [decode_tail s i (by omega)] at hc2
    go_enter Tryd.func105, Tryd.ntmps105
    go_wp2_with fail
    refine hc2.mono ?_
    rintro e w1 ⟨rfl, hb⟩
    go_wp2_with fail
    go_ret2
    exact ⟨rfl, hb⟩
set_option maxRecDepth 100000 in
theorem icontext_calls (s : ByteArray) (i : Nat) (w : World) (mb : Nat) (h1 : 1 ≤ i) (hi : i ≤ s.size) (hs : s.size ≤ 4611686018427387904) (hT : Tabs w) (hc : w.cell? ⟨mb, 10, none⟩ = some (.string s)) (F : Int) (hF : regexp_newLazyFlag.f (lastR s i) (dec s i).1 = some F) :
    Calls Tryd.prog 102 #[.pointer (some ⟨mb, 10, none⟩), .int .i64 (i : Int)] w fun e w' => e = .returned (.int .u64 F) ∧ Below w.heap.size w w' := by
  have hz : (s.extract 0 i).size ≤ 9223372036854775807 := by have : (s.extract 0 i).size = min i s.size := by simp
                                                             omega
  have hl := Tryd.utf8_DecodeLastRuneInString (s.extract 0 i) w hz hT
  rw [show (s.extract 0 i).data.toList = s.data.toList.take i by simp] at hl
  have hw1 : wrap64 ((i : Int) - 1) = ((i - 1 : Nat) : Int) := by unfold wrap64; omega
  unfold lastR dec at hF
  rw [if_neg (by omega)] at hF
  have hd1 : decide (i - 1 < s.size) = true := decide_eq_true (by omega)
  by_cases h : s.size ≤ i
  · rw [if_pos h] at hF
    have hd : decide (i < s.size) = false := decide_eq_false (by omega)
    go_enter Tryd.func102, Tryd.ntmps102
    go_wp2_with fail
    refine hl.mono ?_
    rintro e w1 ⟨rfl, hb⟩
    have hc1 := (hb.cell (World.block_lt_of_cell? w _ hc)).trans hc
    go_wp2_with fail
    refine (regexp_newLazyFlag.calls _ _ F w1 hF).mono ?_
    rintro e w2 ⟨rfl, hd2⟩
    go_wp2_with fail
    go_ret
    exact ⟨rfl, below_step hb hd2.below⟩
  · rw [if_neg h] at hF
    have hd : decide (i < s.size) = true := decide_eq_true (by omega)
    go_enter Tryd.func102, Tryd.ntmps102
    go_wp2_with fail
    refine hl.mono ?_
    rintro e w1 ⟨rfl, hb⟩
    have hc1 := (hb.cell (World.block_lt_of_cell? w _ hc)).trans hc
    have hT1 : Tabs w1 := Utf8Tabs_below hT hb
    have hc2 := Tryd.utf8_DecodeRuneInString (s.extract i s.size) w1 hT1
    rw [decode_tail s i (by omega)] at hc2
    go_wp2_with fail
    refine hc2.mono ?_
    rintro e w2 ⟨rfl, hb2⟩
    go_wp2_with fail
    refine (regexp_newLazyFlag.calls _ _ F w2 hF).mono ?_
    rintro e w3 ⟨rfl, hd2⟩
    go_wp2_with fail
    go_ret
    exact ⟨rfl, below_step (below_step hb hb2) hd2.below⟩
set_option maxRecDepth 100000 in
theorem inputs_calls (s : ByteArray) (w : World) (mb : Nat) (mc : Nat → Value) (hs : s.size ≤ 4611686018427387904) (hm : w.heap[mb]? = some (mach mc)) :
    Calls Tryd.prog 25 #[.pointer (some ⟨mb, 9, none⟩), .nilIface, .slice none 0 0, .string s] w fun e w' => e = .returned (.tuple #[.iface 134 (.pointer (some ⟨mb, 10, none⟩)), .int .i64 (s.size : Int)]) ∧ w' = w.setCell ⟨mb, 10, none⟩ (.string s) := by
  have hc := mach_cell hm 10 (by omega)
  have hf := blk_frozen hm 10
  have hnew : Calls Tryd.prog 42 #[.pointer (some ⟨mb, 9, none⟩), .string s] w fun e w' => e = .returned (.iface 134 (.pointer (some ⟨mb, 10, none⟩))) ∧ w' = w.setCell ⟨mb, 10, none⟩ (.string s) := by
    go_enter Tryd.func42, Tryd.ntmps42
    go_wp2_with fail
    go_ret
    exact ⟨rfl, rfl⟩
  go_enter Tryd.func25, Tryd.ntmps25
  go_wp2_with fail
  refine hnew.mono ?_
  rintro e w1 ⟨rfl, rfl⟩
  go_wp2_with fail
  go_ret2
  exact ⟨rfl, rfl⟩
set_option maxRecDepth 100000 in
theorem put_calls (w : World) (rb mb : Nat) (mc : Nat → Value) (hm : w.heap[mb]? = some (mach mc)) (h9 : mc 9 = .slice none 0 0) (h11 : mc 11 = .nilIface) :
    Calls Tryd.prog 28 #[.pointer (some ⟨rb, 0, none⟩), .pointer (some ⟨mb, 0, none⟩)] w fun e w' => e = .returned (.tuple #[]) ∧ Fr (fun i => i = mb) w w' := by
  have hc0 := mach_cell hm 0 (by omega)
  have hc1 := mach_cell hm 1 (by omega)
  have hf0 := blk_frozen hm 0
  have hf1 := blk_frozen hm 1
  have hm2 := mach_set (mach_set hm 0 (by omega) (.pointer none)) 1 (by omega) (.pointer none)
  have hclear : Calls Tryd.prog 47 #[.pointer (some ⟨mb, 9, none⟩)] ((w.setCell ⟨mb, 0, none⟩ (.pointer none)).setCell ⟨mb, 1, none⟩ (.pointer none)) fun e w' => e = .returned (.tuple #[]) ∧ w' = ((w.setCell ⟨mb, 0, none⟩ (.pointer none)).setCell ⟨mb, 1, none⟩ (.pointer none)).setCell ⟨mb, 10, none⟩ (.string ⟨#[]⟩) := by
    generalize (w.setCell ⟨mb, 0, none⟩ (.pointer none)).setCell ⟨mb, 1, none⟩ (.pointer none) = w1 at *
    have k9 := mach_cell hm2 9 (by omega)
    have k11 := mach_cell hm2 11 (by omega)
    have k10 := mach_cell hm2 10 (by omega)
    have e9 : up (up mc 0 (.pointer none)) 1 (.pointer none) 9 = .slice none 0 0 := ((up_ne _ _ (by decide)).trans (up_ne _ _ (by decide))).trans h9
    have e11 : up (up mc 0 (.pointer none)) 1 (.pointer none) 11 = .nilIface := ((up_ne _ _ (by decide)).trans (up_ne _ _ (by decide))).trans h11
    rw [e9] at k9
    rw [e11] at k11
    have kf := blk_frozen hm2 10
    clear hm hm2 hc0 hc1 hf0 hf1 h9 h11 e9 e11
    go_enter Tryd.func47, Tryd.ntmps47
    go_wp2_with fail
    go_end0
    exact ⟨rfl, rfl⟩
  go_enter Tryd.func28, Tryd.ntmps28
  go_wp2_with fail
  refine hclear.mono ?_
  rintro e w1 ⟨rfl, rfl⟩
  go_wp2_with fail
  go_end0
  exact ⟨rfl, (((Fr.refl (fun i => i = mb) w).set _ (show mb = mb from rfl)).set _ (show mb = mb from rfl)).set _ (show mb = mb from rfl)⟩
end Go.Proofs.YtmccgfjhmbioeaaDoor.PgFnPgThreads
namespace Go.Proofs.YtmccgfjhmbioeaaDoor.PgFnPgThreads
open Go.RowKit Go.Proofs.YtmccgfjhmbioeaaDoor.EvN Go.Proofs.YtmccgfjhmbioeaaDoor.Row Go.Proofs.YtmccgfjhmbioeaaDoor.Sf Go.Proofs.YtmccgfjhmbioeaaDoor.PFnPgThreads Go.Proofs.YtmccgfjhmbioeaaDoorW.PrintWords Go.Proofs.YtmccgfjhmbioeaaDoorW.PrintLast Go.Proofs.YtmccgfjhmbioeaaDoorW.PrintMore
set_option linter.unusedSimpArgs false
set_option linter.unusedVariables false
theorem New0.cap {w w' : World} {rb mb sp de sp1 de1 mcb p S nc n : Nat} {mc : Nat → Value} {m8 : Value} (h : New0 w w' rb mb sp de sp1 de1 mcb p S nc mc m8) (hn : n ≤ nc) : CapAt w' n nc mcb (List.replicate n 0) := CapAt.made hn h.cb
theorem MS.start {W0 w : World} {p mb sp de sp1 de1 lf S n cc mcb N rb : Nat} {F : Int} {ad : Addr} {mc : Nat → Value} {M : List Int} {tx : ByteArray} (h : MS N W0 w p mb 2 sp de lf S n cc F mc [] [] []) (h7 : mc 7 = .bool false) (h8 : mc 8 = .slice (some ⟨mcb, 0, none⟩) n cc) (hc : CapAt w n cc mcb M) (hl : W0.heap.size ≤ mcb) (q4 : mc 4 = .slice (some ⟨sp1, 0, none⟩) S S) (q5 : mc 5 = .slice (some ⟨de1, 0, none⟩) 0 S)
    (hs : ∃ sa : Array Value, w.heap[sp1]? = some (.cells sa 96 (0, 0)) ∧ sa.size = S ∧ ∀ i, i < S → ∃ v, sa[i]? = some (.int .u32 v) ∧ 0 ≤ v ∧ v < 4294967296) (hd : ∃ da : Array Value, w.heap[de1]? = some (.cells da 137 (0, 0)) ∧ da.size = S * 2) (hq : W0.heap.size ≤ sp1 ∧ W0.heap.size ≤ de1) (hn : sp1 ≠ sp ∧ de1 ≠ de) (h0 : mc 0 = .pointer (some ⟨rb, 0, none⟩)) (hx : mc 10 = .string tx) :
    SI N W0 p mb 2 sp de lf S n cc F ad [] [] mcb 4 de1 0 mc w none 0 w mc [] [] [] false M ∧ JX S W0 sp de 4 sp1 de1 rb tx w mc :=
  ⟨⟨by simpa [thr] using h, trivial, trivial, h7, h8, hc, hl, fun x hx => by simp [thr] at hx, q5, fun _ _ _ _ => rfl, .inr ⟨rfl, rfl⟩, by simp, Kpt.refl _ _ _⟩, ⟨q4, hs, hd, hq, hn, h0, hx⟩⟩
theorem New0.start {W0 w1 w2 w3 : World} {p mb sp de sp1 de1 lf S n cc mcb N rb : Nat} {F : Int} {ad : Addr} {mc : Nat → Value} {M : List Int} {tx : ByteArray} (h : New0 W0 w1 rb mb sp de sp1 de1 mcb p S cc mc (.slice (some ⟨mcb, 0, none⟩) n cc)) (hfr : Fr (fun b => b = mcb) w1 w2) (hc : CapAt w2 n cc mcb M) (hb : Below w2.heap.size w2 w3) (hf : w3.heap[lf]? = some (.cells #[.int .u64 F] 118 (0, 0)))
    (hN : N ≤ S) (hS : S ≤ 1000000) (hn : n ≤ cc) (hcc : cc ≤ 100000) (h7 : mc 7 = .bool false) (hx : mc 10 = .string tx) :
    SI N W0 p mb 2 sp de lf S n cc F ad [] [] mcb 4 de1 0 mc w3 none 0 w3 mc [] [] [] false M ∧ JX S W0 sp de 4 sp1 de1 rb tx w3 mc := by
  have kp : ∀ {g : Nat} {cs : Array Value} {t : TypeId}, w1.heap[g]? = some (.cells cs t (0, 0)) → t ≠ 3 → w3.heap[g]? = some (.cells cs t (0, 0)) := fun {g cs t} hg ht => by
    have h1 := (hfr.block g (blk_lt hg) (blk_ne hg h.cb ht)).trans hg
    exact (hb.block _ (blk_lt h1)).trans h1
  have hl := h.lo.2.2.2
  have hms : MS N W0 w3 p mb 2 sp de lf S n cc F mc [] [] [] := by
    refine ⟨kp h.ma (by decide), h.m1, ⟨mcb, h.m8⟩, .inl rfl, h.q2, h.q3, ⟨_, kp h.sa (by decide), by simp [size_madeCells], fun i hi => ⟨0, made_u32 S i hi, by omega, by omega⟩, fun i e he => by simp at he⟩, ⟨_, kp h.da (by decide), by simp [size_madeCells], fun i e he => by simp at he⟩, hf, ⟨?_, fun x hx => by simp at hx⟩, fun x hx => by simp [thr] at hx, by simp [thr], by simp [thr], ⟨h.lo.1, h.lo.2.1, h.lo.2.2.1, fun x hx => by simp [thr] at hx⟩, below_step (h.bl.trans (hfr.to_below h.bl.size (fun i e => by rw [e]; exact hl.1))) hb, ⟨by simp, by simp⟩, hN, hS, hn, hcc, by simp⟩
    rw [h.m6]; exact ⟨rfl, .inl ⟨rfl, rfl⟩⟩
  exact hms.start h7 h.m8 (hc.keep (hb.block _ hc.lt)) hl.1 h.q4 h.q5 ⟨_, kp h.sb (by decide), by simp [size_madeCells], fun i hi => ⟨0, made_u32 S i hi, by omega, by omega⟩⟩ ⟨_, kp h.db (by decide), by simp [size_madeCells]⟩ hl.2 h.ne h.m0 hx
end Go.Proofs.YtmccgfjhmbioeaaDoor.PgFnPgThreads
namespace Go.Proofs.YtmccgfjhmbioeaaDoor.PgFnPgThreads
open Go.RowKit Go.Proofs.YtmccgfjhmbioeaaDoor.EvN Go.Proofs.YtmccgfjhmbioeaaDoor.Row Go.Proofs.YtmccgfjhmbioeaaDoor.Sf Go.Proofs.YtmccgfjhmbioeaaDoor.PFnPgThreads Go.Proofs.YtmccgfjhmbioeaaDoorW.PrintWords Go.Proofs.YtmccgfjhmbioeaaDoorW.PrintLast Go.Proofs.YtmccgfjhmbioeaaDoorW.PrintMore
set_option linter.unusedSimpArgs false
set_option linter.unusedVariables false
theorem dec_z (s : ByteArray) (i : Nat) : (dec s i).1 = -1 ↔ (dec s i).2 = 0 := by
  rw [dec_w]
  unfold dec
  by_cases h : s.size ≤ i
  · rw [if_pos h]; simp [h]
  · rw [if_neg h]
    simp only [h, iff_false]
    omega
theorem lastR_rng (s : ByteArray) (i : Nat) : -1 ≤ lastR s i ∧ lastR s i ≤ 1114111 := by
  unfold lastR
  split
  · omega
  · have := Lib.decodeLastL_rune (s.data.toList.take i)
    omega
theorem stepF_waits (L : List I) (long : Bool) (n : Nat) (c cond pos np : Int) : ∀ (RA A : List Ae) (m : Bool) (M : List Int), (∀ a ∈ A, a.2.isSome = waitsB (ins L a.1)) → ∀ a ∈ (stepF L long n c cond pos np RA (A, m, M)).1, a.2.isSome = waitsB (ins L a.1) := by
  intro RA
  induction RA with
  | nil => intro A m M h; exact h
  | cons a r ih =>
    intro A m M h
    obtain ⟨x, o⟩ := a
    cases o with
    | none => rw [stepF]; exact ih A m M h
    | some C =>
      rw [stepF]
      split
      · exact ih A m M h
      · split
        · cases long with
          | true => rw [if_pos rfl]; exact ih _ _ _ h
          | false => rw [if_neg (by decide)]; exact h
        · split
          · refine ih _ _ _ fun b hb => ?_
            rcases List.mem_append.1 hb with hb | hb
            · exact h b hb
            · exact aF_waits L cond np _ _ _ _ b hb
          · exact ih A m M h
structure PutI (L : List I) (W0 : World) (p mb lf z n cc : Nat) (ad : Addr) (mcb rb : Nat) (s : ByteArray) (mc : Nat → Value) (ra qo sp sq de rde pl : Nat) (mr : Nat → Value) (E : List En) (pool : List Th) (A : List Ae) (mt : Bool) (M : List Int) (F : Int) (wr : World) : Prop where
  si : SI L.length W0 p mb qo sp de lf z n cc F ad [] [] mcb ra rde pl mr wr none 0 wr mr E pool A mt M
  jx : JX z W0 sp de ra sq rde rb s wr mr
  wt : ∀ a ∈ A, a.2.isSome = waitsB (ins L a.1)
  m9 : mr 9 = mc 9
  m11 : mr 11 = mc 11
structure LoopI (L : List I) (W0 : World) (p mb lf z n cc : Nat) (ad : Addr) (mcb rb : Nat) (s : ByteArray) (long anch : Bool) (st : Nat) (Fin : Bool × List Int) (mc : Nat → Value) (i k : Nat) (last : Int) (ra qo sp sq de rde pl : Nat) (mr : Nat → Value) (E : List En) (pool : List Th) (A : List Ae) (mt : Bool) (M : List Int) (F : Int) (wr : World) : Prop where
  pi : PutI L W0 p mb lf z n cc ad mcb rb s mc ra qo sp sq de rde pl mr E pool A mt M F wr
  fin : mLoop L st long anch s k last i A mt M = Fin
  lr : -1 ≤ last ∧ last ≤ 1114111
  fl : ∀ x, 0 < x → x < 64 → ∃ k, regexp_lazyFlag_match.f k F x = some (holds (condZ last (dec s i).1) x)
  ile : i ≤ s.size
  fu : s.size + 2 ≤ k + i
  plb : pl ≤ L.length * i
def EndI (L : List I) (W0 : World) (mb n cc mcb : Nat) (mc : Nat → Value) (mt : Bool) (M : List Int) (w : World) : Prop :=
  Below W0.heap.size W0 w ∧ ∃ mr : Nat → Value, w.heap[mb]? = some (mach mr) ∧ mr 7 = .bool mt ∧ mr 8 = .slice (some ⟨mcb, 0, none⟩) n cc ∧ CapAt w n cc mcb M ∧ mr 9 = mc 9 ∧ mr 11 = mc 11
section
variable {L : List I} {W0 : World} {p mb lf z n cc : Nat} {ad : Addr} {mcb rb : Nat} {s : ByteArray} {mc : Nat → Value} {ra qo sp sq de rde pl : Nat} {mr : Nat → Value} {E : List En} {pool : List Th} {A : List Ae} {mt : Bool} {M : List Int} {F : Int} {wr w1 : World}
theorem PutI.kept {mr1 : Nat → Value} {E1 : List En} {pool1 : List Th} {A1 : List Ae} {mt1 : Bool} {M1 : List Int} {F1 : Int} (h : PutI L W0 p mb lf z n cc ad mcb rb s mc ra qo sp sq de rde pl mr E pool A mt M F wr)
    (k : SI L.length W0 p mb qo sp de lf z n cc F1 ad [] [] mcb ra rde pl mr wr none 0 w1 mr1 E1 pool1 A1 mt1 M1) (kp : Kpt sp de wr w1) (hw : ∀ a ∈ A1, a.2.isSome = waitsB (ins L a.1)) : PutI L W0 p mb lf z n cc ad mcb rb s mc ra qo sp sq de rde pl mr1 E1 pool1 A1 mt1 M1 F1 w1 := by
  have hq := h.si.rq
  obtain ⟨q1, q2⟩ := h.si.apartQ
  exact ⟨k.root (by have := k.pl; simpa using this), h.jx.keep kp (fun sa hs => q1 _ _ hs) (fun da hd => q2 _ _ hd) (k.mm ra (by omega) (by omega) (by omega)) (k.mm 0 (by omega) (by omega) (by omega)) (k.mm 10 (by omega) (by omega) (by omega)), hw, (k.mm 9 (by omega) (by omega) (by omega)).trans h.m9, (k.mm 11 (by omega) (by omega) (by omega)).trans h.m11⟩
theorem PutI.capm (h : PutI L W0 p mb lf z n cc ad mcb rb s mc ra qo sp sq de rde pl mr E pool A mt M F wr) (hn : 0 < n) (v : Int) : PutI L W0 p mb lf z n cc ad mcb rb s mc ra qo sp sq de rde pl mr E pool A mt (M.set 0 v) F (wr.setCell ⟨mcb, 0, none⟩ (.int .i64 v)) := by
  have k := h.si.capm (w1 := wr.setCell ⟨mcb, 0, none⟩ (.int .i64 v)) ((Fr.refl _ _).set _ rfl) (h.si.cp.set hn v)
  exact h.kept k k.kp h.wt
theorem PutI.grow (h : PutI L W0 p mb lf z n cc ad mcb rb s mc ra qo sp sq de rde pl mr E pool A mt M F wr) (hb : Below wr.heap.size wr w1) : PutI L W0 p mb lf z n cc ad mcb rb s mc ra qo sp sq de rde pl mr E pool A mt M F w1 := by
  have k := h.si.grow hb
  exact h.kept k k.kp h.wt
theorem PutI.drewN (h : PutI L W0 p mb lf z n cc ad mcb rb s mc ra qo sp sq de rde pl mr E pool A mt M F wr) (m : Nat) : PutI L W0 p mb lf z n cc ad mcb rb s mc ra qo sp sq de rde pl mr E pool A mt M F (wr.drewN m) := by
  have k := h.si.drewN m
  exact h.kept k k.kp h.wt
theorem PutI.flag (h : PutI L W0 p mb lf z n cc ad mcb rb s mc ra qo sp sq de rde pl mr E pool A mt M F wr) (hl : W0.heap.size ≤ lf) (F' : Int) : PutI L W0 p mb lf z n cc ad mcb rb s mc ra qo sp sq de rde pl mr E pool A mt M F' (wr.setCell ⟨lf, 0, none⟩ (.int .u64 F')) :=
  h.kept (h.si.flag (F' := F') hl) h.si.flagK h.wt
theorem PutI.add {stI ncp most : Int} (h : PutI L W0 p mb lf z n cc ad mcb rb s mc ra qo sp sq de rde pl mr E pool A mt M F wr) (hS : PSound L stI ncp most) (hm : L.length ≤ 2000) (cond : Int) (hmatch : ∀ a, 0 < a → a < 64 → ∃ k, regexp_lazyFlag_match.f k F a = some (holds cond a)) (hP : Prg W0 L p ad) (st : Nat) (hst : st < L.length) (pos : Int) :
    Calls Tryd.prog 44 #[.pointer (some ⟨mb, 0, none⟩), .pointer (some ⟨mb, qo, none⟩), .int .u32 (st : Int), .int .i64 pos, .slice (some ⟨mcb, 0, none⟩) n cc, .pointer (some ⟨lf, 0, none⟩), .pointer none] wr fun e w' =>
      ∃ mr1 E1 pool1 t1, e = .returned (ptrT t1) ∧ PutI L W0 p mb lf z n cc ad mcb rb s mc ra qo sp sq de rde pl mr1 E1 pool1 (A ++ aF L cond pos (L.length + 1) (A.map Prod.fst) st M) mt M F w' := by
  have h0 : MS L.length W0 wr p mb qo sp de lf z n cc F mr E pool ((none : Option Th).toList ++ []) := h.si.ms
  refine (madd_calls hS.leads hm (fun pc hp => (hS.op pc hp)) hS.arg3 (fun pc hpc h2 => by have := hS.arg2 pc hpc h2; have := hS.nc1; omega) cond F hmatch W0 p ad hP mb qo sp de lf z n cc mcb h.si.cl pos (L.length + 1) wr mr E pool [] none st M h0 h.si.cp (fun x hx => h.si.nm x (by simp [hx])) (fun x hx => by cases hx) hst (by omega)).mono ?_
  rintro e w' ⟨mr1, new, pool1, t1, rfl, har⟩
  have ht1 : t1 = none := by rcases har.tt with e | e <;> exact e
  subst ht1
  have k := h.si.add_ har
  rw [h.si.rE.fst] at k
  refine ⟨mr1, E ++ new, pool1, none, rfl, h.kept k k.kp fun a ha => ?_⟩
  rcases List.mem_append.1 ha with ha | ha
  · exact h.wt a ha
  · exact aF_waits _ _ _ _ _ _ _ a ha
theorem PutI.step {stI ncp most : Int} (h : PutI L W0 p mb lf z n cc ad mcb rb s mc ra qo sp sq de rde pl mr E pool A mt M F wr) (hS : PSound L stI ncp most) (hm : L.length ≤ 2000) (cond : Int) (hmatch : ∀ a, 0 < a → a < 64 → ∃ k, regexp_lazyFlag_match.f k F a = some (holds cond a)) (hP : Prg W0 L p ad) (hF : Folds W0) (hn : n = 0 ∨ 2 ≤ n) (long : Bool) (hre : W0.cell? ⟨rb, 15, none⟩ = some (.bool long)) (hpl : pl + L.length ≤ 1900000) (c pos np : Int) :
    Calls Tryd.prog 45 #[.pointer (some ⟨mb, 0, none⟩), .pointer (some ⟨mb, qo, none⟩), .pointer (some ⟨mb, ra, none⟩), .int .i64 pos, .int .i64 np, .int .i32 c, .pointer (some ⟨lf, 0, none⟩)] wr fun e w' =>
      ∃ mr1 E1 pool1, e = .returned (.tuple #[]) ∧ PutI L W0 p mb lf z n cc ad mcb rb s mc qo ra sq sp rde de (pl + L.length) mr1 E1 pool1 (stepF L long n c cond pos np A ([], mt, M)).1 (stepF L long n c cond pos np A ([], mt, M)).2.1 (stepF L long n c cond pos np A ([], mt, M)).2.2 F w' := by
  have hq := h.si.rq
  obtain ⟨da, d1, d2, d3⟩ := h.si.ms.da
  obtain ⟨q1, q2⟩ := h.si.apartQ
  obtain ⟨sa', s1', _⟩ := h.jx.qs
  have hlen := h.si.ms.len
  have hls := h.si.ms.ls
  have hpp : pool.length ≤ pl := by have := h.si.pl; simpa using this
  refine (mstep_calls hS hm cond F hmatch W0 p ad hP hF mb ra sq rde lf z n cc mcb qo de rb pl hn long hre c pos np E A mr wr pool mt M h.jx.m0 da d1 d3 ⟨Ne.symm (q1 _ _ s1'), Ne.symm h.jx.qn.2⟩ (fun e he => ⟨h.si.ms.fi.lt _ (List.mem_map_of_mem he), fun hsm => by
    obtain ⟨a, ha, e1, e2⟩ := rel_mem h.si.rE e he
    rw [e1, ← h.wt a ha, ← e2]; exact hsm⟩) (h.si.turn h.jx hpp) (by omega) (by omega)).mono ?_
  rintro e w' ⟨mr1, E1, pool1, rfl, k⟩
  have hp1 : pool1.length ≤ pl + L.length := by have := k.pl; simp at this; omega
  refine ⟨mr1, E1, pool1, rfl, k.root hp1, h.si.turned h.jx k, stepF_waits L long n c cond pos np A [] mt M (fun a h => by cases h), ?_, ?_⟩
  · exact ((k.mm 9 (by omega) (by omega) (by omega)).trans (up_ne _ _ (by omega))).trans h.m9
  · exact ((k.mm 11 (by omega) (by omega) (by omega)).trans (up_ne _ _ (by omega))).trans h.m11
theorem PutI.clear (h : PutI L W0 p mb lf z n cc ad mcb rb s mc ra qo sp sq de rde pl mr E pool A mt M F wr) (hpl : pl + L.length ≤ 1900000) :
    Calls Tryd.prog 46 #[.pointer (some ⟨mb, 0, none⟩), .pointer (some ⟨mb, qo, none⟩)] wr fun e w' => e = .returned (.tuple #[]) ∧ EndI L W0 mb n cc mcb mc mt M w' := by
  have hq := h.si.rq
  obtain ⟨da, d1, d2, d3⟩ := h.si.ms.da
  obtain ⟨q1, q2⟩ := h.si.apartQ
  obtain ⟨sa', s1', _⟩ := h.jx.qs
  have hlen := h.si.ms.len
  have hpp : pool.length ≤ pl := by have := h.si.pl; simpa using this
  refine (clear_calls (h.si.turn h.jx hpp) da d1 d3 ⟨Ne.symm (q1 _ _ s1'), Ne.symm h.jx.qn.2⟩ (by omega)).mono ?_
  rintro e w' ⟨mr1, pool1, rfl, k⟩
  refine ⟨rfl, k.ms.bl, mr1, k.ms.ma, k.m7, k.m8, k.cp, ?_, ?_⟩
  · exact ((k.mm 9 (by omega) (by omega) (by omega)).trans (up_ne _ _ (by omega))).trans h.m9
  · exact ((k.mm 11 (by omega) (by omega) (by omega)).trans (up_ne _ _ (by omega))).trans h.m11
theorem PutI.clear0 (h : PutI L W0 p mb lf z n cc ad mcb rb s mc ra qo sp sq de rde pl mr [] pool [] mt M F wr) (hpl : pl + L.length ≤ 1900000) :
    Calls Tryd.prog 46 #[.pointer (some ⟨mb, 0, none⟩), .pointer (some ⟨mb, ra, none⟩)] wr fun e w' => e = .returned (.tuple #[]) ∧ EndI L W0 mb n cc mcb mc mt M w' := by
  have hq := h.si.rq
  obtain ⟨da, d1, d2⟩ := h.jx.qd
  obtain ⟨q1, q2⟩ := h.si.apartQ
  have hpp : pool.length ≤ pl := by have := h.si.pl; simpa using this
  refine (clear_calls h.si da d1 (fun i e he => by simp at he) ⟨q2 _ _ d1, h.jx.qn.2⟩ (by simp; omega)).mono ?_
  rintro e w' ⟨mr1, pool1, rfl, k⟩
  refine ⟨rfl, k.ms.bl, mr1, k.ms.ma, k.m7, k.m8, k.cp, ?_, ?_⟩
  · exact ((k.mm 9 (by omega) (by omega) (by omega)).trans (up_ne _ _ (by omega))).trans h.m9
  · exact ((k.mm 11 (by omega) (by omega) (by omega)).trans (up_ne _ _ (by omega))).trans h.m11
theorem LoopI.next {long anch : Bool} {st : Nat} {Fin : Bool × List Int} {i k : Nat} {last : Int} {A1 A2 : List Ae} {M1 M2 : List Int} {mt2 : Bool}
    (h : LoopI L W0 p mb lf z n cc ad mcb rb s long anch st Fin mc i (k + 1) last ra qo sp sq de rde pl mr E pool A mt M F wr) (hbr : ¬ (A = [] ∧ ((anch = true ∧ i ≠ 0) ∨ mt = true)))
    (hM1 : M1 = if mt = true then M else M.set 0 (i : Int)) (hA1 : A1 = if mt = true then A else A ++ aF L (condZ last (dec s i).1) (i : Int) (L.length + 1) (A.map Prod.fst) st M1)
    (hr : stepF L long n (dec s i).1 (condZ (dec s i).1 (dec s (i + (dec s i).2)).1) (i : Int) ((i + (dec s i).2 : Nat) : Int) A1 ([], mt, M1) = (A2, mt2, M2)) :
    ((dec s i).2 = 0 → (mt2, M2) = Fin) ∧ ((dec s i).2 ≠ 0 → n = 0 → mt2 = true → (mt2, M2) = Fin) ∧ ((dec s i).2 ≠ 0 → ¬ (n = 0 ∧ mt2 = true) → mLoop L st long anch s k (dec s i).1 (i + (dec s i).2) A2 mt2 M2 = Fin) := by
  have hML : M.length = n := by obtain ⟨_, _, h, _⟩ := h.pi.si.cp; exact h
  have hf := h.fin
  rw [mLoop, if_neg hbr] at hf
  simp only [← hM1] at hf
  rw [← hA1, hML, hr] at hf
  refine ⟨fun h0 => ?_, fun h0 h1 h2 => ?_, fun h0 h1 => ?_⟩
  · rw [if_pos h0] at hf; exact hf
  · rw [if_neg h0, if_pos ⟨h1, h2⟩] at hf; exact hf
  · rw [if_neg h0, if_neg h1] at hf; exact hf
end
end Go.Proofs.YtmccgfjhmbioeaaDoor.PgFnPgThreads
