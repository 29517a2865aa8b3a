import Derived.Test.YteoljppcafakpaaDoorPaFnPgWalk
import Derived.Test.YteoljppcafakpaaDoorViFnPgWalk
import Derived.Test.YteoljppcafakpaaDoorKaFnPgWalk
import Derived.Test.YteoljppcafakpaaDoorWaFnPgWalk
import Derived.Test.YteoljppcafakpaaDoorTcFnPgWalk
import Derived.Test.YteoljppcafakpaaDoorTbFnPgWalk
import Derived.Test.YteoljppcafakpaaDoorFiFnPgWalk
import Derived.Test.YteoljppcafakpaaDoorKbFnPgWalk
import Derived.Test.YteoljppcafakpaaDoorVlFnPgWalk
import Derived.Test.YteoljppcafakpaaDoorVfFnPgWalk
import Derived.Laws.AppendOwnNone
import Derived.IntWalk
import Derived.Test.YteoljppcafakpaaDoorPimFnPgWalk
import Derived.ProofKit
import Derived.Deep.Slices
import Derived.Test.YteoljppcafakpaaDoorSh
import Derived.Test.YteoljppcafakpaaDoorRows
import Derived.Lib.LaidU8
import Derived.Test.YteoljppcafakpaaDoorTie
import Derived.Test.YteoljppcafakpaaDoorCards
import Derived.OpenShut
import Derived.ChangeOld
import Derived.ShutString
import Derived.Below
import Derived.Carry
import Derived.SizedLaws
import Derived.LaidMore
import Derived.Lay
import Derived.SevenTiedAt
import Derived.Stop.Joined
namespace Go.Proofs.YteoljppcafakpaaDoor.PgFnPgWalk
open Go.RowKit Go.Proofs.YteoljppcafakpaaDoor.EvN Go.Proofs.YteoljppcafakpaaDoor.PFnPgWalk Go.Proofs.YteoljppcafakpaaDoorW.PrintWords Go.Proofs.YteoljppcafakpaaDoorW.PrintLast Go.Proofs.YteoljppcafakpaaDoorW.PrintMore
theorem ev_intsL (l : List Int) (hl : l.length ≤ 4000) (hx : ∀ x ∈ l, 0 ≤ x ∧ x < 4294967296) : ∀ (n i : Nat), l.length = i + n → Evn (fun k => impl_ints.l0 k (l.take i) l (l.length : Int) (i : Int)) l := by
  intro n
  induction n with
  | zero =>
    intro i hi
    refine Evn.succ (Evn.congr (Evn.const _) fun k => ?_)
    simp only [impl_ints.l0]
    rw [if_neg (by omega), List.take_of_length_le (by omega)]
  | succ n ih =>
    intro i hi
    have e1 : wrap64 ((i : Int) + 1) = ((i + 1 : Nat) : Int) := wrap_nat i 1 (by omega)
    refine Evn.succ ?_
    have q1 : (i : Int) < (l.length : Int) := by omega
    have q2 : (0 : Int) ≤ (i : Int) := by omega
    have q3 : (l.take i).length < 17592186044416 := by rw [List.length_take]; omega
    have hb := hx _ (List.getElem_mem (show i < l.length by omega))
    have e2 : wrap64 (l[i]'(by omega)) = l[i]'(by omega) := by unfold wrap64; omega
    simp only [impl_ints.l0, if_pos q1, if_pos q2, if_pos q3, e1, rd_nat l i (by omega), e2]
    rw [← List.take_succ_eq_append_getElem (show i < l.length by omega)]
    exact ih (i + 1) (by omega)
theorem ev_ints (l : List Int) (hl : l.length ≤ 4000) (hx : ∀ x ∈ l, 0 ≤ x ∧ x < 4294967296) : Evn (fun k => impl_ints.f k l) l :=
  Evn.congr (g := fun k => impl_ints.l0 k (l.take 0) l (l.length : Int) 0) (ev_intsL l hl hx l.length 0 (by omega)) fun k => rfl
end Go.Proofs.YteoljppcafakpaaDoor.PgFnPgWalk
namespace Go.Proofs.YteoljppcafakpaaDoor.PgFnPgWalk
open Go.RowKit Go.Proofs.YteoljppcafakpaaDoor.EvN Go.Proofs.YteoljppcafakpaaDoor.PFnPgWalk Go.Proofs.YteoljppcafakpaaDoorW.PrintWords Go.Proofs.YteoljppcafakpaaDoorW.PrintLast Go.Proofs.YteoljppcafakpaaDoorW.PrintMore
theorem ev_sameIntsL (l : List Int) (hl : l.length ≤ 4611686018427387000) : ∀ (n i : Nat), l.length = i + n → Evn (fun k => spec_SameInts.l0 k l l (l.length : Int) (i : Int)) true := by
  intro n
  induction n with
  | zero =>
    intro i hi
    refine Evn.succ (Evn.congr (Evn.const _) fun k => ?_)
    simp only [spec_SameInts.l0]
    rw [if_neg (by omega)]
  | succ n ih =>
    intro i hi
    have e1 : wrap64 ((i : Int) + 1) = ((i + 1 : Nat) : Int) := wrap_nat i 1 (by omega)
    refine Evn.succ ?_
    have q1 : (i : Int) < (l.length : Int) := by omega
    have q2 : (0 : Int) ≤ (i : Int) := by omega
    simp only [spec_SameInts.l0, if_pos q1, if_pos q2, e1, if_true]
    exact ih (i + 1) (by omega)
theorem ev_sameInts (l : List Int) (hl : l.length ≤ 4611686018427387000) : Evn (fun k => spec_SameInts.f k l l) true :=
  Evn.congr (g := fun k => spec_SameInts.l0 k l l (l.length : Int) 0) (ev_sameIntsL l hl l.length 0 (by omega)) fun k => by simp only [spec_SameInts.f, if_true]
end Go.Proofs.YteoljppcafakpaaDoor.PgFnPgWalk
namespace Go.Proofs.YteoljppcafakpaaDoor.PgFnPgWalk
open Go.RowKit Go.Proofs.YteoljppcafakpaaDoor.EvN Go.Proofs.YteoljppcafakpaaDoor.Row Go.Proofs.YteoljppcafakpaaDoor.PFnPgWalk Go.Proofs.YteoljppcafakpaaDoorW.PrintWords Go.Proofs.YteoljppcafakpaaDoorW.PrintLast Go.Proofs.YteoljppcafakpaaDoorW.PrintMore
set_option linter.unusedSimpArgs false
set_option linter.unusedVariables false
set_option maxRecDepth 100000 in
set_option maxHeartbeats 4000000 in
theorem queued_calls {L : List I} {st nc : Int} (h : PSound L st nc 2000) (hr : ∀ i ∈ L, i.f3.length * 4 ≤ 140737488351232) (w : World) (A : Option Addr) (c : Nat) (hK : Kd.C k29 w A L.length L) (hc : L.length ≤ c)
    (pcs : List Nat) (Ap : Option Addr) (cp : Nat) (hp : ∀ pc ∈ pcs, pc < L.length) (hl : pcs.length ≤ 4000) (hPC : Kd.C (Kd.int .i64) w Ap (pcs.map fun (x : Nat) => (x : Int)).length (pcs.map fun (x : Nat) => (x : Int))) :
    Calls Tryd.prog 31 #[.agg #[.slice A L.length c, .int .i64 st, .int .i64 nc], .slice Ap pcs.length cp] w fun e w' => ∃ p lv, e = .returned (.tuple #[.pointer (some ⟨p, 0, none⟩), lv, .bool true]) ∧ ProgAt w' p L st nc ∧
      RowAt w' (fun i => w.heap.size ≤ i ∧ i < w'.heap.size) 54 lv ((pcs.map fun (x : Nat) => (x : Int)).map (Value.int .u32)) ∧ Below w.heap.size w w' := by
  have hu24 := Tryd.underlying24
  have hm : L.length ≤ 2000 := by have := h.most; omega
  have HS := Lib.hid h
  have HR := Lib.hid hr
  have HK := Lib.hid hK
  have HPP := Lib.hid hp
  have HPC := Lib.hid hPC
  clear h hr hK hp hPC
  go_enter Tryd.func31, Tryd.ntmps31
  go_wp2_with (first | ((with_reducible refine gate_dst (N := 2) rfl ?_); refine box_event ?hg (N := 2) ?hd (cs := #[.slice A L.length c, .int .i64 st, .int .i64 nc]) (t := 24) ?hr ?_; (case hd => rfl); (case hg => rfl); (case hr => first | (go_simp; done) | (go_simp; rfl)); intro gb hg w1 hbox hb; have BK := Lib.hid hbox; have HB1 := Lib.hid hb; have GB : w.heap.size ≤ gb := (by omega); clear hg hbox hb; obtain ⟨hz0, hz1, hz2⟩ := blk3 BK.out))
  refine (prog_calls HS.out HR.out w w1 A c HK.out hc HB1.out).mono ?_
  rintro e w2 ⟨p, rfl, hlp, hpa, hb2⟩
  have HPA := Lib.hid hpa
  have HB2 := Lib.hid hb2
  have BK2 := Lib.hid (blk_below BK.out hb2)
  clear hz0 hz1 hz2 hpa hb2 BK
  have HLN := Lib.hid (show (pcs.map fun (x : Nat) => (x : Int)).length = pcs.length by simp)
  go_wp2_with fail
  go_loopg [9, 21] pcs.length (fun gk s9 s21 wr => ∃ (k : Nat), Hid (gk + k = pcs.length ∧ wr.ownsRow w2.heap.size 54 1 s9 k (((pcs.take k).map fun (x : Nat) => (x : Int)).map (Value.int .u32)) ∧ Below w2.heap.size w2 wr) ∧ k ≤ pcs.length ∧ s21 = .int .i64 k)
  case atStart => exact ⟨0, ⟨by omega, World.ownsRow_nil _ _ _ _, Below.refl _ w2⟩, Nat.zero_le _, rfl⟩
  case round =>
    obtain ⟨k, HI, hk, rfl⟩ := hrel
    by_cases hlt : k < pcs.length
    · have hpk := HPP.out _ (List.getElem_mem hlt)
      have hbw : Below w.heap.size w wr := below_step (below_step HB1.out HB2.out) HI.out.2.2
      obtain ⟨adp, e, hx⟩ := kd_cell HPC.out hbw k (by rw [HLN.out]; exact hlt)
      cases e
      rw [List.getElem_map] at hx
      obtain ⟨hz0, hz1, hz2⟩ := blk3 (blk_below BK2.out HI.out.2.2)
      have hd1 : decide ((pcs[k] : Int) < 0) = false := decide_eq_false (by omega)
      have hd2 : decide ((pcs[k] : Int) ≥ (L.length : Int)) = false := decide_eq_false (by omega)
      clear hbw
      go_wp2_with (at_builtin; refine My.app1 rfl (.tmp 34) (.tmp 37) 65 rfl 54 (.int .u32 0) 4 Tryd.underlying65 iu32 rfl _ k _ rfl w2.heap.size w2 (HI.out.2.1.alloc _) (below_alloc HI.out.2.2 _) (Nat.le_refl _) wr.heap.size rfl (.int .u32 (pcs[k] : Int)) (by simp) rfl (by omega) (by unfold maxLen; omega) ?_; intro v1 w3 hown1 hbel1 hg1)
      go_roundg (gk - 1)
      case measure => have := HI.out.1; omega
      case rel =>
        refine ⟨k + 1, ⟨by have := HI.out.1; omega, ?_, hbel1.out⟩, by omega, by go_num⟩
        rw [List.take_succ_eq_append_getElem hlt, List.map_append, List.map_append]
        exact hown1.out
    · have hke : k = pcs.length := by omega
      subst hke
      rw [List.take_length] at HI
      go_wp2_with fail
      go_ret3
      have hb2 := below_step HB1.out HB2.out
      have hs := hb2.size
      exact ⟨p, _, rfl, HPA.out.below HI.out.2.2, RowAt.of_owns HI.out.2.1 (fun g hg => by have := HI.out.2.1.lt g hg; omega), below_step hb2 HI.out.2.2⟩
end Go.Proofs.YteoljppcafakpaaDoor.PgFnPgWalk
namespace Go.Proofs.YteoljppcafakpaaDoor.PgFnPgWalk
open Go.RowKit Go.Proofs.YteoljppcafakpaaDoor.EvN Go.Proofs.YteoljppcafakpaaDoor.Row Go.Proofs.YteoljppcafakpaaDoor.PFnPgWalk Go.Proofs.YteoljppcafakpaaDoorW.PrintWords Go.Proofs.YteoljppcafakpaaDoorW.PrintLast Go.Proofs.YteoljppcafakpaaDoorW.PrintMore
set_option linter.unusedSimpArgs false
set_option linter.unusedVariables false
theorem own_apart {w : World} {B n m : Nat} {e e2 : TypeId} {v v2 : Value} {xs ys : List Value} (h : w.ownsRow B e 1 v n xs) (h2 : w.ownsRow B e2 1 v2 m ys) (hne : e ≠ e2) : v.ownBlock = none ∨ v.ownBlock ≠ v2.ownBlock := by
  rcases h.2 with ⟨rfl, _⟩ | ⟨g, cap, cur, rfl, _, hg, _⟩
  · exact .inl rfl
  · right
    rcases h2.2 with ⟨rfl, _⟩ | ⟨g2, cap2, cur2, rfl, _, hg2, _⟩
    · simp [Value.ownBlock]
    · intro e
      have : g = g2 := by simpa [Value.ownBlock] using e
      exact blk_ne hg hg2 hne this
theorem box_kept {wr w1 : World} {t : TypeId} {x y : Value} {U : Obj} {row : Option Nat} (hg : ((wr.alloc (.cells #[x, y] t)).alloc U).grownBy w1 row) (hr : ∀ g, row = some g → g < wr.heap.size) : w1.cell? ⟨wr.heap.size, 1, none⟩ = some y := by
  have h0 := (hg.block wr.heap.size (by simp; omega) (fun e => by have := hr _ e.symm; omega)).trans ((Below.heap_alloc _ _ _ (by simp)).trans (heap_alloc_new wr (.cells #[x, y] t)))
  exact (blk_cell h0 1).trans rfl
set_option maxRecDepth 100000 in
set_option maxHeartbeats 4000000 in
theorem queue_calls (w : World) (mb qo de S : Nat) (mc : Nat → Value) (da : Array Value) (E : List En) (hm : w.heap[mb]? = some (mach mc)) (hq : qo = 2 ∨ qo = 4) (hd : mc (qo + 1) = .slice (some ⟨de, 0, none⟩) E.length S)
    (hda : w.heap[de]? = some (.cells da 158 (0, 0))) (hE : ∀ (i : Nat) (e : En), E[i]? = some e → da[i * 2]? = some (.int .u32 e.1) ∧ da[i * 2 + 1]? = some (ptrT e.2)) (hl : E.length ≤ 2000) :
    Calls Tryd.prog 56 #[.pointer (some ⟨mb, qo, none⟩)] w fun e w' => ∃ lv tv, e = .returned (.tuple #[lv, tv]) ∧ RowAt w' (fun i => w.heap.size ≤ i ∧ i < w'.heap.size) 54 lv (E.map fun e => .int .u32 (e.1 : Int)) ∧
      RowAt w' (fun i => w.heap.size ≤ i ∧ i < w'.heap.size) 4 tv (E.map fun e => .bool e.2.isSome) ∧ Below w.heap.size w w' := by
  have hc1 : w.cell? ⟨mb, qo + 1, none⟩ = some (.slice (some ⟨de, 0, none⟩) E.length S) := by rw [← hd]; exact mach_cell hm _ (by omega)
  have HM := Lib.hid hm
  have HDA := Lib.hid hda
  have HE := Lib.hid hE
  clear hm hda hE
  go_enter Tryd.func56, Tryd.ntmps56
  go_wp2_with fail
  go_loopg [2, 3, 11] E.length (fun gk s2 s3 s11 wr => ∃ (k : Nat), Hid (gk + k = E.length ∧ wr.ownsRow w.heap.size 54 1 s2 k ((E.take k).map fun e => .int .u32 (e.1 : Int)) ∧ wr.ownsRow w.heap.size 4 1 s3 k ((E.take k).map fun e => .bool e.2.isSome) ∧ Below w.heap.size w wr) ∧ k ≤ E.length ∧ s11 = .int .i64 k)
  case atStart => exact ⟨0, ⟨by omega, World.ownsRow_nil _ _ _ _, World.ownsRow_nil _ _ _ _, Below.refl _ w⟩, Nat.zero_le _, rfl⟩
  case round =>
    obtain ⟨k, HI, hk, rfl⟩ := hrel
    by_cases hlt : k < E.length
    · have hda1 := blk_below HDA.out HI.out.2.2.2
      obtain ⟨hx1, hx2⟩ := HE.out k E[k] (List.getElem?_eq_getElem hlt)
      have hx0 : wr.cell? ⟨de, k * 2, none⟩ = some (.int .u32 (E[k].1 : Int)) := (blk_cell hda1 _).trans hx1
      have hx1 : wr.cell? ⟨de, k * 2 + 1, none⟩ = some (ptrT E[k].2) := (blk_cell hda1 _).trans hx2
      clear hda1 hx2
      have htv : ∃ (o : Option Addr), ptrT E[k].2 = .pointer o ∧ o.isSome = E[k].2.isSome := by
        cases E[k].2 <;> exact ⟨_, rfl, rfl⟩
      obtain ⟨o, ho, hs⟩ := htv
      rw [ho] at hx1
      have hlt2 : ∀ g, u2.ownBlock = some g → g < wr.heap.size := fun g hg => (HI.out.2.1.lt g hg).2
      go_wp2_with (at_builtin; first
        | (refine My.app1 rfl (.tmp 15) (.tmp 18) 65 rfl 54 (.int .u32 0) 4 Tryd.underlying65 iu32 rfl _ k _ rfl w.heap.size w ((HI.out.2.1.alloc _).alloc _) (below_alloc (below_alloc HI.out.2.2.2 _) _) (Nat.le_refl _) (wr.heap.size + 1) rfl (.int .u32 (E[k].1 : Int)) (by simp) rfl (by omega) (by unfold maxLen; omega) ?_; intro v1 w1 hown1 hbel1 hg1; have hce := box_kept hg1.out hlt2; have HO3 := Lib.hid (((HI.out.2.2.1.alloc _).alloc _).kept hg1.out (own_apart HI.out.2.2.1 HI.out.2.1 (by decide))))
        | (refine My.app1 rfl (.tmp 20) (.tmp 24) 39 rfl 4 (.bool false) 1 Tryd.underlying39 ibool rfl _ k _ rfl w.heap.size w (HO3.out.alloc _) (below_alloc hbel1.out _) (Nat.le_refl _) w1.heap.size rfl (.bool o.isSome) (by simp; try exact hs.symm) rfl (by omega) (by unfold maxLen; omega) ?_; intro v2 w2 hown2 hbel2 hg2))
      go_roundg (gk - 1)
      case measure => have := HI.out.1; omega
      case rel =>
        have e1 : ∀ {α : Type} (f : En → α), (E.take (k + 1)).map f = (E.take k).map f ++ [f E[k]] := fun f => by rw [List.take_succ_eq_append_getElem hlt, List.map_append]; rfl
        refine ⟨k + 1, ⟨by have := HI.out.1; omega, ?_, ?_, hbel2.out⟩, by omega, by go_num⟩
        · rw [e1]
          exact (hown1.out.alloc _).kept hg2.out (own_apart hown1.out HO3.out (by decide))
        · rw [e1, ← hs]
          exact hown2.out
    · have hke : k = E.length := by omega
      subst hke
      rw [List.take_length] at HI
      go_wp2_with fail
      go_ret2
      refine ⟨u2, u3, rfl, RowAt.of_owns HI.out.2.1 fun g hg => HI.out.2.1.lt g hg, RowAt.of_owns HI.out.2.2.1 fun g hg => HI.out.2.2.1.lt g hg, HI.out.2.2.2⟩
end Go.Proofs.YteoljppcafakpaaDoor.PgFnPgWalk
namespace Go.Proofs.YteoljppcafakpaaDoor.PgFnPgWalk
open Go.RowKit Go.Proofs.YteoljppcafakpaaDoor.EvN Go.Proofs.YteoljppcafakpaaDoor.Row Go.Proofs.YteoljppcafakpaaDoor.PFnPgWalk Go.Proofs.YteoljppcafakpaaDoorW.PrintWords Go.Proofs.YteoljppcafakpaaDoorW.PrintLast Go.Proofs.YteoljppcafakpaaDoorW.PrintMore
set_option linter.unusedVariables false
set_option linter.unusedSimpArgs false
theorem reachA_append (L : List I) (cond : Int) (D p q : List Nat) : reachA L cond D (p ++ q) = reachA L cond (reachA L cond D p) q := by unfold reachA; rw [List.foldl_append]
theorem waits_not4 {i : I} (h : waitsB i = false) : (i.f0 == 4) = false := by
  rw [beq_eq_false_iff_ne]
  intro e
  unfold waitsB at h
  simp [e] at h
theorem goes_not {L : List I} {c : Int} {pc : Nat} (h : waitsB (ins L pc) = false) : goes L c pc = false := by unfold goes; rw [h]; simp
theorem nextP_cons (L : List I) (c : Int) (pc : Nat) (D : List Nat) : nextP L c (pc :: D) = (if goes L c pc = true then [(ins L pc).f1.toNat] else []) ++ nextP L c D := by
  unfold nextP
  rw [List.filter_cons]
  split <;> simp
theorem hasM_cons (L : List I) (pc : Nat) (D : List Nat) : hasM L (pc :: D) = (((ins L pc).f0 == 4) || hasM L D) := by simp [hasM]
theorem stepF0 (L : List I) (c cond pos np : Int) : ∀ (RA A : List Ae) (m : Bool) (M : List Int), (∀ a ∈ RA, a.2.isSome = waitsB (ins L a.1)) →
    (stepF L true 0 c cond pos np RA (A, m, M)).1.map Prod.fst = reachA L cond (A.map Prod.fst) (nextP L c (RA.map Prod.fst)) ∧ (stepF L true 0 c cond pos np RA (A, m, M)).2.1 = (m || hasM L (RA.map Prod.fst)) ∧
      ((∀ a ∈ A, a.2.isSome = waitsB (ins L a.1)) → ∀ a ∈ (stepF L true 0 c cond pos np RA (A, m, M)).1, a.2.isSome = waitsB (ins L a.1)) := by
  intro RA
  induction RA with
  | nil => intro A m M _; exact ⟨rfl, by simp [stepF, hasM], fun h => h⟩
  | cons a RA ih =>
    intro A m M h
    have h1 := h a (by simp)
    have h2 : ∀ a ∈ RA, a.2.isSome = waitsB (ins L a.1) := fun b hb => h b (by simp [hb])
    obtain ⟨pc, o⟩ := a
    simp only at h1
    rw [List.map_cons, nextP_cons, hasM_cons]
    cases o with
    | none =>
      have hw : waitsB (ins L pc) = false := h1.symm
      rw [stepF, goes_not hw, waits_not4 hw]
      simpa using ih A m M h2
    | some C =>
      have hw : waitsB (ins L pc) = true := h1.symm
      rw [stepF, if_neg (by simp)]
      by_cases h4 : (ins L pc).f0 = 4
      · rw [if_pos h4, if_pos rfl]
        have hg : goes L c pc = false := by unfold goes; simp [h4]
        have e4 : ((ins L pc).f0 == 4) = true := by simp [h4]
        rw [hg, e4]
        have := ih A true M h2
        simpa using this
      · rw [if_neg h4]
        have e4 : ((ins L pc).f0 == 4) = false := by rw [beq_eq_false_iff_ne]; exact h4
        by_cases ht : takesB (ins L pc) c = true
        · have hg : goes L c pc = true := by unfold goes; rw [e4, hw, ht]; rfl
          rw [if_pos ht, hg, e4, if_pos rfl, reachA_append]
          obtain ⟨i1, i2, i3⟩ := ih (A ++ aF L cond np (L.length + 1) (A.map Prod.fst) (ins L pc).f1.toNat C) m M h2
          refine ⟨?_, by simpa using i2, fun hA => i3 fun b hb => ?_⟩
          · rw [i1, List.map_append, aF_rF]; rfl
          · rcases List.mem_append.1 hb with hb | hb
            · exact hA b hb
            · exact aF_waits L cond np _ _ _ _ b hb
        · have hg : goes L c pc = false := by unfold goes; rw [Bool.not_eq_true] at ht; rw [ht]; simp
          rw [if_neg ht, hg, e4]
          simpa using ih A m M h2
theorem hasM_filter (L : List I) (D : List Nat) : hasM L (D.filter fun pc => waitsB (ins L pc)) = hasM L D := by
  induction D with
  | nil => rfl
  | cons pc D ih =>
    rw [List.filter_cons, hasM_cons]
    cases hw : waitsB (ins L pc) with
    | true => rw [if_pos rfl, hasM_cons, ih]
    | false => rw [if_neg (by simp), ih, waits_not4 hw, Bool.false_or]
theorem nextP_filter (L : List I) (c : Int) (D : List Nat) : nextP L c (D.filter fun pc => waitsB (ins L pc)) = nextP L c D := by
  induction D with
  | nil => rfl
  | cons pc D ih =>
    rw [List.filter_cons, nextP_cons]
    cases hw : waitsB (ins L pc) with
    | true => rw [if_pos rfl, nextP_cons, ih]
    | false => rw [if_neg (by simp), ih, goes_not hw]; rfl
theorem rF_wait (L : List I) (cond : Int) (n : Nat) (D : List Nat) (pc : Nat) (h0 : pc ≠ 0) (hD : pc ∉ D) (hw : waitsB (ins L pc) = true) : rF L cond (n + 1) D pc = D ++ [pc] := by
  unfold waitsB at hw
  simp only [Bool.not_eq_true', Bool.or_eq_false_iff, decide_eq_false_iff_not] at hw
  obtain ⟨⟨⟨⟨w0, w2⟩, w6⟩, w3⟩, w5⟩ := hw
  rw [rF, if_neg (fun e => e.elim h0 hD), if_neg w0, if_neg (fun e => e.elim w2 w6), if_neg w3]
theorem reachA_waits (L : List I) (cond : Int) : ∀ (l D : List Nat), (∀ x ∈ l, waitsB (ins L x) = true ∧ x ≠ 0) → (D ++ l).Nodup → reachA L cond D l = D ++ l := by
  intro l
  induction l with
  | nil => intro D _ _; simp [reachA]
  | cons x l ih =>
    intro D h hd
    obtain ⟨h1, h2⟩ := h x (by simp)
    have hx : x ∉ D := fun e => by
      rw [List.nodup_append] at hd
      exact hd.2.2 x e x (by simp) rfl
    have : reachA L cond D (x :: l) = reachA L cond (rF L cond (L.length + 1) D x) l := rfl
    rw [this, rF_wait L cond _ D x h2 hx h1, ih (D ++ [x]) (fun y hy => h y (by simp [hy])) (by simpa using hd)]
    simp
def wkF (L : List I) (s : ByteArray) : Nat → List Nat → Int → Nat → List Nat
  | 0, _, _, _ => []
  | n + 1, pcs, last, i =>
    (if hasM L (reachA L (condZ last (dec s i).1) [] pcs) then [i] else []) ++
      (if (dec s i).2 = 0 then [] else wkF L s n ((reachA L (condZ (dec s i).1 (dec s (i + (dec s i).2)).1) [] (nextP L (dec s i).1 (reachA L (condZ last (dec s i).1) [] pcs))).filter fun pc => waitsB (ins L pc)) (dec s i).1 (i + (dec s i).2))
theorem wkF_dead (L : List I) (s : ByteArray) : ∀ (n : Nat) (pcs : List Nat) (last : Int) (i : Nat), hasM L (reachA L (condZ last (dec s i).1) [] pcs) = false → nextP L (dec s i).1 (reachA L (condZ last (dec s i).1) [] pcs) = [] → wkF L s n pcs last i = [] := by
  intro n
  induction n with
  | zero => intros; rfl
  | succ n ih =>
    intro pcs last i h1 h2
    rw [wkF, h1, h2]
    by_cases hw : (dec s i).2 = 0
    · rw [if_pos hw]; rfl
    · rw [if_neg hw]
      rw [ih _ _ _ (by rfl) (by rfl)]; rfl
theorem wkF_ends {L : List I} {st nc most : Int} (h : PSound L st nc most) (s : ByteArray) : ∀ (n : Nat) (pcs pcs' : List Nat) (last : Int) (i : Nat), (∀ x ∈ pcs', x < L.length) →
    hasM L (reachA L (condZ last (dec s i).1) [] pcs) = hasM L (reachA L (condZ last (dec s i).1) [] pcs') → nextP L (dec s i).1 (reachA L (condZ last (dec s i).1) [] pcs) = nextP L (dec s i).1 (reachA L (condZ last (dec s i).1) [] pcs') →
    wkF L s n pcs last i = endsF L s n pcs' last i := by
  intro n
  induction n with
  | zero => intros; rfl
  | succ n ih =>
    intro pcs pcs' last i hlt h1 h2
    by_cases he : pcs' = []
    · subst he
      rw [endsF_nil]
      exact wkF_dead L s _ _ _ _ (by rw [h1]; rfl) (by rw [h2]; rfl)
    · rw [wkF, endsF, if_neg he, h1, h2]
      congr 1
      by_cases hw : (dec s i).2 = 0
      · rw [if_pos hw, if_pos hw, endsF_nil]
      · rw [if_neg hw, if_neg hw]
        have hP : ∀ x ∈ nextP L (dec s i).1 (reachA L (condZ last (dec s i).1) [] pcs'), x < L.length := nextP_lt h.leads _ (fun x hx => (reachA_fine h.leads pcs' [] ⟨by simp, fun x hx => by cases hx⟩ hlt).lt x hx)
        generalize nextP L (dec s i).1 (reachA L (condZ last (dec s i).1) [] pcs') = Q at *
        have hfine := reachA_fine (cond := condZ (dec s i).1 (dec s (i + (dec s i).2)).1) h.leads Q [] ⟨by simp, fun x hx => by cases hx⟩ hP
        generalize hD : reachA L (condZ (dec s i).1 (dec s (i + (dec s i).2)).1) [] Q = D at *
        have hr : reachA L (condZ (dec s i).1 (dec s (i + (dec s i).2)).1) [] (D.filter fun pc => waitsB (ins L pc)) = D.filter fun pc => waitsB (ins L pc) := by
          have := reachA_waits L (condZ (dec s i).1 (dec s (i + (dec s i).2)).1) (D.filter fun pc => waitsB (ins L pc)) [] (fun x hx => by
            have hw := (List.mem_filter.1 hx).2
            refine ⟨hw, fun e => ?_⟩
            subst e
            have := h.first
            unfold waitsB at hw
            simp [this] at hw) (by rw [List.nil_append]; exact List.Pairwise.filter _ hfine.nd)
          simpa using this
        refine ih _ Q _ _ hP ?_ ?_
        · rw [hr, hasM_filter, hD]
        · rw [hr, nextP_filter, hD]
theorem endsF_len (L : List I) (s : ByteArray) : ∀ (n : Nat) (pcs : List Nat) (last : Int) (i : Nat), (endsF L s n pcs last i).length ≤ n := by
  intro n
  induction n with
  | zero => intro pcs last i; simp [endsF]
  | succ n ih =>
    intro pcs last i
    rw [endsF]
    split
    · simp
    · rw [List.length_append]
      have := ih (if (dec s i).2 = 0 then [] else nextP L (dec s i).1 (reachA L (condZ last (dec s i).1) [] pcs)) (dec s i).1 (i + (dec s i).2)
      split <;> simp <;> omega
theorem dec_rng (s : ByteArray) (i : Nat) : -1 ≤ (dec s i).1 ∧ (dec s i).1 ≤ 1114111 := by
  unfold dec
  split
  · simp
  · have := Lib.rune_le s i
    simp only
    omega
def bordF (s : ByteArray) : Nat → Nat → List Nat
  | 0, i => [i]
  | n + 1, i => if s.size ≤ i then [i] else i :: bordF s n (i + (dec s i).2)
def runeF (s : ByteArray) : Nat → Nat → List Int
  | 0, _ => []
  | n + 1, i => if s.size ≤ i then [] else (dec s i).1 :: runeF s n (i + (dec s i).2)
theorem dec_end (s : ByteArray) (i : Nat) (h : s.size ≤ i) : dec s i = (-1, 0) := by unfold dec; rw [if_pos h]
theorem dec_pos (s : ByteArray) (i : Nat) (h : i < s.size) : 0 < (dec s i).2 := by
  have := dec_w s i
  omega
theorem runeF_len (s : ByteArray) : ∀ (n i : Nat), (runeF s n i).length ≤ n := by
  intro n
  induction n with
  | zero => intro i; simp [runeF]
  | succ n ih => intro i; rw [runeF]; split <;> simp; exact ih _
theorem rune_two (s : ByteArray) (i m : Nat) (h : s.size < i + m) (hi : i ≤ s.size) : (runeF s m i ++ [-1, -1])[0]? = some (dec s i).1 ∧ (runeF s m i ++ [-1, -1])[1]? = some (dec s (i + (dec s i).2)).1 := by
  obtain ⟨m, rfl⟩ : ∃ m', m = m' + 1 := ⟨m - 1, by omega⟩
  rw [runeF]
  by_cases h1 : s.size ≤ i
  · rw [if_pos h1, dec_end s i h1]
    simp only [Nat.add_zero]
    rw [dec_end s i h1]
    exact ⟨rfl, rfl⟩
  · rw [if_neg h1]
    refine ⟨rfl, ?_⟩
    have hp := dec_pos s i (by omega)
    have hl := dec_le s i hi
    show (runeF s m (i + (dec s i).2) ++ [-1, -1])[0]? = _
    cases m with
    | zero => omega
    | succ m =>
      rw [runeF]
      by_cases h2 : s.size ≤ i + (dec s i).2
      · rw [if_pos h2, dec_end s _ h2]; rfl
      · rw [if_neg h2]; rfl
end Go.Proofs.YteoljppcafakpaaDoor.PgFnPgWalk
namespace Go.Proofs.YteoljppcafakpaaDoor.PgFnPgWalk
open Go.RowKit Go.Proofs.YteoljppcafakpaaDoor.EvN Go.Proofs.YteoljppcafakpaaDoor.Row Go.Proofs.YteoljppcafakpaaDoor.Sf Go.Proofs.YteoljppcafakpaaDoor.PFnPgWalk Go.Proofs.YteoljppcafakpaaDoorW.PrintWords Go.Proofs.YteoljppcafakpaaDoorW.PrintLast Go.Proofs.YteoljppcafakpaaDoorW.PrintMore
set_option linter.unusedSimpArgs false
set_option linter.unusedVariables false
theorem own_one {w : World} {B g : Nat} {e : TypeId} {v : Value} (hg : w.heap[g]? = some (.cells #[v] e (0, 0))) (hB : B ≤ g) : w.ownsRow B e 1 (.slice (some ⟨g, 0, none⟩) 1 1) 1 [v] :=
  ⟨by simp, .inr ⟨g, 1, #[v], rfl, hB, hg, by omega, by unfold maxLen; omega, by simp, by simp⟩⟩
theorem bordF_len (s : ByteArray) : ∀ (n i : Nat), (bordF s n i).length ≤ n + 1 := by
  intro n
  induction n with
  | zero => intro i; simp [bordF]
  | succ n ih => intro i; rw [bordF]; split <;> simp; exact ih _
set_option maxRecDepth 100000 in
set_option maxHeartbeats 4000000 in
theorem borders_calls (s : ByteArray) (w : World) (hs : s.size ≤ 100000) (hT : Tabs w) :
    Calls Tryd.prog 14 #[.string s] w fun e w' => ∃ lv, e = .returned lv ∧ RowAt w' (fun i => w.heap.size ≤ i ∧ i < w'.heap.size) 3 lv ((bordF s (s.size + 1) 0).map fun x : Nat => Value.int .i64 (x : Int)) ∧ Below w.heap.size w w' := by
  have HT := Lib.hid hT
  clear hT
  go_enter Tryd.func14, Tryd.ntmps14
  go_wp2_with fail
  have HB0 := Lib.hid (below_alloc (Below.refl w.heap.size w) (.cells #[.int .i64 0] 3))
  have HO0 := Lib.hid (own_one (B := w.heap.size) (heap_alloc_new w (.cells #[.int .i64 0] 3)) (Nat.le_refl _))
  generalize w.alloc (.cells #[.int .i64 0] 3) = w0 at *
  go_loopg [3, 4] s.size (fun gk s3 s4 wr => ∃ (i m : Nat) (l : List Nat), Hid (gk + i = s.size ∧ s.size < i + m ∧ wr.ownsRow w.heap.size 3 1 s3 (l.length + 1) ((l ++ [i]).map fun x : Nat => Value.int .i64 (x : Int)) ∧ bordF s (s.size + 1) 0 = l ++ bordF s m i ∧ Below w.heap.size w wr) ∧ i ≤ s.size ∧ l.length ≤ i ∧ s4 = .int .i64 i)
  case atStart => exact ⟨0, s.size + 1, [], ⟨by omega, by omega, HO0.out, rfl, HB0.out⟩, by omega, by simp, rfl⟩
  case round =>
    obtain ⟨i, m, l, HI, hi, hl, rfl⟩ := hrel
    by_cases hlt : i < s.size
    · have hd1 : decide (i < s.size) = true := decide_eq_true hlt
      have hp := dec_pos s i hlt
      have hle := dec_le s i hi
      go_wp2_with fail
      refine (next_calls s i wr hi (by omega) (Utf8Tabs_below HT.out HI.out.2.2.2.2)).mono ?_
      rintro e w1 ⟨rfl, hb1⟩
      have HB1 := Lib.hid (below_step HI.out.2.2.2.2 hb1)
      have HO1 := Lib.hid (HI.out.2.2.1.kept (Row.grown_of_below hb1 none) (by cases u3.ownBlock <;> simp))
      obtain ⟨m, rfl⟩ : ∃ m', m = m' + 1 := ⟨m - 1, by have := HI.out.2.1; omega⟩
      have HN := Lib.hid (show bordF s (m + 1) i = i :: bordF s m (i + (dec s i).2) by rw [bordF, if_neg (by omega)])
      clear hb1
      generalize hdn : (dec s i).2 = d at *
      generalize (dec s i).1 = c at *
      clear hdn
      go_wp2_with (at_builtin; refine My.app1 rfl (.tmp 21) (.tmp 23) 32 rfl 3 (.int .i64 0) 8 Tryd.underlying32 iint rfl _ (l.length + 1) _ rfl w.heap.size w (HO1.out.alloc _) (below_alloc HB1.out _) (Nat.le_refl _) w1.heap.size rfl (.int .i64 ((i : Int) + (d : Int))) (by simp) rfl (by omega) (by unfold maxLen; omega) ?_; intro v1 w3 hown1 hbel1 hg1)
      go_roundg (gk - d)
      case measure => have := HI.out.1; omega
      case rel =>
        refine ⟨i + d, m, l ++ [i], ⟨by have := HI.out.1; omega, by have := HI.out.2.1; omega, ?_, by rw [HI.out.2.2.2.1, HN.out]; simp, hbel1.out⟩, hle, by simp; omega, by first | rfl | go_num⟩
        have := hown1.out
        simpa using this
    · have hd1 : decide (i < s.size) = false := decide_eq_false hlt
      have HN := Lib.hid (show bordF s m i = [i] by cases m with | zero => rfl | succ m => rw [bordF, if_pos (by omega)])
      go_wp2_with fail
      go_ret
      refine ⟨_, rfl, ?_, HI.out.2.2.2.2⟩
      rw [HI.out.2.2.2.1, HN.out]
      have ho : wr.ownsRow w.heap.size 3 1 u3 (l ++ [i]).length ((l ++ [i]).map fun x : Nat => Value.int .i64 (x : Int)) := by rw [List.length_append, List.length_singleton]; exact HI.out.2.2.1
      exact RowAt.of_owns ho fun g hg => ho.lt g hg
set_option maxRecDepth 100000 in
set_option maxHeartbeats 4000000 in
theorem runes_calls (s : ByteArray) (w : World) (hs : s.size ≤ 100000) (hT : Tabs w) :
    Calls Tryd.prog 15 #[.string s] w fun e w' => ∃ lv, e = .returned lv ∧ RowAt w' (fun i => w.heap.size ≤ i ∧ i < w'.heap.size) 21 lv ((runeF s (s.size + 1) 0).map (Value.int .i32)) ∧ Below w.heap.size w w' := by
  have HT := Lib.hid hT
  clear hT
  go_enter Tryd.func15, Tryd.ntmps15
  go_wp2_with fail
  go_loopg [3, 4] s.size (fun gk s3 s4 wr => ∃ (i m : Nat) (l : List Int), Hid (gk + i = s.size ∧ s.size < i + m ∧ wr.ownsRow w.heap.size 21 1 s3 l.length (l.map (Value.int .i32)) ∧ runeF s (s.size + 1) 0 = l ++ runeF s m i ∧ Below w.heap.size w wr) ∧ i ≤ s.size ∧ l.length ≤ i ∧ s4 = .int .i64 i)
  case atStart => exact ⟨0, s.size + 1, [], ⟨by omega, by omega, World.ownsRow_nil _ _ _ _, rfl, Below.refl _ w⟩, by omega, by simp, rfl⟩
  case round =>
    obtain ⟨i, m, l, HI, hi, hl, rfl⟩ := hrel
    by_cases hlt : i < s.size
    · have hd1 : decide (i < s.size) = true := decide_eq_true hlt
      have hp := dec_pos s i hlt
      have hle := dec_le s i hi
      go_wp2_with fail
      refine (next_calls s i wr hi (by omega) (Utf8Tabs_below HT.out HI.out.2.2.2.2)).mono ?_
      rintro e w1 ⟨rfl, hb1⟩
      have HB1 := Lib.hid (below_step HI.out.2.2.2.2 hb1)
      have HO1 := Lib.hid (HI.out.2.2.1.kept (Row.grown_of_below hb1 none) (by cases u3.ownBlock <;> simp))
      obtain ⟨m, rfl⟩ : ∃ m', m = m' + 1 := ⟨m - 1, by have := HI.out.2.1; omega⟩
      have HN := Lib.hid (show runeF s (m + 1) i = (dec s i).1 :: runeF s m (i + (dec s i).2) by rw [runeF, if_neg (by omega)])
      clear hb1
      generalize hdn : (dec s i).2 = d at *
      generalize (dec s i).1 = c at *
      clear hdn
      go_wp2_with (at_builtin; refine My.app1 rfl (.tmp 20) (.tmp 22) 27 rfl 21 (.int .i32 0) 4 Tryd.underlying27 iru rfl _ l.length _ rfl w.heap.size w (HO1.out.alloc _) (below_alloc HB1.out _) (Nat.le_refl _) w1.heap.size rfl (.int .i32 c) (by simp) rfl (by omega) (by unfold maxLen; omega) ?_; intro v1 w3 hown1 hbel1 hg1)
      go_roundg (gk - d)
      case measure => have := HI.out.1; omega
      case rel =>
        refine ⟨i + d, m, l ++ [c], ⟨by have := HI.out.1; omega, by have := HI.out.2.1; omega, ?_, by rw [HI.out.2.2.2.1, HN.out]; simp, hbel1.out⟩, hle, by simp; omega, by first | rfl | go_num⟩
        have := hown1.out
        simpa using this
    · have hd1 : decide (i < s.size) = false := decide_eq_false hlt
      have HN := Lib.hid (show runeF s m i = [] by cases m with | zero => rfl | succ m => rw [runeF, if_pos (by omega)])
      go_wp2_with fail
      go_ret
      refine ⟨_, rfl, ?_, HI.out.2.2.2.2⟩
      rw [HI.out.2.2.2.1, HN.out, List.append_nil]
      exact RowAt.of_owns HI.out.2.2.1 fun g hg => HI.out.2.2.1.lt g hg
end Go.Proofs.YteoljppcafakpaaDoor.PgFnPgWalk
namespace Go.Proofs.YteoljppcafakpaaDoor.PgFnPgWalk
open Go.RowKit Go.Proofs.YteoljppcafakpaaDoor.EvN Go.Proofs.YteoljppcafakpaaDoor.Row Go.Proofs.YteoljppcafakpaaDoor.PFnPgWalk Go.Proofs.YteoljppcafakpaaDoorW.PrintWords Go.Proofs.YteoljppcafakpaaDoorW.PrintLast Go.Proofs.YteoljppcafakpaaDoorW.PrintMore
set_option linter.unusedSimpArgs false
set_option linter.unusedVariables false
set_option maxRecDepth 100000 in
theorem border0_calls (s : ByteArray) (w : World) : Calls Tryd.prog 22 #[.string s, .int .i64 0] w fun e w' => e = .returned (.bool true) ∧ w' = w := by
  go_enter Tryd.func22, Tryd.ntmps22
  go_wp2_with fail
  go_loopg [5] 0 (fun gk s5 wr => s5 = .int .i64 0 ∧ wr = w)
  case atStart => exact ⟨rfl, rfl⟩
  case round =>
    obtain ⟨rfl, rfl⟩ := hrel
    go_wp2_with fail
    go_ret
    exact ⟨rfl, rfl⟩
def fineB (L : List I) (st nc : Int) (s : ByteArray) : Bool := decide (s.size ≤ 60000) && decide (L.length * (s.size + 1) ≤ 1048576) && psnd L st nc 2000
set_option maxRecDepth 100000 in
set_option maxHeartbeats 4000000 in
theorem fine_calls {L : List I} {st nc : Int} (hL : L.length ≤ 2147483647) (hr : ∀ i ∈ L, i.f3.length ≤ 2147483647) (s : ByteArray) (hz : s.size ≤ 2147483647) (w : World) (A : Option Addr) (c : Nat) (hK : Kd.C k29 w A L.length L) (hc : L.length ≤ c) :
    Calls Tryd.prog 8 #[.agg #[.slice A L.length c, .int .i64 st, .int .i64 nc], .string s, .int .i64 0, .int .i64 0] w fun e w' => e = .returned (.bool (fineB L st nc s)) ∧ Below w.heap.size w w' := by
  have hu24 := Tryd.underlying24
  obtain ⟨kp, hkp⟩ := (ev_psnd L st nc 2000 (by omega) (fun i hi => by have := hr i hi; omega)).get
  have HK := Lib.hid hK
  have HKP := Lib.hid hkp
  clear hK hr hkp
  unfold fineB
  go_enter Tryd.func8, Tryd.ntmps8
  by_cases h1 : s.size ≤ 60000
  · have d1 : decide (s.size ≤ 60000) = true := decide_eq_true h1
    have hmul : L.length * (s.size + 1) ≤ 2147483647 * 60001 := Nat.mul_le_mul hL (by omega)
    have hw : wrap64 ((L.length : Int) * ((s.size : Int) + 1)) = ((L.length * (s.size + 1) : Nat) : Int) := by
      rw [show (L.length : Int) * ((s.size : Int) + 1) = ((L.length * (s.size + 1) : Nat) : Int) by push_cast; rfl]
      generalize L.length * (s.size + 1) = m at *
      have := wrap_nat m 0 (by omega)
      simpa using this
    generalize L.length * (s.size + 1) = m at *
    by_cases h2 : m ≤ 1048576
    · have d2 : decide (m ≤ 1048576) = true := decide_eq_true h2
      rw [d1, d2, Bool.true_and, Bool.true_and]
      go_wp2_with fail
      refine (spec_ProgSound.calls kp A c L st nc 2000 (psnd L st nc 2000) _ (Kd.C_below HK.out (below_alloc (Below.refl _ w) _)) hc HKP.out).mono ?_
      rintro e w2 ⟨rfl, hb2⟩
      have HB2 := Lib.hid (below_step (below_alloc (Below.refl _ w) _) hb2)
      clear hb2 HKP
      cases hq : psnd L st nc 2000 with
      | false =>
        go_wp2_with fail
        go_ret
        exact ⟨by rw [hq]; rfl, HB2.out⟩
      | true =>
        go_wp2_with fail
        refine (border0_calls s _).mono ?_
        rintro e w3 ⟨rfl, rfl⟩
        go_wp2_with fail
        go_ret
        exact ⟨by rw [hq]; rfl, HB2.out⟩
    · have d2 : decide (m ≤ 1048576) = false := decide_eq_false h2
      rw [d1, d2, Bool.true_and, Bool.false_and]
      go_wp2_with fail
      go_ret
      exact ⟨rfl, below_alloc (Below.refl _ w) _⟩
  · have d1 : decide (s.size ≤ 60000) = false := decide_eq_false h1
    rw [d1, Bool.false_and, Bool.false_and]
    go_wp2_with fail
    go_ret
    exact ⟨rfl, below_alloc (Below.refl _ w) _⟩
end Go.Proofs.YteoljppcafakpaaDoor.PgFnPgWalk
namespace Go.Proofs.YteoljppcafakpaaDoor.PgFnPgWalk
open Go.RowKit Go.Proofs.YteoljppcafakpaaDoor.EvN Go.Proofs.YteoljppcafakpaaDoor.Row Go.Proofs.YteoljppcafakpaaDoor.Sf Go.Proofs.YteoljppcafakpaaDoor.PFnPgWalk Go.Proofs.YteoljppcafakpaaDoorW.PrintWords Go.Proofs.YteoljppcafakpaaDoorW.PrintLast Go.Proofs.YteoljppcafakpaaDoorW.PrintMore
set_option linter.unusedSimpArgs false
set_option linter.unusedVariables false
section
variable {N : Nat} {W0 w w' : World} {p mb qo sp de lf S n cc : Nat} {F : Int} {mc : Nat → Value} {E : List En} {pool out : List Th}
theorem MS.grow (h : MS N W0 w p mb qo sp de lf S n cc F mc E pool out) (hb : Below w.heap.size w w') : MS N W0 w' p mb qo sp de lf S n cc F mc E pool out := by
  have kt : ∀ {y : Th}, (∃ i C, ThAt w n cc y i C) → ∃ i C, ThAt w' n cc y i C := fun {y} ⟨i0, C, hC⟩ => ⟨i0, C, hC.keep (hb.block _ (blk_lt hC.1)) (hb.block _ hC.2.lt)⟩
  obtain ⟨sa, s1, s2⟩ := h.sa
  obtain ⟨da, d1, d2⟩ := h.da
  exact ⟨blk_below h.ma hb, h.m1, h.m8, h.q2, h.mq, h.md, ⟨sa, blk_below s1 hb, s2⟩, ⟨da, blk_below d1 hb, d2⟩, blk_below h.fl hb,
    ⟨h.pl.own.kept (Row.grown_of_below hb none) (by cases (mc 6).ownBlock <;> simp), fun y hy => kt (h.pl.th y hy)⟩, fun y hy => kt (h.th y hy), h.n1, h.n2, h.lo, below_step h.bl hb, h.fi, h.ls, h.lm, h.nc, h.cm, h.pm⟩
theorem MS.swap {qo' sp' de' lf' : Nat} {F' : Int} (h : MS N W0 w p mb qo sp de lf S n cc F mc E pool []) (hq : qo' = 2 ∨ qo' = 4) (h1 : mc qo' = .slice (some ⟨sp', 0, none⟩) S S) (h2 : mc (qo' + 1) = .slice (some ⟨de', 0, none⟩) 0 S)
    (hs : ∃ sa : Array Value, w.heap[sp']? = some (.cells sa 54 (0, 0)) ∧ sa.size = S ∧ ∀ i, i < S → ∃ v, sa[i]? = some (.int .u32 v) ∧ 0 ≤ v ∧ v < 4294967296) (hd : ∃ da : Array Value, w.heap[de']? = some (.cells da 158 (0, 0)) ∧ da.size = S * 2)
    (hf : w.heap[lf']? = some (.cells #[.int .u64 F'] 117 (0, 0))) (hl : W0.heap.size ≤ sp' ∧ W0.heap.size ≤ de') : MS N W0 w p mb qo' sp' de' lf' S n cc F' mc [] pool (thr E) := by
  obtain ⟨sa, s1, s2, s3⟩ := hs
  obtain ⟨da, d1, d2⟩ := hd
  refine ⟨h.ma, h.m1, h.m8, hq, h1, h2, ⟨sa, s1, s2, s3, fun i e he => by simp at he⟩, ⟨da, d1, d2, fun i e he => by simp at he⟩, hf, h.pl, fun x hx => h.th x (by simpa [thr] using hx), ?_, ?_, ⟨h.lo.1, hl.1, hl.2, fun x hx => h.lo.2.2.2 x (by simpa [thr] using hx)⟩, h.bl, ⟨by simp, fun x hx => by simp at hx⟩, h.ls, h.lm, h.nc, h.cm, h.pm⟩
  · simpa [thr] using h.n1
  · simpa [thr] using h.n2
end
theorem made_u32s (z : Nat) : (madeCells #[Value.int .u32 0] z).size = z ∧ ∀ i, i < z → ∃ v, (madeCells #[Value.int .u32 0] z)[i]? = some (.int .u32 v) ∧ 0 ≤ v ∧ v < 4294967296 :=
  ⟨by simp [madeCells], fun i hi => ⟨0, made_u32 z i hi, by omega, by omega⟩⟩
theorem made_ents (z : Nat) : (madeCells #[Value.int .u32 0, .pointer none] (z * 2)).size = z * 2 := by simp [madeCells]
theorem rel_mem {w : World} {ad : Addr} {n cc : Nat} : ∀ {E : List En} {A : List Ae}, Rel w ad n cc E A → ∀ e ∈ E, ∃ a ∈ A, e.1 = a.1 ∧ e.2.isSome = a.2.isSome
  | [], [], _, e, he => by cases he
  | [], _ :: _, h, _, _ => h.elim
  | _ :: _, [], h, _, _ => h.elim
  | x :: E, a :: A, h, e, he => by
    rcases List.mem_cons.1 he with rfl | he
    · refine ⟨a, by simp, h.1.1, ?_⟩
      have := h.1.2
      cases hx : e.2 <;> cases ha : a.2 <;> rw [hx, ha] at this <;> first | rfl | exact this.elim
    · obtain ⟨b, hb, q⟩ := rel_mem h.2 e he
      exact ⟨b, by simp [hb], q⟩
set_option maxRecDepth 100000 in
set_option maxHeartbeats 4000000 in
theorem zzstep_calls {L : List I} {st nc : Int} (h : PSound L st nc 2000) (p : Nat) (w : World) (hP : ProgAt w p L st nc) (hS : Sizes w) (hF : Folds w) (pcs : List Nat) (Ap : Option Addr) (cp : Nat) (hp : ∀ pc ∈ pcs, pc < L.length) (hPC : Kd.C (Kd.int .u32) w Ap (pcs.map fun (x : Nat) => (x : Int)).length (pcs.map fun (x : Nat) => (x : Int)))
    (b c a F cond F2 cond2 : Int) (hF1 : regexp_newLazyFlag.f b c = some F) (hm1 : ∀ a, 0 < a → a < 64 → ∃ k, regexp_lazyFlag_match.f k F a = some (holds cond a)) (hF2 : regexp_newLazyFlag.f c a = some F2) (hm2 : ∀ a, 0 < a → a < 64 → ∃ k, regexp_lazyFlag_match.f k F2 a = some (holds cond2 a)) :
    Calls Tryd.prog 32 #[.pointer (some ⟨p, 0, none⟩), .slice Ap pcs.length cp, .int .i32 b, .int .i32 c, .int .i32 a, .bool true] w fun e w' => ∃ lv tv, e = .returned (.tuple #[lv, tv, .bool (hasM L (reachA L cond [] pcs))]) ∧
      RowAt w' (fun i => w.heap.size ≤ i ∧ i < w'.heap.size) 54 lv ((reachA L cond2 [] (nextP L c (reachA L cond [] pcs))).map fun x : Nat => Value.int .u32 (x : Int)) ∧
      RowAt w' (fun i => w.heap.size ≤ i ∧ i < w'.heap.size) 4 tv ((reachA L cond2 [] (nextP L c (reachA L cond [] pcs))).map fun x : Nat => Value.bool (waitsB (ins L x))) ∧ Below w.heap.size w w' := by
  have hm : L.length ≤ 2000 := by have := h.most; omega
  have hcall := machine_calls h p w hP hS pcs Ap cp hp hPC b c F cond hF1 hm1 true
  have HS := Lib.hid h
  have HF := Lib.hid hF
  have HF2 := Lib.hid hF2
  have HM2 := Lib.hid hm2
  obtain ⟨D, hD⟩ : ∃ D, D = reachA L cond2 [] (nextP L c (reachA L cond [] pcs)) := ⟨_, rfl⟩
  obtain ⟨mm, hmm⟩ : ∃ mm, mm = hasM L (reachA L cond [] pcs) := ⟨_, rfl⟩
  rw [← hD, ← hmm]
  have HDD := Lib.hid hD
  have HMM := Lib.hid hmm
  clear h hP hS hp hPC hF1 hm1 hF2 hm2 hF hD hmm
  go_enter Tryd.func32, Tryd.ntmps32
  go_wp2_with fail
  refine hcall.mono ?_
  rintro e w1 ⟨mb, rfl, hput⟩
  clear hcall
  obtain ⟨W0, rb, sp, de, sp1, de1, lf, z, cc, mc, E, ad, k1, k2, k3, k4, k5, k6, k7, k8, k9, k10, k11, k12, k13, k14, mcb, k15, k16, k17, k18⟩ := hput.ex
  clear hput
  have HW0 := Lib.hid k1
  have HPG := Lib.hid k2
  have hE := k3.len
  have hc7 := mach_cell k3.ma 7 (by omega)
  have hf7 := blk_frozen k3.ma 7
  have HMS := Lib.hid (k3.other 7 (.bool false) (by omega) (by omega) (by omega) (by omega) (by omega) (by omega))
  have hne : ∀ {g : Nat} {cs : Array Value} {t : TypeId}, w1.heap[g]? = some (.cells cs t (0, 0)) → t ≠ 115 → (w1.setCell ⟨mb, 7, none⟩ (.bool false)).heap[g]? = some (.cells cs t (0, 0)) := fun {g cs t} hg ht => (Below.heap_setCell _ _ _ _ (blk_ne hg k3.ma ht)).trans hg
  have HS1 := Lib.hid (hne k8 (by decide))
  have HD1 := Lib.hid (hne k9 (by decide))
  obtain ⟨da, dd1, dd2, dd3⟩ := k3.da
  have HD0 := Lib.hid (hne dd1 (by decide))
  have HD3 := Lib.hid dd3
  have HCM : Hid (CapAt (w1.setCell ⟨mb, 7, none⟩ (.bool false)) 0 cc mcb []) := Lib.hid (by obtain ⟨r, q1, q2⟩ := k16; exact ⟨r, hne q1 (by decide), q2⟩)
  have HRL : Hid (Rel (w1.setCell ⟨mb, 7, none⟩ (.bool false)) ad 0 cc E (aFl L cond 0 [] [] pcs)) := Lib.hid (k4.keep fun x hx => by
    obtain ⟨i, C, hC⟩ := k3.th x (by simp [hx])
    obtain ⟨q, _⟩ := k3.th_ne hC
    exact ⟨Below.heap_setCell _ _ _ _ q.1, Below.heap_setCell _ _ _ _ q.2⟩)
  have HNM : Hid (∀ x ∈ thr E, x.2 ≠ mcb) := Lib.hid k18
  have HK := Lib.hid (And.intro k5 (And.intro k6 (And.intro k7 (And.intro k10 (And.intro k11 (And.intro k12 (And.intro k13 (And.intro k14 (And.intro k15 k17)))))))))
  have hSz := k3.lm
  have hLS := k3.ls
  clear k1 k2 k3 k4 k5 k6 k7 k8 k9 k10 k11 k12 k13 k14 k15 k16 k17 k18 hne dd1 dd2 dd3
  have HFW := Lib.hid (HF.out.below HW0.out)
  have hfin := stepF0 L c cond2 0 1 (aFl L cond 0 [] [] pcs) [] false [] (aFl_waits L cond 0 [] pcs [] (fun a h => by cases h))
  obtain ⟨Fin, hFin⟩ : ∃ Fin, Fin = stepF L true 0 c cond2 0 1 (aFl L cond 0 [] [] pcs) ([], false, []) := ⟨_, rfl⟩
  rw [← hFin] at hfin
  have HFIN := Lib.hid hFin.symm
  have e0 : (aFl L cond 0 [] [] pcs).map Prod.fst = reachA L cond [] pcs := aFl_reach L cond 0 [] pcs []
  rw [e0] at hfin
  have HFN := Lib.hid hfin
  clear hFin hfin e0
  go_wp2_with fail
  generalize w1.setCell ⟨mb, 7, none⟩ (.bool false) = w2 at *
  clear hc7 hf7
  refine (regexp_newLazyFlag.calls c a F2 w2 HF2.out).mono ?_
  rintro e w3 ⟨rfl, hd⟩
  have HD := Lib.hid hd
  clear hd
  go_wp2_with fail
  have hlf : (w3.alloc (.cells #[.int .u64 F2] 117)).heap[w3.heap.size]? = some (.cells #[.int .u64 F2] 117 (0, 0)) := heap_alloc_new w3 _
  have hb6 : Below w2.heap.size w2 (w3.alloc (.cells #[.int .u64 F2] 117)) := below_alloc HD.out.below _
  obtain ⟨lf2, hlfe⟩ : ∃ lf, lf = w3.heap.size := ⟨_, rfl⟩
  rw [← hlfe] at hlf ⊢
  generalize w3.alloc (.cells #[.int .u64 F2] 117) = w4 at *
  have hb6d := below_drew hb6
  obtain ⟨k5, k6, k7, k10, k11, k12, k13, k14, k15, k17⟩ := HK.out
  have hms : MS L.length W0 w4.drew p mb 4 sp1 de1 lf2 z 0 cc F2 (up mc 7 (.bool false)) [] [] (thr E) := ((HMS.out.grow hb6).swap (qo' := 4) (sp' := sp1) (de' := de1) (lf' := lf2) (F' := F2) (.inr rfl) ((up_ne _ _ (by decide)).trans k6) ((up_ne _ _ (by decide)).trans k7) ⟨_, blk_below HS1.out hb6, (made_u32s z).1, (made_u32s z).2⟩ ⟨_, blk_below HD1.out hb6, made_ents z⟩ hlf ⟨k12, k13⟩).drewN 1
  have hrel : Rel w4.drew ad 0 cc E (aFl L cond 0 [] [] pcs) := HRL.out.keep fun x hx => by
    obtain ⟨i, C, hC⟩ := HMS.out.th x (by simp [hx])
    exact ⟨hb6.block _ (blk_lt hC.1), hb6.block _ hC.2.lt⟩
  have hd0 : w4.drew.heap[de]? = some (.cells da 158 (0, 0)) := blk_below HD0.out hb6d
  have hsi : SI L.length W0 p mb 4 sp1 de1 lf2 z 0 cc F2 ad E (aFl L cond 0 [] [] pcs) mcb 2 de 0 (up mc 7 (.bool false)) w4.drew none 0 w4.drew (up mc 7 (.bool false)) [] [] [] false [] :=
    ⟨by simpa using hms, trivial, by simpa using hrel, up_same _ _ _, (up_ne _ _ (by decide)).trans k15, (by obtain ⟨r, q1, q2⟩ := HCM.out; exact ⟨r, blk_below q1 hb6d, q2⟩), k17, fun x hx => HNM.out x (by simpa [thr] using hx), (up_ne _ _ (by decide)).trans HMS.out.md, fun _ _ _ _ => rfl, .inl ⟨rfl, rfl⟩, by simp, Kpt.refl _ _ _⟩
  have hws := aFl_waits L cond 0 [] pcs [] (fun a h => by cases h)
  have hstep := mstep_calls HS.out hm cond2 F2 HM2.out W0 p ad HPG.out HFW.out mb 4 sp1 de1 lf2 z 0 cc mcb 2 de rb 0 (.inl rfl) true k14.2.2 c 0 1 E (aFl L cond 0 [] [] pcs) (up mc 7 (.bool false)) w4.drew [] false [] ((up_ne _ _ (by decide)).trans k5) da hd0 HD3.out ⟨blk_ne hd0 (blk_below HS1.out hb6d) (by decide), Ne.symm k11⟩ (fun e he => ⟨HMS.out.fi.lt _ (List.mem_map_of_mem he), fun hsm => by
    obtain ⟨a, ha, q1, q2⟩ := rel_mem hrel e he
    rw [q1, ← hws a ha, ← q2]; exact hsm⟩) hsi (by omega) (by omega) rfl
  rw [HFIN.out] at hstep
  have HST := Lib.hid hstep
  have HB4 := Lib.hid (below_step HMS.out.bl hb6)
  clear hstep hws hsi hms hrel hd0 hlf hb6 hb6d k5 k6 k7 k10 k11 k12 k13 k14 k15 k17 hlfe HMS
  go_upto_region 4 with (fail)
  go_still_tail 8, (by kernel_rfl)
  change wpList _ _ _ _ _ w4.drew
  go_wp2_with fail
  refine HST.out.mono ?_
  rintro e w5 ⟨mr, E', pool', rfl, hsi⟩
  obtain ⟨da', q1, q2, q3⟩ := hsi.ms.da
  have hE' := hsi.ms.len
  have hq := queue_calls w5 mb 4 de1 z mr da' E' hsi.ms.ma (.inr rfl) hsi.ms.md q1 q3 (by omega)
  have HQ := Lib.hid hq
  have HSI := Lib.hid hsi
  have HW5 := Lib.hid (below_step HW0.out hsi.ms.bl)
  clear hq hsi q1 q2 q3 HST
  go_wp2_with fail
  refine HQ.out.mono ?_
  rintro e w6 ⟨lv, tv, rfl, r1, r2, hb⟩
  have hc7 : w6.cell? ⟨mb, 7, none⟩ = some (.bool Fin.2.1) := by
    have h1 := (mach_cell HSI.out.ms.ma 7 (by omega)).trans (congrArg some HSI.out.m7)
    exact (hb.cell (World.block_lt_of_cell? w5 _ h1)).trans h1
  have HR := Lib.hid (And.intro r1 (And.intro r2 hb))
  obtain ⟨f1, f2, f3⟩ := HFN.out
  rw [Bool.false_or] at f2
  rw [f2, ← HMM.out] at hc7
  have HF1 := Lib.hid f1
  have HF3 := Lib.hid (f3 (fun a h => by cases h))
  clear r1 r2 hb f1 f2 f3 HFN HQ
  go_wp2_with fail
  go_quiet (fail)
  go_wp2_with fail
  go_ret3
  obtain ⟨r1, r2, hb⟩ := HR.out
  have hfst : E'.map Prod.fst = D := by
    rw [HSI.out.rE.fst, HF1.out, HDD.out]; rfl
  have hs := HW5.out.size
  refine ⟨lv, tv, rfl, ?_, ?_, pw_below_drewN (below_step HW5.out hb) _⟩
  · rw [show E'.map (fun e => Value.int .u32 (e.1 : Int)) = D.map fun x : Nat => Value.int .u32 (x : Int) by rw [← hfst, List.map_map]; rfl] at r1
    exact r1.mono fun i hi hS => ⟨⟨by omega, hS.2⟩, rfl⟩
  · have e3 : E'.map (fun e => Value.bool e.2.isSome) = D.map fun x : Nat => Value.bool (waitsB (ins L x)) := by
      have h1 := congrArg (List.map Value.bool) HSI.out.rE.some
      rw [List.map_map, List.map_map] at h1
      refine Eq.trans (show _ = _ from h1) ?_
      rw [← hfst, HSI.out.rE.fst, List.map_map]
      exact List.map_congr_left fun a ha => congrArg Value.bool (HF3.out a ha)
    rw [e3] at r2
    exact r2.mono fun i hi hS => ⟨⟨by omega, hS.2⟩, rfl⟩
end Go.Proofs.YteoljppcafakpaaDoor.PgFnPgWalk
namespace Go.Proofs.YteoljppcafakpaaDoor.PgFnPgWalk
open Go.RowKit Go.Proofs.YteoljppcafakpaaDoor.EvN Go.Proofs.YteoljppcafakpaaDoor.Row Go.Proofs.YteoljppcafakpaaDoor.Sf Go.Proofs.YteoljppcafakpaaDoor.PFnPgWalk Go.Proofs.YteoljppcafakpaaDoorW.PrintWords Go.Proofs.YteoljppcafakpaaDoorW.PrintLast Go.Proofs.YteoljppcafakpaaDoorW.PrintMore
set_option linter.unusedSimpArgs false
set_option linter.unusedVariables false
def dB (L : List I) (D : List Nat) : List Bool := D.map fun x => waitsB (ins L x)
set_option maxRecDepth 100000 in
set_option maxHeartbeats 4000000 in
theorem pgstep_calls {L : List I} {st nc : Int} (h : PSound L st nc 2000) (hr : ∀ i ∈ L, i.f3.length * 4 ≤ 140737488351232) (W0 w : World) (hW : Below W0.heap.size W0 w) (A : Option Addr) (c0 : Nat) (hK : Kd.C k29 W0 A L.length L) (hc : L.length ≤ c0)
    (pcs : List Nat) (Ap : Option Addr) (cp : Nat) (hp : ∀ pc ∈ pcs, pc < L.length) (hl : pcs.length ≤ 4000) (hPC : Kd.C (Kd.int .i64) w Ap (pcs.map fun (x : Nat) => (x : Int)).length (pcs.map fun (x : Nat) => (x : Int))) (hS : Sizes W0) (hF : Folds W0)
    (b c a F cond F2 cond2 : Int) (hF1 : regexp_newLazyFlag.f b c = some F) (hm1 : ∀ a, 0 < a → a < 64 → ∃ k, regexp_lazyFlag_match.f k F a = some (holds cond a)) (hF2 : regexp_newLazyFlag.f c a = some F2) (hm2 : ∀ a, 0 < a → a < 64 → ∃ k, regexp_lazyFlag_match.f k F2 a = some (holds cond2 a)) (D : List Nat) (hD : D = reachA L cond2 [] (nextP L c (reachA L cond [] pcs))) :
    Calls Tryd.prog 16 #[.agg #[.slice A L.length c0, .int .i64 st, .int .i64 nc], .slice Ap pcs.length cp, .int .i32 b, .int .i32 c, .int .i32 a, .bool true] w fun e w' => ∃ A1 c1 A2 c2, e = .returned (.tuple #[.slice A1 D.length c1, .slice A2 D.length c2, .bool (hasM L (reachA L cond [] pcs)), .bool true]) ∧
      RowAt w' (fun i => w.heap.size ≤ i ∧ i < w'.heap.size) 3 (.slice A1 D.length c1) (iv D) ∧ RowAt w' (fun i => w.heap.size ≤ i ∧ i < w'.heap.size) 4 (.slice A2 D.length c2) ((dB L D).map Value.bool) ∧ Below w.heap.size w w' := by
  have hu24 := Tryd.underlying24
  have hm : L.length ≤ 2000 := by have := h.most; omega
  have hfd : Fine L.length D := by
    rw [hD]
    exact reachA_fine h.leads _ [] ⟨by simp, fun x hx => by cases hx⟩ (nextP_lt h.leads _ fun x hx => (reachA_fine h.leads pcs [] ⟨by simp, fun x hx => by cases hx⟩ hp).lt x hx)
  have hdl := hfd.len
  have hDI : (dI D).length = D.length := by unfold dI; rw [List.length_map]
  have hDB : (dB L D).length = D.length := by unfold dB; rw [List.length_map]
  obtain ⟨ki, hki⟩ := (ev_ints (dI D) (by rw [hDI]; omega) (fun x hx => by
    obtain ⟨y, hy, rfl⟩ := List.mem_map.1 hx
    have := hfd.lt y hy
    omega)).get
  have HS := Lib.hid h
  have HR := Lib.hid hr
  have HK := Lib.hid (Kd.C_below hK hW)
  have HPP := Lib.hid hp
  have HPC := Lib.hid hPC
  have HSZ := Lib.hid (hS.below hW)
  have HFO := Lib.hid (hF.below hW)
  have H1 := Lib.hid hF1
  have H2 := Lib.hid hm1
  have H3 := Lib.hid hF2
  have H4 := Lib.hid hm2
  have HKI := Lib.hid hki
  have HD := Lib.hid hD
  obtain ⟨mm, hmm⟩ : ∃ mm, mm = hasM L (reachA L cond [] pcs) := ⟨_, rfl⟩
  rw [← hmm]
  have HMM := Lib.hid hmm
  have HDI := Lib.hid (And.intro hDI hDB)
  clear h hr hK hp hPC hS hF hF1 hm1 hF2 hm2 hki hfd hdl hW hD hmm hDI hDB
  go_enter Tryd.func16, Tryd.ntmps16
  go_wp2_with fail
  obtain ⟨gb, hgb⟩ : ∃ gb, gb = w.heap.size := ⟨_, rfl⟩
  have HB1 := Lib.hid (below_alloc (Below.refl w.heap.size w) (.cells #[.slice A L.length c0, .int .i64 st, .int .i64 nc] 24))
  rw [← hgb]
  clear hgb
  generalize w.alloc (.cells #[.slice A L.length c0, .int .i64 st, .int .i64 nc] 24) = w1 at *
  refine (queued_calls HS.out HR.out w1 A c0 (Kd.C_below HK.out HB1.out) hc pcs Ap cp HPP.out hl (Kd.C_below HPC.out HB1.out)).mono ?_
  rintro e w2 ⟨p, lv, rfl, hpa, hrow, hb2⟩
  have HB2 := Lib.hid (below_step HB1.out hb2)
  obtain ⟨Al, cl, rfl, hcl, hkl⟩ := rowAt_kd (h1 := fun _ => rfl) hrow
  have hpl : (pcs.map fun (x : Nat) => (x : Int)).length = pcs.length := by simp
  have HPA := Lib.hid hpa
  have HKL := Lib.hid hkl
  rw [hpl]
  clear hpa hrow hkl hb2 hpl
  go_wp2_with fail
  refine (zzstep_calls HS.out p w2 HPA.out (HSZ.out.below HB2.out) (HFO.out.below HB2.out) pcs Al cl HPP.out HKL.out b c a F cond F2 cond2 H1.out H2.out H3.out H4.out).mono ?_
  rintro e w3 ⟨lv, tv, rfl, r1, r2, hb3⟩
  rw [← HD.out] at r1 r2
  rw [← HMM.out]
  obtain ⟨A3, c3, rfl, hc3, hk3⟩ := rowAt_kd (l := dI D) (enc := Value.int .u32) (h1 := fun _ => rfl) (by unfold dI; rw [List.map_map]; exact r1)
  obtain ⟨A4, c4, rfl, hc4, hk4⟩ := rowAt_kd (l := dB L D) (enc := Value.bool) (h1 := fun _ => rfl) (by unfold dB; rw [List.map_map]; exact r2)
  have hints := impl_ints.calls ki A3 c3 (dI D) (dI D) w3 hk3 hc3 HKI.out
  rw [HDI.out.1] at hints hc3 ⊢
  rw [HDI.out.2] at hc4 ⊢
  have HIN := Lib.hid hints
  have HS3 := Lib.hid (And.intro HB2.out.size hb3.size)
  rw [show (List.map (fun x => Value.bool (waitsB (ins L x))) D) = (dB L D).map Value.bool by unfold dB; rw [List.map_map]; rfl] at r2
  rw [HDI.out.2] at r2
  have HR4 := Lib.hid r2
  have HB3 := Lib.hid (below_step HB2.out hb3)
  have HK4 := Lib.hid hk4
  clear r1 r2 hb3 hk3 hk4 HKL HPA HB2 hints
  go_wp2_with fail
  refine HIN.out.mono ?_
  rintro e w4 ⟨v0, rfl, hR, hb4⟩
  obtain ⟨A1, c1, rfl, hc1, hk1⟩ := Kd.R_reads hR
  rw [HDI.out.1] at hc1 ⊢
  have hown := Kd.own_of_R hR
  rw [HDI.out.1] at hown
  have HO4 := Lib.hid hown
  have HB4 := Lib.hid hb4
  clear hR hk1 hb4 HIN hown
  go_wp2_with fail
  exact bodyPost_ret (v := .tuple #[.slice A1 D.length c1, .slice A4 D.length c4, .bool mm, .bool true]) (by simp [results, Tryd.results16, go_sem]) rfl ⟨A1, c1, A4, c4, rfl, (by
    have h1 := RowAt.of_owns (S := fun i => w.heap.size ≤ i ∧ i < w4.heap.size) HO4.out (fun g hg => by have := HO4.out.lt g hg; have := HS3.out; omega)
    rwa [show Go.Proofs.YteoljppcafakpaaDoorW.PrintWords.encs (Value.int .i64) (dI D) = iv D by unfold Go.Proofs.YteoljppcafakpaaDoorW.PrintWords.encs dI; rw [List.map_map]; rfl] at h1), HR4.out.mono fun i hi hs => ⟨⟨by have := HS3.out; omega, by have := HB4.out.size; omega⟩, HB4.out.block i hi⟩, below_step HB3.out HB4.out⟩
end Go.Proofs.YteoljppcafakpaaDoor.PgFnPgWalk
namespace Go.Proofs.YteoljppcafakpaaDoor.PgFnPgWalk
open Go.RowKit Go.Proofs.YteoljppcafakpaaDoor.EvN Go.Proofs.YteoljppcafakpaaDoor.Row Go.Proofs.YteoljppcafakpaaDoor.Sf Go.Proofs.YteoljppcafakpaaDoor.PFnPgWalk Go.Proofs.YteoljppcafakpaaDoorW.PrintWords Go.Proofs.YteoljppcafakpaaDoorW.PrintLast Go.Proofs.YteoljppcafakpaaDoorW.PrintMore
set_option linter.unusedSimpArgs false
set_option linter.unusedVariables false
theorem appm {P : Program} {w : World} {ops : Array Oper} {rest : List Oper} {o : Oper} {a : Act} {Q : Exit → Act → World → Prop} (hgd : o.guard = none) (s x : Operand) (t : TypeId)
    (ho : o.op = .call { callee := .builtin .append, args := #[s, x], argTypes := #[t, t] })
    (e : TypeId) (z : Value) (bytes : Nat) (ht : P.underlying t = some (.slice e)) (hinfo : (P.info? e).map (fun i => (i.zero, i.size, i.bytes)) = some (some z, 1, bytes)) (hz1 : z.cells.size = 1)
    (v : Value) (n : Nat) (xs : List Value) (hs : a.eval s = v) (B : Nat) (w0 : World) (hown : w.ownsRow B e 1 v n xs) (hB : Below B w0 w) (hBw : B ≤ w0.heap.size)
    (vx : Value) (S : Nat → Prop) (news : List Value) (hx : a.eval x = vx) (hrow : RowAt w S e vx news) (h1 : ∀ u ∈ news, u.oneCell' = true)
    (hbytes : (n + news.length) * bytes ≤ 140737488355328) (hn : n + news.length ≤ maxLen)
    (h : ∀ v' w', Hid (w'.ownsRow B e 1 v' (n + news.length) (xs ++ news)) → Hid (Below B w0 w') → Hid (w.grownBy w' v.ownBlock) → wpList P ops Q rest (a.put o.dst v') w') : wpList P ops Q (o :: rest) a w := by
  obtain ⟨i, hi, hz, hsize, hby⟩ := info_parts hinfo
  rcases hrow with ⟨rfl, rfl⟩ | ⟨g, cap, cur, rfl, _, hg, k1, k2, k3, k4⟩
  · refine wpList_append_own_none hgd s x t ho B e i 1 ht hi v n xs hs hown hx ?_
    exact h v w (Lib.hid (by simpa using hown)) (Lib.hid hB) (Lib.hid (grown_refl w _))
  · refine wpList_append_own w hgd s x t ho B e i z 1 bytes ht hi hz hsize hby hz1 (by decide) v n xs hs hown ⟨g, 0, none⟩ news.length cap news hx (by omega) ?_ h1 hn hbytes (Nat.le_trans hBw hB.size) ?_
    · intro j u hj
      have e1 : (⟨g, 0, none⟩ : Addr).add j = ⟨g, j, none⟩ := by unfold Addr.add; split <;> simp_all
      rw [e1, blk_cell hg j, ← Array.getElem?_toList]
      have hjl : j < news.length := (List.getElem?_eq_some_iff.1 hj).1
      rw [← hj, ← k4, List.getElem?_take_of_lt hjl]
    · intro v' w' hown' hgrow _
      exact h v' w' hown' (hB.grown hgrow (Nat.le_trans hBw hB.size) (fun k hk => (hown.lt k hk).1)) hgrow
theorem bordF_head (s : ByteArray) (m i : Nat) : (bordF s m i)[0]? = some i := by
  cases m with
  | zero => rfl
  | succ m => rw [bordF]; split <;> rfl
theorem drop_get {α : Type} {l r : List α} {k j : Nat} {y : α} (h : l.drop k = r) (hj : r[j]? = some y) : l[k + j]? = some y := by rw [← List.getElem?_drop, h]; exact hj
def WkI (L : List I) (s : ByteArray) (Bs Tot : List Nat) (CH : List Int) (k i m : Nat) (E pcs : List Nat) (last : Int) : Prop :=
  (k < Bs.length ∧ i ≤ s.size ∧ s.size < i + m ∧ Bs.drop k = bordF s m i ∧ CH.drop k = last :: (runeF s m i ++ [-1, -1]) ∧ Tot = E ++ wkF L s (m + 1) pcs last i ∧ (∀ x ∈ pcs, x < L.length) ∧ pcs.length ≤ 4000 ∧ -1 ≤ last ∧ last ≤ 1114111) ∨ (k = Bs.length ∧ Tot = E)
theorem WkI.step {L : List I} {st nc most : Int} (h : PSound L st nc most) (hm : L.length ≤ 2000) {s : ByteArray} {Bs Tot : List Nat} {CH : List Int} {k i m : Nat} {E pcs : List Nat} {last : Int} (hI : WkI L s Bs Tot CH k i m E pcs last) (hk : k < Bs.length) :
    WkI L s Bs Tot CH (k + 1) (i + (dec s i).2) (m - 1) (E ++ if hasM L (reachA L (condZ last (dec s i).1) [] pcs) = true then [i] else []) ((reachA L (condZ (dec s i).1 (dec s (i + (dec s i).2)).1) [] (nextP L (dec s i).1 (reachA L (condZ last (dec s i).1) [] pcs))).filter fun pc => waitsB (ins L pc)) (dec s i).1 := by
  obtain ⟨_, j1, j2, j3, j4, j5, j6, j7, j8, j9⟩ := hI.resolve_right (fun h => by omega)
  obtain ⟨m, rfl⟩ : ∃ m', m = m' + 1 := ⟨m - 1, by omega⟩
  rw [Nat.add_sub_cancel]
  have hr := dec_rng s i
  rw [wkF] at j5
  by_cases hw : (dec s i).2 = 0
  · have hi := (dec_w s i).1 hw
    right
    rw [if_pos hw, List.append_nil] at j5
    rw [bordF, if_pos hi] at j3
    have := congrArg List.length j3
    simp at this
    exact ⟨by omega, j5⟩
  · have hi : ¬ s.size ≤ i := fun e => hw ((dec_w s i).2 e)
    have hp := dec_pos s i (by omega)
    left
    rw [if_neg hw, ← List.append_assoc] at j5
    rw [bordF, if_neg hi] at j3
    rw [runeF, if_neg hi] at j4
    have hB : Bs.drop (k + 1) = bordF s m (i + (dec s i).2) := by rw [← List.drop_drop, j3]; rfl
    have hC : CH.drop (k + 1) = (dec s i).1 :: (runeF s m (i + (dec s i).2) ++ [-1, -1]) := by rw [← List.drop_drop, j4]; rfl
    have hfine := reachA_fine (cond := condZ (dec s i).1 (dec s (i + (dec s i).2)).1) h.leads _ [] ⟨by simp, fun x hx => by cases hx⟩ (nextP_lt h.leads (dec s i).1 fun x hx => (reachA_fine (cond := condZ last (dec s i).1) h.leads pcs [] ⟨by simp, fun x hx => by cases hx⟩ j6).lt x hx)
    refine ⟨?_, dec_le s i j1, by omega, hB, hC, j5, fun x hx => hfine.lt x (List.mem_filter.1 hx).1, ?_, hr.1, hr.2⟩
    · have h1 := drop_get hB (bordF_head s m (i + (dec s i).2))
      have := (List.getElem?_eq_some_iff.1 h1).1
      omega
    · have h1 := List.length_filter_le (fun pc => waitsB (ins L pc)) (reachA L (condZ (dec s i).1 (dec s (i + (dec s i).2)).1) [] (nextP L (dec s i).1 (reachA L (condZ last (dec s i).1) [] pcs)))
      have h2 := hfine.len
      omega
set_option maxRecDepth 100000 in
set_option maxHeartbeats 8000000 in
theorem law_calls {L : List I} {st nc : Int} (w : World) (A : Option Addr) (c : Nat) (hK : Kd.C k29 w A L.length L) (hc : L.length ≤ c) (s : ByteArray) (hT : Tabs w) (hF : Folds w) (hSz : Sizes w) :
    Calls Tryd.prog 4 #[.agg #[.slice A L.length c, .int .i64 st, .int .i64 nc], .string s] w fun e w' => e = .returned (.bool true) ∧ Below w.heap.size w w' := by
  have hu24 := Tryd.underlying24
  obtain ⟨kf, hkf⟩ := (ev_fits L st nc).get
  have HK := Lib.hid hK
  have HT := Lib.hid hT
  have HF := Lib.hid hF
  have HSZ := Lib.hid hSz
  clear hK hT hF hSz
  go_enter Tryd.func4, Tryd.ntmps4
  go_wp2_with fail
  obtain ⟨gb, hgb⟩ : ∃ gb, gb = w.heap.size := ⟨_, rfl⟩
  have BK := Lib.hid (heap_alloc_new w (.cells #[.slice A L.length c, .int .i64 st, .int .i64 nc] 24))
  have HB1 := Lib.hid (below_alloc (Below.refl w.heap.size w) (.cells #[.slice A L.length c, .int .i64 st, .int .i64 nc] 24))
  have GB := Lib.hid (show w.heap.size ≤ gb by omega)
  rw [← hgb] at BK ⊢
  clear hgb
  generalize w.alloc (.cells #[.slice A L.length c, .int .i64 st, .int .i64 nc] 24) = w1 at *
  refine (laws_zzFits3.calls kf A c L st nc (fits L) w1 (Kd.C_below HK.out HB1.out) hc hkf).mono ?_
  rintro e w2 ⟨rfl, hb2⟩
  have HB2 := Lib.hid (below_step HB1.out hb2)
  have BK2 := Lib.hid (blk_below BK.out hb2)
  clear hb2 BK HB1 hkf
  cases hf : fits L with
  | false =>
    go_wp2_with fail
    go_ret
    exact ⟨rfl, HB2.out⟩
  | true =>
    have hfl : L.length ≤ 2147483647 ∧ ∀ i ∈ L, i.f3.length ≤ 2147483647 := by
      unfold fits at hf
      simp only [Bool.and_eq_true, decide_eq_true_eq, List.all_eq_true] at hf
      exact hf
    have HFL := Lib.hid hfl.2
    have hfl1 := hfl.1
    clear hfl hf
    by_cases hz : s.size > 2147483647
    · have hzd : decide (s.size > 2147483647) = true := decide_eq_true hz
      go_wp2_with fail
      go_ret
      exact ⟨rfl, HB2.out⟩
    · have hzd : decide ((2147483647 : Int) < (s.size : Int)) = false := decide_eq_false (by omega)
      by_cases hz1 : s.size > 1000
      · have hzd1 : decide (s.size > 1000) = true := decide_eq_true hz1
        go_wp2_with fail
        go_ret
        exact ⟨rfl, HB2.out⟩
      · have hzd1 : decide ((1000 : Int) < (s.size : Int)) = false := decide_eq_false (by omega)
        obtain ⟨hz0, hz1, hz2⟩ := blk3 BK2.out
        go_wp2_with fail
        refine (fine_calls hfl1 HFL.out s (by omega) w2 A c (Kd.C_below HK.out HB2.out) hc).mono ?_
        rintro e w3 ⟨rfl, hb3⟩
        have HB3 := Lib.hid (below_step HB2.out hb3)
        have BK3 := Lib.hid (blk_below BK2.out hb3)
        clear hz0 hz1 hz2 hb3 BK2 HB2
        cases hfi : fineB L st nc s with
        | false =>
          go_wp2_with fail
          go_ret
          exact ⟨rfl, HB3.out⟩
        | true =>
          have hps : PSound L st nc 2000 := by
            unfold fineB at hfi
            simp only [Bool.and_eq_true] at hfi
            exact psnd_says hfi.2
          have hm : L.length ≤ 2000 := by have := hps.most; omega
          obtain ⟨t, rfl⟩ : ∃ t : Nat, st = (t : Int) := ⟨st.toNat, by have := hps.st0; omega⟩
          have ht1 : t < L.length := by have := hps.st1; omega
          have hsz : s.size ≤ 1000 := by omega
          have HPS := Lib.hid hps
          clear hps hfi hz hzd hzd1
          obtain ⟨hz0, hz1, hz2⟩ := blk3 BK3.out
          have lb := blk_lt BK3.out
          have HTA := Lib.hid (show ∀ w', Below w3.heap.size w3 w' → Tabs w' from fun w' hb => Utf8Tabs_below HT.out (below_step HB3.out hb))
          obtain ⟨Bs, hBs⟩ : ∃ Bs, Bs = bordF s (s.size + 1) 0 := ⟨_, rfl⟩
          have hBl : Bs.length ≤ 1002 := by rw [hBs]; have := bordF_len s (s.size + 1) 0; omega
          have HBs := Lib.hid hBs
          have HDL := Lib.hid (show (dI Bs).length = Bs.length by unfold dI; rw [List.length_map])
          clear hBs
          go_upto_region 6 with (fail)
          go_cut [6, 7] (fun v6 v7 wc => ∃ (g : Nat) (AB : Option Addr) (cB : Nat), v6 = .slice (some ⟨g, 0, none⟩) 1 1 ∧ v7 = .slice AB Bs.length cB ∧ Hid (wc.heap[g]? = some (.cells #[.int .i64 (t : Int)] 3 (0, 0)) ∧ Kd.C (Kd.int .i64) wc AB (dI Bs).length (dI Bs) ∧ Below w3.heap.size w3 wc))
          case first =>
            go_region_held3 (fun w' => w'.cell? ⟨gb, 1, none⟩ = some (.int .i64 (t : Int)))
              (first
                | go_keep
                | ((rw [hd.cell (by simp; omega)]); assumption))
              ((go_at_call 14; refine (borders_calls s _ (by omega) (HTA.out _ (by first | exact below_drew (Below.refl _ w3) | exact below_drew (below_alloc (Below.refl _ w3) _) | exact below_alloc (below_drew (Below.refl _ w3)) _))).mono ?_; rintro e w4 ⟨lv, rfl, hrow, hd⟩; rw [← HBs.out] at hrow; obtain ⟨AB, cB, rfl, _, hkB⟩ := rowAt_kd (l := dI Bs) (enc := Value.int .i64) (h1 := fun _ => rfl) (by unfold dI; rw [List.map_map]; exact hrow)))
            · go_wp2_with fail
              go_meet
              first
                | exact ⟨_, AB, cB, rfl, by rw [HDL.out], Lib.hid ⟨blk_below (heap_alloc_new _ _) hd, hkB, below_step (below_alloc (below_drew (Below.refl _ w3)) _) hd⟩⟩
                | exact ⟨_, AB, cB, rfl, by rw [HDL.out], Lib.hid ⟨blk_below (blk_drew (heap_alloc_new _ _)) hd, hkB, below_step (below_drew (below_alloc (Below.refl _ w3) _)) hd⟩⟩
            · go_wp2_with fail
              go_meet
              exact ⟨_, AB, cB, rfl, by rw [HDL.out], Lib.hid ⟨heap_alloc_new w4 _, Kd.C_below hkB (below_alloc (Below.refl _ w4) _), below_alloc (below_step (below_drew (Below.refl _ w3)) hd) _⟩⟩
          case rest =>
            obtain ⟨g0, AB, cB, rfl, rfl, HQ⟩ := hcut
            clear hz0 hz1 hz2
            have HBC := Lib.hid (below_step HB3.out HQ.out.2.2)
            have BKC := Lib.hid (blk_below BK3.out HQ.out.2.2)
            have HTC := Lib.hid (show ∀ w', Below wc.heap.size wc w' → Tabs w' from fun w' hb => HTA.out w' (below_step HQ.out.2.2 hb))
            have HO0 := Lib.hid (own_one (B := wc.heap.size) (heap_alloc_new wc (.cells #[.int .i32 (-1)] 21)) (Nat.le_refl _))
            have HBA := Lib.hid (below_alloc (Below.refl wc.heap.size wc) (.cells #[.int .i32 (-1)] 21))
            obtain ⟨Rs, hRs⟩ : ∃ Rs, Rs = runeF s (s.size + 1) 0 := ⟨_, rfl⟩
            have hRl : Rs.length ≤ 1001 := by rw [hRs]; exact Nat.le_trans (runeF_len s _ _) (by omega)
            have HRs := Lib.hid hRs
            clear hRs HTA
            go_wp2_with fail
            refine (runes_calls s _ (by omega) (HTC.out _ HBA.out)).mono ?_
            rintro e w5 ⟨lv, rfl, hrow, hb5⟩
            rw [← HRs.out] at hrow
            have HRW := Lib.hid hrow
            have HB5 := Lib.hid (below_step HBA.out hb5)
            have HO5 := Lib.hid (HO0.out.kept (Row.grown_of_below hb5 none) (by simp [Value.ownBlock]))
            have hnl : (Rs.map (Value.int .i32)).length = Rs.length := by simp
            have HNL := Lib.hid hnl
            clear hrow hb5 hnl HO0 HBA
            obtain ⟨CH, hCH⟩ : ∃ CH : List Int, CH = (-1) :: (Rs ++ [-1, -1]) := ⟨_, rfl⟩
            have hCv : [Value.int .i32 (-1)] ++ Rs.map (Value.int .i32) ++ [.int .i32 (-1), .int .i32 (-1)] = CH.map (Value.int .i32) := by rw [hCH]; simp
            have hCl : 1 + (Rs.map (Value.int .i32)).length + [Value.int .i32 (-1), .int .i32 (-1)].length = CH.length := by rw [hCH]; simp; omega
            have HCV := Lib.hid hCv
            have HCL0 := Lib.hid hCl
            have HCH := Lib.hid hCH
            have HCL := Lib.hid (show CH.length ≤ 1004 by rw [hCH]; simp; omega)
            clear hCv hCl hCH
            go_wp2_with (at_builtin; first
              | (refine appm rfl (.tmp 39) (.tmp 41) 27 rfl 21 (.int .i32 0) 4 Tryd.underlying27 iru rfl _ 1 _ rfl wc.heap.size wc HO5.out HB5.out (Nat.le_refl _) _ _ _ rfl HRW.out (by intro u hu; obtain ⟨y, _, rfl⟩ := List.mem_map.1 hu; rfl) (by rw [HNL.out]; omega) (by rw [HNL.out]; unfold maxLen; omega) ?_; intro v1 w6 hown1 hbel1 hg1)
              | (refine appm rfl (.tmp 42) (.tmp 43) 27 rfl 21 (.int .i32 0) 4 Tryd.underlying27 iru rfl _ (1 + (Rs.map (Value.int .i32)).length) _ rfl wc.heap.size wc (hown1.out.alloc _) (below_alloc hbel1.out _) (Nat.le_refl _) _ (fun _ => True) [.int .i32 (-1), .int .i32 (-1)] rfl (.inr ⟨w6.heap.size, 2, #[.int .i32 (-1), .int .i32 (-1)], rfl, trivial, heap_alloc_new w6 _, by simp, by unfold maxLen; simp, by simp, by simp⟩) (by intro u hu; simp at hu; subst hu; rfl) (by rw [HNL.out]; simp; omega) (by rw [HNL.out]; unfold maxLen; simp; omega) ?_; intro v2 w7 hown2 hbel2 hg2; obtain ⟨gc, ccap, rfl, hgc, hlc⟩ := hown2.out.form (by simp); rw [HCL0.out]))
            have hown2' := hown2.out
            rw [HCV.out, HCL0.out] at hown2'
            have HOC := Lib.hid hown2'
            have HW7 := Lib.hid hbel2.out
            obtain ⟨Tot, hTot⟩ : ∃ Tot, Tot = wkF L s (s.size + 1 + 1) [t] (-1) 0 := ⟨_, rfl⟩
            have hTe : Tot = endsF L s (s.size + 2) [t] (lastR s 0) 0 := by
              rw [hTot]
              exact wkF_ends HPS.out s (s.size + 2) [t] [t] (-1) 0 (fun x hx => by simp at hx; omega) rfl rfl
            have HTL := Lib.hid (show Tot.length ≤ 1002 by rw [hTe]; exact Nat.le_trans (endsF_len L s _ _ _ _) (by omega))
            have HTE := Lib.hid hTe
            have HT0 := Lib.hid hTot
            have hk7 : ∃ A0 c0, Value.slice (some ⟨g0, 0, none⟩) 1 1 = .slice A0 [(t : Int)].length c0 ∧ [(t : Int)].length ≤ c0 ∧ Kd.C (Kd.scalar (Value.int .i64) (fun _ => rfl)) w7 A0 [(t : Int)].length [(t : Int)] :=
              rowAt_kd (enc := Value.int .i64) (h1 := fun _ => rfl) (l := [(t : Int)]) (S := fun _ => True) (.inr ⟨g0, 1, _, rfl, trivial, blk_below HQ.out.1 HW7.out, by simp, by unfold maxLen; simp, by simp, by simp⟩)
            obtain ⟨A0, c0, e0, _, hk0⟩ := hk7
            cases e0
            have HK0 : Hid (Kd.C (Kd.int .i64) w7 (some ⟨g0, 0, none⟩) (dI [t]).length (dI [t])) := Lib.hid hk0
            clear hown2 hbel2 hown1 hbel1 hg1 hg2 HRW HB5 HO5 hown2' HCV HCL0 hTot hTe hk0
            have HRS := HRs
            clear HRs hRl HNL
            go_loopg [5, 6, 47] Bs.length (fun gk s5 s6 s47 wr => ∃ (k i m : Nat) (E pcs : List Nat) (last : Int) (Ap : Option Addr) (cp : Nat), Hid (gk + k = Bs.length ∧ Below w7.heap.size w7 wr ∧ wr.ownsRow w7.heap.size 3 1 s5 E.length (iv E) ∧ Kd.C (Kd.int .i64) wr Ap (dI pcs).length (dI pcs) ∧ WkI L s Bs Tot CH k i m E pcs last) ∧ k ≤ Bs.length ∧ s6 = .slice Ap pcs.length cp ∧ s47 = .int .i64 k)
            case atStart =>
              refine ⟨0, 0, s.size + 1, [], [t], -1, _, _, ⟨by omega, Below.refl _ w7, World.ownsRow_nil _ _ _ _, HK0.out, .inl ⟨?_, by omega, by omega, HBs.out, by rw [List.drop_zero, HCH.out, HRS.out], HT0.out, fun x hx => by simp at hx; omega, by simp, by omega, by omega⟩⟩, by omega, rfl, rfl⟩
              have h1 := bordF_head s (s.size + 1) 0
              rw [← HBs.out] at h1
              exact (List.getElem?_eq_some_iff.1 h1).1
            case round =>
              obtain ⟨k, i, m, E, pcs, last, Ap, cp, HI, hk, rfl, rfl⟩ := hrel
              obtain ⟨og, rfl⟩ : ∃ og, og = gk := ⟨gk, rfl⟩
              obtain ⟨wq, rfl⟩ : ∃ wq, wq = wr := ⟨wr, rfl⟩
              obtain ⟨v5, rfl⟩ : ∃ v5, v5 = u5 := ⟨u5, rfl⟩
              have HBQ := Lib.hid (below_step HW7.out HI.out.2.1)
              have HBW := Lib.hid (below_step HBC.out HBQ.out)
              by_cases hlt : k < Bs.length
              · have hd1 : decide (k < Bs.length) = true := decide_eq_true hlt
                obtain ⟨_, j1, j2, j3, j4, j5, j6, j7, j8, j9⟩ := HI.out.2.2.2.2.resolve_right (fun h => by omega)
                have HST := Lib.hid (WkI.step HPS.out hm HI.out.2.2.2.2 hlt)
                obtain ⟨adB, hAB, hat⟩ := kd_cell HQ.out.2.1 HBQ.out k (by rw [HDL.out]; exact hlt)
                have hbk : (dI Bs)[k]'(by rw [HDL.out]; exact hlt) = (i : Int) := by
                  have h1 := drop_get j3 (bordF_head s m i)
                  rw [Nat.add_zero] at h1
                  have h2 := (List.getElem?_eq_some_iff.1 h1).2
                  unfold dI
                  rw [List.getElem_map, h2]
                rw [hbk] at hat
                subst hAB
                obtain ⟨r0, r1⟩ := rune_two s i m j2 j1
                have hcg : ∀ (j : Nat) (y : Int), CH[j]? = some y → wq.cell? ⟨gc, j, none⟩ = some (.int .i32 y) := fun j y hy => by
                  have hr := (RowAt.of_owns HOC.out (S := fun _ => True) fun _ _ => trivial)
                  obtain ⟨gx, cx, ex, _, _, _, _, hcx⟩ := hr.cell (by intro e; have := congrArg List.length e; simp at this; rw [this] at hy; simp at hy)
                  rw [List.length_map] at ex
                  cases ex
                  obtain ⟨h1, h2⟩ := List.getElem?_eq_some_iff.1 hy
                  have := hcx j (by simpa using h1)
                  rw [List.getElem_map, h2] at this
                  exact (HI.out.2.1.cell (World.block_lt_of_cell? w7 _ this)).trans this
                have hch0 := hcg k last (by have := drop_get j4 (j := 0) rfl; simpa using this)
                have hch1 := hcg (k + 1) _ (drop_get j4 (j := 1) (by simpa using r0))
                have hch2 := hcg (k + 2) _ (drop_get j4 (j := 2) (by simpa using r1))
                have hcl : k + 2 < CH.length := by
                  have := drop_get j4 (j := 2) (by simpa using r1)
                  exact (List.getElem?_eq_some_iff.1 this).1
                have hR := dec_rng s i
                have hR2 := dec_rng s (i + (dec s i).2)
                obtain ⟨ch, hch⟩ : ∃ ch, ch = (dec s i).1 := ⟨_, rfl⟩
                obtain ⟨dd, hdd⟩ : ∃ dd, dd = (dec s i).2 := ⟨_, rfl⟩
                rw [← hdd] at hch2 hR2 HST
                obtain ⟨c2, hc2⟩ : ∃ c2, c2 = (dec s (i + dd)).1 := ⟨_, rfl⟩
                rw [← hch] at hch1 hR HST
                rw [← hc2] at hch2 hR2 HST
                obtain ⟨D0, hD0⟩ : ∃ D0, D0 = reachA L (condZ last ch) [] pcs := ⟨_, rfl⟩
                obtain ⟨D, hD⟩ : ∃ D, D = reachA L (condZ ch c2) [] (nextP L ch (reachA L (condZ last ch) [] pcs)) := ⟨_, rfl⟩
                obtain ⟨mm, hmm⟩ : ∃ mm, mm = hasM L (reachA L (condZ last ch) [] pcs) := ⟨_, rfl⟩
                rw [← hD, ← hmm] at HST
                have hpcl : (dI pcs).length = pcs.length := by unfold dI; rw [List.length_map]
                have hDl : D.length ≤ 2000 := by
                  have h1 := (reachA_fine (cond := condZ ch c2) HPS.out.leads _ [] ⟨by simp, fun x hx => by cases hx⟩ (nextP_lt HPS.out.leads ch fun x hx => (reachA_fine (cond := condZ last ch) HPS.out.leads pcs [] ⟨by simp, fun x hx => by cases hx⟩ j6).lt x hx)).len
                  rw [← hD] at h1
                  omega
                have hcall : ∀ W, Below wq.heap.size wq W → Calls Tryd.prog 16 #[.agg #[.slice A L.length c, .int .i64 (t : Int), .int .i64 nc], .slice Ap pcs.length cp, .int .i32 last, .int .i32 ch, .int .i32 c2, .bool true] W fun e w' => ∃ A1 c1 A2 c3, e = .returned (.tuple #[.slice A1 D.length c1, .slice A2 D.length c3, .bool mm, .bool true]) ∧
                    RowAt w' (fun i => W.heap.size ≤ i ∧ i < w'.heap.size) 3 (.slice A1 D.length c1) (iv D) ∧ RowAt w' (fun i => W.heap.size ≤ i ∧ i < w'.heap.size) 4 (.slice A2 D.length c3) ((dB L D).map Value.bool) ∧ Below W.heap.size W w' := fun W hW => by
                  have := pgstep_calls HPS.out (fun i hi => by have := HFL.out i hi; omega) w W (below_step HBW.out hW) A c HK.out hc pcs Ap cp j6 j7 (Kd.C_below HI.out.2.2.2.1 hW) HSZ.out HF.out last ch c2 _ (condZ last ch) _ (condZ ch c2) rfl (lazy_match j8 j9 hR.1 hR.2 rfl (cond_z last ch)) rfl (lazy_match hR.1 hR.2 hR2.1 hR2.2 rfl (cond_z ch c2)) D hD
                  rw [← hmm] at this
                  exact this
                have HCALL := Lib.hid hcall
                have HHH := Lib.hid (And.intro hch (And.intro hdd (And.intro hc2 (And.intro hD hmm))))
                obtain ⟨hz0, hz1, hz2⟩ := blk3 (blk_below BKC.out HBQ.out)
                have lgb := blk_lt (blk_below BKC.out HBQ.out)
                have lgc := World.block_lt_of_cell? wq _ hch0
                have hj1 : ((k : Int) + 1).toNat = k + 1 := by omega
                have hj2 : ((k : Int) + 2).toNat = k + 2 := by omega
                have hp1 : (0 : Int) ≤ (k : Int) + 1 := by omega
                have hp2 : (0 : Int) ≤ (k : Int) + 2 := by omega
                have hw1 : IntKind.i64.wrap ((k : Int) + 1) = (k : Int) + 1 := IntWalk.i64_in _ (by omega)
                have hw2 : IntKind.i64.wrap ((k : Int) + 2) = (k : Int) + 2 := IntWalk.i64_in _ (by omega)
                have hl1 : k + 1 < CH.length := by omega
                have hl0 : k < CH.length := by omega
                have hi1 : (k : Int) + 1 < (CH.length : Int) := by omega
                have hi2 : (k : Int) + 2 < (CH.length : Int) := by omega
                clear j1 j2 j3 j4 j5 j6 j7 j8 j9 hbk r0 r1 hcg hR hR2 hch hdd hc2 hD hmm hcall
                go_upto_region 11 with (fail)
                go_cut [11, 12, 13, 14] (fun v11 v12 v13 v14 wc => ∃ (A1 : Option Addr) (c1 : Nat) (A2 : Option Addr) (c3 : Nat), v11 = .slice A1 D.length c1 ∧ v12 = .slice A2 D.length c3 ∧ v13 = .bool mm ∧ v14 = .bool true ∧ Hid (RowAt wc (fun i => wq.heap.size ≤ i) 3 (.slice A1 D.length c1) (iv D) ∧ RowAt wc (fun i => wq.heap.size ≤ i) 4 (.slice A2 D.length c3) ((dB L D).map Value.bool) ∧ Below wq.heap.size wq wc))
                case first =>
                  go_region_held3 (fun w' => w'.cell? ⟨gb, 0, none⟩ = some (.slice A L.length c) ∧ w'.cell? ⟨gb, 1, none⟩ = some (.int .i64 (t : Int)) ∧ w'.cell? ⟨gb, 2, none⟩ = some (.int .i64 nc) ∧ w'.cell? ⟨gc, k, none⟩ = some (.int .i32 last) ∧ w'.cell? ⟨gc, k + 1, none⟩ = some (.int .i32 ch) ∧ w'.cell? ⟨gc, k + 2, none⟩ = some (.int .i32 c2))
                    (first
                      | go_keep
                      | (go_split_ands
                         refine ⟨?_, ?_, ?_, ?_, ?_, ?_⟩
                         · ((rw [hd.cell (by first | exact lgb | (simp; omega))]); assumption)
                         · ((rw [hd.cell (by first | exact lgb | (simp; omega))]); assumption)
                         · ((rw [hd.cell (by first | exact lgb | (simp; omega))]); assumption)
                         · ((rw [hd.cell (by first | exact lgc | (simp; omega))]); assumption)
                         · ((rw [hd.cell (by first | exact lgc | (simp; omega))]); assumption)
                         · ((rw [hd.cell (by first | exact lgc | (simp; omega))]); assumption)))
                    ((go_at_call 16; refine (HCALL.out _ (below_drew (Below.refl _ wq))).mono ?_; rintro e w8 ⟨A1, c1, A2, c3, rfl, hk1, hk2, hd⟩))
                  all_goals
                    go_wp2_with fail
                    go_meet
                    exact ⟨A1, c1, A2, c3, rfl, rfl, rfl, rfl, Lib.hid ⟨hk1.mono fun i hi hs => ⟨hs.1, rfl⟩, hk2.mono fun i hi hs => ⟨hs.1, rfl⟩, below_step (below_drew (Below.refl _ wq)) hd⟩⟩
                case rest =>
                  obtain ⟨A1, c1, A2, c3, rfl, rfl, rfl, rfl, HQ2⟩ := hcut
                  clear hz0 hz1 hz2 hch0 hch1 hch2 hat hj1 hj2 hw1 hw2 hl1 hl0 hi1 hi2 hcl hp1 hp2
                  have HB7 := Lib.hid (below_step HI.out.2.1 HQ2.out.2.2)
                  have HOE := Lib.hid (HI.out.2.2.1.kept (Row.grown_of_below HQ2.out.2.2 none) (by cases v5.ownBlock <;> simp))
                  obtain ⟨E', hE'⟩ : ∃ E', E' = E ++ (if mm = true then [i] else []) := ⟨_, rfl⟩
                  rw [← hE'] at HST
                  have hel : E.length ≤ 1002 := by
                    have h1 := HTL.out
                    rcases HI.out.2.2.2.2 with h | h
                    · have := congrArg List.length h.2.2.2.2.2.1
                      rw [List.length_append] at this
                      omega
                    · rw [h.2] at h1; exact h1
                  go_upto_if 83 with (fail)
                  go_cut [5] (fun v5' wx => Hid (wx.ownsRow w7.heap.size 3 1 v5' E'.length (iv E') ∧ RowAt wx (fun i => wq.heap.size ≤ i) 3 (.slice A1 D.length c1) (iv D) ∧ RowAt wx (fun i => wq.heap.size ≤ i) 4 (.slice A2 D.length c3) ((dB L D).map Value.bool) ∧ Below w7.heap.size w7 wx))
                  case first =>
                    cases mm with
                    | false =>
                      obtain rfl : E' = E := by simpa using hE'
                      go_wp2_with fail
                      go_meet
                      exact ⟨HOE.out, HQ2.out.1, HQ2.out.2.1, HB7.out⟩
                    | true =>
                      obtain rfl : E' = E ++ [i] := by simpa using hE'
                      go_wp2_with (at_builtin; refine My.app1 rfl (.tmp 84) (.tmp 86) 32 rfl 3 (.int .i64 0) 8 Tryd.underlying32 iint rfl _ E.length _ rfl w7.heap.size w7 (HOE.out.alloc _) (below_alloc HB7.out _) (Nat.le_refl _) wc.heap.size rfl (.int .i64 (i : Int)) (by simp) rfl (by omega) (by unfold maxLen; omega) ?_; intro v1 wz hown1 hbel1 hg1)
                      go_meet
                      have hsz := HQ2.out.2.2.size
                      have hkp : ∀ i, i < wc.heap.size → wq.heap.size ≤ i → wz.heap[i]? = wc.heap[i]? := fun i hi hs => by
                        refine (hg1.out.block i (by simp; omega) (fun e => ?_)).trans (Below.heap_alloc _ _ _ hi)
                        have := (HI.out.2.2.1.lt i e.symm).2
                        omega
                      refine ⟨?_, HQ2.out.1.mono fun i hi hs => ⟨hs, hkp i hi hs⟩, HQ2.out.2.1.mono fun i hi hs => ⟨hs, hkp i hi hs⟩, hbel1.out⟩
                      have := hown1.out
                      simpa using this
                  case rest =>
                    have HX := hcut
                    clear HQ2 HB7 HOE hE' hel hcut
                    obtain ⟨wx, rfl⟩ : ∃ wx, wx = wc := ⟨wc, rfl⟩
                    obtain ⟨v5x, rfl⟩ : ∃ v5x, v5x = u5 := ⟨u5, rfl⟩
                    go_wp2_with fail
                    go_loopg [6, 90] D.length (fun ik s6 s90 wi => ∃ k2 : Nat, Hid (ik + k2 = D.length ∧ Below wx.heap.size wx wi ∧ wi.ownsRow wx.heap.size 3 1 s6 ((D.take k2).filter fun pc => waitsB (ins L pc)).length (iv ((D.take k2).filter fun pc => waitsB (ins L pc)))) ∧ k2 ≤ D.length ∧ s90 = .int .i64 k2)
                    case atStart => exact ⟨0, ⟨by omega, Below.refl _ wx, by simpa using World.ownsRow_nil _ _ _ _⟩, by omega, rfl⟩
                    case round =>
                      obtain ⟨k2, HJ, hk2, rfl⟩ := hrel
                      by_cases hlt2 : k2 < D.length
                      · have hd2 : decide (k2 < D.length) = true := decide_eq_true hlt2
                        obtain ⟨gl, cl, e, _, _, _, _, hcl1⟩ := HX.out.2.1.cell (by intro e; have := congrArg List.length e; simp at this; rw [this] at hlt2; simp at hlt2)
                        obtain ⟨gw, cw, e2, _, _, _, _, hcl2⟩ := HX.out.2.2.1.cell (by intro e; have := congrArg List.length e; simp [dB] at this; rw [this] at hlt2; simp at hlt2)
                        rw [List.length_map] at e
                        cases e
                        rw [List.length_map, show (dB L D).length = D.length by unfold dB; rw [List.length_map]] at e2
                        cases e2
                        have h1 := hcl1 k2 (by simpa using hlt2)
                        have h2 := hcl2 k2 (by simpa [dB] using hlt2)
                        rw [List.getElem_map] at h1 h2
                        rw [show (dB L D)[k2]'(by simpa [dB] using hlt2) = waitsB (ins L D[k2]) by unfold dB; rw [List.getElem_map]] at h2
                        have hx1 := (HJ.out.2.1.cell (World.block_lt_of_cell? wx _ h1)).trans h1
                        have hx2 := (HJ.out.2.1.cell (World.block_lt_of_cell? wx _ h2)).trans h2
                        have htk : D.take (k2 + 1) = D.take k2 ++ [D[k2]] := List.take_succ_eq_append_getElem hlt2
                        have hfl : ((D.take k2).filter fun pc => waitsB (ins L pc)).length ≤ 2000 := by
                          have h3 := List.length_filter_le (fun pc => waitsB (ins L pc)) (D.take k2)
                          rw [List.length_take] at h3
                          omega
                        have HTK := Lib.hid htk
                        clear h1 h2 hcl1 hcl2 htk
                        cases hb : waitsB (ins L D[k2]) with
                        | false =>
                          rw [hb] at hx2
                          have HB := Lib.hid hb
                          clear hb
                          go_wp2_with fail
                          go_roundg (gk - 1)
                          case measure => have := HJ.out.1; omega
                          case rel =>
                            refine ⟨k2 + 1, ⟨by have := HJ.out.1; omega, HJ.out.2.1, ?_⟩, by omega, by go_num⟩
                            rw [HTK.out, List.filter_append, List.filter_cons, HB.out, if_neg (by simp), List.filter_nil, List.append_nil]
                            exact HJ.out.2.2
                        | true =>
                          rw [hb] at hx2
                          have HB := Lib.hid hb
                          clear hb
                          generalize hQ : ((D.take k2).filter fun pc => waitsB (ins L pc)) = Q at *
                          have HQQ := Lib.hid hQ
                          clear hQ
                          go_wp2_with (at_builtin; refine My.app1 rfl (.tmp 99) (.tmp 101) 32 rfl 3 (.int .i64 0) 8 Tryd.underlying32 iint rfl _ Q.length _ rfl wx.heap.size wx (HJ.out.2.2.alloc _) (below_alloc HJ.out.2.1 _) (Nat.le_refl _) wr.heap.size rfl (.int .i64 (D[k2] : Int)) (by simp) rfl (by omega) (by unfold maxLen; omega) ?_; intro v1 wz hown1 hbel1 hg1)
                          go_roundg (gk - 1)
                          case measure => have := HJ.out.1; omega
                          case rel =>
                            refine ⟨k2 + 1, ⟨by have := HJ.out.1; omega, hbel1.out, ?_⟩, by omega, by go_num⟩
                            rw [HTK.out, List.filter_append, List.filter_cons, HB.out, if_pos rfl, List.filter_nil, HQQ.out]
                            have := hown1.out
                            simpa using this
                      · have hke : k2 = D.length := by omega
                        subst hke
                        have hd2 : decide (D.length < D.length) = false := decide_eq_false hlt2
                        rw [List.take_length] at HJ
                        obtain ⟨Q, hQ⟩ : ∃ Q, Q = D.filter fun pc => waitsB (ins L pc) := ⟨_, rfl⟩
                        rw [← hQ] at HJ HST
                        have hr6 : RowAt wr (fun _ => True) 3 u6 ((dI Q).map (Value.int .i64)) := by
                          rw [show (dI Q).map (Value.int .i64) = iv Q by unfold dI; rw [List.map_map]; rfl]
                          exact RowAt.of_owns HJ.out.2.2 fun g hg => trivial
                        obtain ⟨A6, c6, rfl, hc6, hk6⟩ := rowAt_kd (l := dI Q) (enc := Value.int .i64) (h1 := fun _ => rfl) hr6
                        have HK6 : Hid (Kd.C (Kd.int .i64) wr A6 (dI Q).length (dI Q)) := Lib.hid hk6
                        have hql : (dI Q).length = Q.length := by unfold dI; rw [List.length_map]
                        have HQL := Lib.hid hql
                        have HO5 := Lib.hid (HX.out.1.kept (Row.grown_of_below HJ.out.2.1 none) (by cases v5x.ownBlock <;> simp))
                        have HB5 := Lib.hid (below_step HX.out.2.2.2 HJ.out.2.1)
                        clear hr6 hk6 hQ hql
                        go_wp2_with fail
                        go_roundg (og - 1)
                        case measure => have := HI.out.1; omega
                        case rel => exact ⟨k + 1, i + dd, m - 1, E', Q, ch, A6, c6, ⟨by have := HI.out.1; omega, HB5.out, HO5.out, HK6.out, HST.out⟩, by omega, by rw [HQL.out], by go_num⟩
              · have hke : k = Bs.length := by omega
                subst hke
                have hTE : Tot = E := (HI.out.2.2.2.2.resolve_left (fun h => by have := h.1; omega)).2
                have hd1 : decide (Bs.length < Bs.length) = false := decide_eq_false hlt
                obtain ⟨hz0, hz1, hz2⟩ := blk3 (blk_below BKC.out HBQ.out)
                have HTE2 := Lib.hid hTE
                have hr5 : RowAt wq (fun i => w7.heap.size ≤ i ∧ i < wq.heap.size) 3 v5 ((dI E).map (Value.int .i64)) := by
                  rw [show (dI E).map (Value.int .i64) = iv E by unfold dI; rw [List.map_map]; rfl]
                  exact RowAt.of_owns HI.out.2.2.1 fun g hg => HI.out.2.2.1.lt g hg
                obtain ⟨A8, c8, rfl, hc8, hk8⟩ := rowAt_kd (l := dI E) (enc := Value.int .i64) (h1 := fun _ => rfl) hr5
                have HK8 : Hid (Kd.C (Kd.int .i64) wq A8 (dI E).length (dI E)) := Lib.hid hk8
                have hel : (dI E).length ≤ 1002 := by rw [← hTE]; unfold dI; rw [List.length_map]; exact HTL.out
                clear hTE hr5 hk8
                go_wp2_with fail
                refine (ends_calls HPS.out hm (fun i hi => by have := HFL.out i hi; omega) HPS.out.op w _ A c HK.out HBW.out s (by omega) 0 (Nat.zero_le _) HT.out HF.out).mono ?_
                rintro e w8 ⟨lv, rfl, hrow, hb8⟩
                rw [Int.toNat_natCast, Nat.sub_zero, ← HTE.out, HTE2.out] at hrow
                obtain ⟨A9, c9, rfl, hc9, hk9⟩ := rowAt_kd (l := dI E) (enc := Value.int .i64) (h1 := fun _ => rfl) (by unfold dI; rw [List.map_map]; exact hrow)
                obtain ⟨k1, hk1⟩ := (ev_sameInts (dI E) (by omega)).get
                have hcall := spec_SameInts.calls k1 A8 c8 (dI E) A9 c9 (dI E) true w8 (Kd.C_below HK8.out hb8) hc8 hk9 hc9 hk1
                have HCALL := Lib.hid hcall
                have HB9 := Lib.hid (below_step HBW.out hb8)
                clear hz0 hz1 hz2 hrow hb8 hk9 hcall hk1 hc8 hc9 hel
                go_wp2_with fail
                with_reducible refine HCALL.out.mono ?_
                rintro e w9 ⟨rfl, hd9⟩
                go_wp2_with fail
                go_ret
                exact ⟨rfl, below_step HB9.out hd9.below⟩
end Go.Proofs.YteoljppcafakpaaDoor.PgFnPgWalk
namespace Go.Proofs.YteoljppcafakpaaDoor.PoFnPgWalk
open Go.ChangeShapes Go.WideShapes Go.ChangeAt Go.RowKit Go.Proofs.YteoljppcafakpaaDoor.PFnPgWalk Go.Proofs.YteoljppcafakpaaDoorW.PrintWords Go.Proofs.YteoljppcafakpaaDoorW.PrintLast
set_option linter.unusedSimpArgs false
set_option linter.unusedVariables false
variable {H : Type} {enc : TypeId × Value → H} {w : World} {base : Nat} {spare : Nat → Bool} {held : Bool}
theorem ints_open {t e : TypeId} {k : IntKind} (ht : Tryd.prog.underlying t = some (.slice e)) (he : Tryd.prog.underlying e = some (.int k)) (hc : Tryd.prog.cellsOf e = 1) {fuel : Nat} {cs : List Value} {x : DataW H × List MemPlace} (h : DataW.trod enc Tryd.prog w base spare held fuel t cs = some x) :
    ∃ (A : Option Addr) (c : Nat) (l : List Int), cs = [.slice A l.length c] ∧ l.length ≤ c ∧ Kd.C (Kd.int k) w A l.length l := by
  rcases open_ints ht he hc h with ⟨hcs, _⟩ | ⟨a, len, cap, zs, hcs, _, hl, hm, hz, hx, hcell, hwz⟩
  · exact ⟨none, 0, [], hcs, Nat.le_refl _, ⟨rfl, by simp, fun h => absurd h (by simp)⟩⟩
  · have hzl : len ≤ zs.length := by rw [hz]; split <;> omega
    have hlen : (zs.take len).length = len := by rw [List.length_take]; omega
    refine ⟨some a, cap, zs.take len, by rw [hlen]; exact hcs, by rw [hlen]; exact hl, ⟨rfl, by rw [hlen]; unfold maxLen at hm; omega, fun _ => ⟨a, rfl, fun j p hj => ⟨[.int k p], rfl, rfl, fun i u hu => ?_⟩⟩⟩⟩
    have hj' : j < (zs.take len).length := by
      rcases Nat.lt_or_ge j (zs.take len).length with h | h
      · exact h
      · rw [List.getElem?_eq_none h] at hj; cases hj
    match i, hu with
    | 0, hu =>
      simp at hu
      subst hu
      have e : zs.getD j 0 = p := by
        rw [List.getElem?_take_of_lt (by omega)] at hj
        rw [List.getD_eq_getElem?_getD, hj]; rfl
      show w.cell? (a.add (j * 1 + 0)) = _
      rw [Nat.mul_one, Nat.add_zero, hcell j (by omega), e]
set_option maxRecDepth 100000 in
theorem inst_open (fuel : Nat) {cs : List Value} {x : DataW H × List MemPlace} (h : DataW.trod enc Tryd.prog w base spare held fuel 29 cs = some x) : ∃ t : S29, k29.K w t cs := by
  obtain ⟨xs, n, rfl, hxx, hl, hlen, hf⟩ := DataW.trod_struct Tryd.underlying29 h
  have hc : Tryd.prog.cellsOf 29 = 4 := by kernel_rfl
  rw [hc] at hl
  have hx : xs.length = 4 := hlen
  match cs, hl, xs, hx with
  | [c0, c1, c2, c3], _, [y0, y1, y2, y3], _ =>
    have g0 := hf 0 { name := "Op", type := 3, offset := 0, embedded := false, tag := "", pkgPath := "", byteOffset := 0 } rfl
    have g1 := hf 1 { name := "Out", type := 3, offset := 1, embedded := false, tag := "", pkgPath := "", byteOffset := 8 } rfl
    have g2 := hf 2 { name := "Arg", type := 3, offset := 2, embedded := false, tag := "", pkgPath := "", byteOffset := 16 } rfl
    have g3 := hf 3 { name := "Runes", type := 27, offset := 3, embedded := false, tag := "", pkgPath := "", byteOffset := 24 } rfl
    have ci : Tryd.prog.cellsOf 3 = 1 := by kernel_rfl
    have cr : Tryd.prog.cellsOf 27 = 1 := by kernel_rfl
    simp only [ci, cr, List.drop_succ_cons, List.drop_zero, List.take_succ_cons, List.take_zero, List.getElem?_cons_zero, List.getElem?_cons_succ] at g0 g1 g2 g3
    obtain ⟨a0, e0, _, w0⟩ := DataW.trod_int Tryd.underlying3 g0
    obtain ⟨a1, e1, _, w1⟩ := DataW.trod_int Tryd.underlying3 g1
    obtain ⟨a2, e2, _, w2⟩ := DataW.trod_int Tryd.underlying3 g2
    obtain ⟨A3, n3, l3, e3, le3, C3⟩ := ints_open Tryd.underlying27 Tryd.underlying21 (by kernel_rfl) g3
    cases e0; cases e1; cases e2; cases e3
    exact ⟨⟨a0, a1, a2, l3⟩, k29_mk w ⟨a0, a1, a2, l3⟩ le3 C3⟩
set_option maxRecDepth 100000 in
theorem prog_open (fuel : Nat) {cs : List Value} {x : DataW H × List MemPlace} (h : DataW.trod enc Tryd.prog w base spare held fuel 24 cs = some x) :
    ∃ (A : Option Addr) (c : Nat) (L : List S29) (st nc : Int), cs = [.slice A L.length c, .int .i64 st, .int .i64 nc] ∧ L.length ≤ c ∧ Kd.C k29 w A L.length L := by
  obtain ⟨xs, n, rfl, hxx, hl, hlen, hf⟩ := DataW.trod_struct Tryd.underlying24 h
  have hc0 : Tryd.prog.cellsOf 24 = 3 := by kernel_rfl
  rw [hc0] at hl
  have hx : xs.length = 3 := hlen
  have hc : Tryd.prog.cellsOf 29 = 4 := by kernel_rfl
  match cs, hl, xs, hx with
  | [c0, c1, c2], _, [y0, y1, y2], _ =>
    have g0 := hf 0 { name := "Insts", type := 22, offset := 0, embedded := false, tag := "", pkgPath := "", byteOffset := 0 } rfl
    have g1 := hf 1 { name := "Start", type := 3, offset := 1, embedded := false, tag := "", pkgPath := "", byteOffset := 24 } rfl
    have g2 := hf 2 { name := "NumCap", type := 3, offset := 2, embedded := false, tag := "", pkgPath := "", byteOffset := 32 } rfl
    have ci : Tryd.prog.cellsOf 3 = 1 := by kernel_rfl
    have cr : Tryd.prog.cellsOf 22 = 1 := by kernel_rfl
    simp only [ci, cr, List.drop_succ_cons, List.drop_zero, List.take_succ_cons, List.take_zero, List.getElem?_cons_zero, List.getElem?_cons_succ] at g0 g1 g2
    obtain ⟨a1, e1, _, w1⟩ := DataW.trod_int Tryd.underlying3 g1
    obtain ⟨a2, e2, _, w2⟩ := DataW.trod_int Tryd.underlying3 g2
    have h0 : ∃ (A : Option Addr) (n : Nat) (l : List S29), c0 = .slice A l.length n ∧ l.length ≤ n ∧ Kd.C k29 w A l.length l := by
      rcases DataW.trod_slice Tryd.underlying22 g0 with ⟨hcs, _⟩ | ⟨a, len, cap, elems, rest, m, rfl, hcs, hyy, _, hlc, hmx, hle, hel, _⟩
      · cases hcs
        exact ⟨none, 0, [], rfl, Nat.le_refl _, ⟨rfl, by simp, fun h => absurd h (by simp)⟩⟩
      · cases hcs
        rw [hc] at hel
        have hall : ∀ i, i < len → ∃ t : S29, ∃ c, k29.K w t c ∧ c.length = 4 ∧ ∀ j u, c[j]? = some u → w.cell? (a.add (i * 4 + j)) = some u := by
          intro i hi
          have h1 := hel i hi
          rw [List.getElem?_eq_getElem (by omega)] at h1
          cases hcells : w.cells? base (a.add (i * 4)) 4 with
          | none => rw [hcells] at h1; cases h1
          | some c =>
            rw [hcells] at h1
            obtain ⟨t, ht⟩ := inst_open m h1
            obtain ⟨_, h4, hce⟩ := World.cells?_some hcells
            refine ⟨t, c, ht, h4, fun j u hj => ?_⟩
            have hj4 : j < 4 := by
              rcases Nat.lt_or_ge j 4 with h | h
              · exact h
              · rw [List.getElem?_eq_none (by omega)] at hj; cases hj
            rw [← Deep.add_add, hce j hj4, hj]
        have : Inhabited S29 := ⟨z29⟩
        obtain ⟨f, hfn⟩ := Deep.choose_lt hall
        have hlen : ((List.range len).map f).length = len := by simp
        refine ⟨some a, cap, (List.range len).map f, by rw [hlen], by rw [hlen]; exact hlc, ⟨rfl, by rw [hlen]; unfold maxLen at hmx; omega, fun _ => ⟨a, rfl, fun j p hj => ?_⟩⟩⟩
        rw [List.getElem?_map] at hj
        have hjl : j < len := by
          rcases Nat.lt_or_ge j len with h | h
          · exact h
          · rw [List.getElem?_eq_none (by simpa using h)] at hj; cases hj
        rw [List.getElem?_range hjl] at hj
        cases hj
        obtain ⟨c, hK, hc4, hcell⟩ := hfn j hjl
        exact ⟨c, hc4, hK, hcell⟩
    obtain ⟨A0, n0, l0, hs0, le0, C0⟩ := h0
    cases e1; cases e2
    subst hs0
    exact ⟨A0, n0, l0, a1, a2, rfl, le0, C0⟩
end Go.Proofs.YteoljppcafakpaaDoor.PoFnPgWalk
namespace Go.Proofs.YteoljppcafakpaaDoor.Sf
open Go Go.RowKit Go.ChangeShapes Go.WideShapes Go.ChangeAt Go.Proofs.YteoljppcafakpaaDoor.Row Go.Proofs.YteoljppcafakpaaDoorW.PrintWords
set_option maxRecDepth 100000
set_option linter.unusedVariables false
set_option linter.unusedSimpArgs false
theorem asc_data : (Rows.laid_unicode_asciiFold : DataW Unit) = Lib.tabData .u16 (ascZ.map fun x : Nat => (x : Int)) := by kernel_rfl
theorem orb_data : (Rows.laid_unicode_caseOrbit : DataW Unit) = .slice (orbZ.map fun x => .agg ([(x.1 : Int), (x.2 : Int)].map fun z => .lit (.int .u16 z))) [] := by kernel_rfl
theorem asc_of_reads {w : World} (h : Lib.VarReads Tryd.prog w "unicode.asciiFold" Rows.laid_unicode_asciiFold) : ∀ r, r < 128 → w.cell? ⟨3, r, none⟩ = some (.int .u16 ((ascZ.getD r 0 : Nat) : Int)) := by
  intro r hr
  obtain ⟨g, t, cs, fuel, p, hg, hty, hvar, hd⟩ := h
  rw [asc_data] at hd
  obtain rfl := Option.some.inj ((show Tryd.prog.globalNamed "unicode.asciiFold" = some 3 by kernel_rfl).symm.trans hg)
  obtain rfl := Option.some.inj ((show (Tryd.prog.globals[3]?).map (·.type) = some 179 by kernel_rfl).symm.trans hty)
  have hcs := Lib.cells_of_tab Tryd.underlying179 Tryd.underlying141 (by kernel_rfl) (by kernel_rfl) hd
  rw [World.var?_cell hg hvar r, ← Array.getElem?_toList, hcs]
  have hl : ascZ.length = 128 := by kernel_rfl
  rw [List.getElem?_map, List.getElem?_map, List.getElem?_eq_getElem (by omega), List.getD_eq_getElem?_getD, List.getElem?_eq_getElem (by omega)]; rfl
theorem orb_of_reads {w : World} (h : Lib.VarReads Tryd.prog w "unicode.caseOrbit" Rows.laid_unicode_caseOrbit) : ∃ (a : Addr) (c : Nat), w.cell? ⟨4, 0, none⟩ = some (.slice (some a) 94 c) ∧ Orb w a := by
  obtain ⟨g, t, cs, fuel, p, hg, hty, hvar, hd⟩ := h
  rw [orb_data] at hd
  obtain rfl := Option.some.inj ((show Tryd.prog.globalNamed "unicode.caseOrbit" = some 4 by kernel_rfl).symm.trans hg)
  obtain rfl := Option.some.inj ((show (Tryd.prog.globals[4]?).map (·.type) = some 180 by kernel_rfl).symm.trans hty)
  have hc : Tryd.prog.cellsOf 182 = 2 := by kernel_rfl
  rcases DataW.trod_slice Tryd.underlying180 hd with ⟨_, hx⟩ | ⟨a, len, cap, elems, rest, m, rfl, hcs, hyy, _, hlc, hmx, hle, hel, _⟩
  · simp at hx
  · have he : elems.map (·.1) = orbZ.map fun x => (.agg ([(x.1 : Int), (x.2 : Int)].map fun z => .lit (.int .u16 z)) : DataW Unit) := by
      have := (Prod.mk.inj hyy).1
      injection this with h1 h2
      exact h1.symm
    have hlen : elems.length = 94 := by have := congrArg List.length he; rw [List.length_map, List.length_map, orb_len] at this; exact this
    have hl94 : len = 94 := by omega
    subst hl94
    refine ⟨a, cap, ?_, fun i hi => ?_⟩
    · rw [World.var?_cell hg hvar 0, ← Array.getElem?_toList, hcs]; rfl
    · have h1 := hel i hi
      rw [hc, List.getElem?_eq_getElem (by omega)] at h1
      cases hcells : w.cells? 0 (a.add (i * 2)) 2 with
      | none => rw [hcells] at h1; cases h1
      | some c =>
        rw [hcells] at h1
        replace h1 : DataW.trod (fun _ => ()) Tryd.prog w 0 (fun _ => true) false m 182 c = some elems[i] := h1
        have hei : elems[i].1 = .agg ([((orow i).1 : Int), ((orow i).2 : Int)].map fun z => .lit (.int .u16 z)) := by
          have := congrArg (fun l => l[i]?) he
          simp only [List.getElem?_map, List.getElem?_eq_getElem (show i < elems.length by omega), List.getElem?_eq_getElem (show i < orbZ.length by rw [orb_len]; exact hi), Option.map_some, Option.some.injEq] at this
          rw [orow_get i hi]; exact this
        generalize elems[i] = y at h1 hei
        obtain ⟨d1, p1⟩ := y
        simp only at hei
        subst hei
        have hz := Lib.ints_of_struct Tryd.underlying182 (fun j f hf => by
          match j, hf with
          | 0, hf => cases hf; exact ⟨Tryd.underlying141, rfl, by kernel_rfl⟩
          | 1, hf => cases hf; exact ⟨Tryd.underlying141, rfl, by kernel_rfl⟩
          | j + 2, hf => simp at hf) (by kernel_rfl) h1
        obtain ⟨_, h8, hce⟩ := World.cells?_some hcells
        have c0 := hce 0 (by omega)
        have c1 := hce 1 (by omega)
        rw [hz, Deep.add_add] at c0 c1
        rw [add_field a (i * 2) 1 (by omega)] at c1
        exact ⟨c0, c1⟩
theorem case_of_reads {w : World} (h : Lib.VarReads Tryd.prog w "unicode.CaseRanges" Rows.laid_unicode_CaseRanges) : ∃ (a : Addr) (c : Nat), w.cell? ⟨5, 0, none⟩ = some (.slice (some a) 336 c) ∧ Cas w a := by
  obtain ⟨g, t, cs, fuel, p, hg, hty, hvar, hd⟩ := h
  replace hd : DataW.trod (fun _ => ()) Tryd.prog w 0 (fun _ => true) false fuel t cs.toList = some (.slice (Pinned.caseRows.map Pinned.caseRange) [], p) := hd
  obtain rfl := Option.some.inj ((show Tryd.prog.globalNamed "unicode.CaseRanges" = some 5 by kernel_rfl).symm.trans hg)
  obtain rfl := Option.some.inj ((show (Tryd.prog.globals[5]?).map (·.type) = some 185 by kernel_rfl).symm.trans hty)
  have hc : Tryd.prog.cellsOf 200 = 5 := by kernel_rfl
  rcases DataW.trod_slice Tryd.underlying185 hd with ⟨_, hx⟩ | ⟨a, len, cap, elems, rest, m, rfl, hcs, hyy, _, hlc, hmx, hle, hel, _⟩
  · simp at hx
  · have he : elems.map (·.1) = Pinned.caseRows.map Pinned.caseRange := by
      have := (Prod.mk.inj hyy).1
      injection this with h1 h2
      exact h1.symm
    have hlen : elems.length = 336 := by have := congrArg List.length he; rw [List.length_map, List.length_map, case_len] at this; exact this
    have hl94 : len = 336 := by omega
    subst hl94
    refine ⟨a, cap, ?_, fun i hi => ?_⟩
    · rw [World.var?_cell hg hvar 0, ← Array.getElem?_toList, hcs]; rfl
    · have h1 := hel i hi
      rw [hc, List.getElem?_eq_getElem (by omega)] at h1
      cases hcells : w.cells? 0 (a.add (i * 5)) 5 with
      | none => rw [hcells] at h1; cases h1
      | some c =>
        rw [hcells] at h1
        replace h1 : DataW.trod (fun _ => ()) Tryd.prog w 0 (fun _ => true) false m 200 c = some elems[i] := h1
        have hei : elems[i].1 = Pinned.caseRange (crow i) := by
          have := congrArg (fun l => l[i]?) he
          simp only [List.getElem?_map, List.getElem?_eq_getElem (show i < elems.length by omega), List.getElem?_eq_getElem (show i < Pinned.caseRows.length by rw [case_len]; exact hi), Option.map_some, Option.some.injEq] at this
          rw [crow_get i hi]; exact this
        generalize elems[i] = y at h1 hei
        generalize crow i = row at hei ⊢
        obtain ⟨d1, p1⟩ := y
        simp only at hei
        subst hei
        obtain ⟨xs, n, rfl, hxx, hl, hlen2, hf⟩ := DataW.trod_struct Tryd.underlying200 h1
        rw [hc] at hl
        have hx3 : xs.length = 3 := hlen2
        obtain ⟨_, h8, hce⟩ := World.cells?_some hcells
        match c, hl, xs, hx3 with
        | [c0, c1, c2, c3, c4], _, [y0, y1, y2], _ =>
          have g0 := hf 0 { name := "Lo", type := 54, offset := 0, embedded := false, tag := "", pkgPath := "", byteOffset := 0 } rfl
          have g1 := hf 1 { name := "Hi", type := 54, offset := 1, embedded := false, tag := "", pkgPath := "", byteOffset := 4 } rfl
          have g2 := hf 2 { name := "Delta", type := 198, offset := 2, embedded := false, tag := "", pkgPath := "", byteOffset := 8 } rfl
          have ci : Tryd.prog.cellsOf 54 = 1 := by kernel_rfl
          have cd : Tryd.prog.cellsOf 198 = 3 := by kernel_rfl
          simp only [ci, cd, List.drop_succ_cons, List.drop_zero, List.take_succ_cons, List.take_zero, List.getElem?_cons_zero, List.getElem?_cons_succ] at g0 g1 g2
          have hxx2 := (Prod.mk.inj hxx).1
          unfold Pinned.caseRange at hxx2
          injection hxx2 with hl3
          simp only [List.map_cons, List.map_nil, List.cons.injEq, and_true] at hl3
          obtain ⟨e0, e1, e2⟩ := hl3
          obtain ⟨z0, k0, l0, _⟩ := DataW.trod_int Tryd.underlying54 g0
          obtain ⟨z1, k1, l1, _⟩ := DataW.trod_int Tryd.underlying54 g1
          obtain ⟨y2d, y2p⟩ := y2
          simp only at e2
          subst e2
          have k2 := Lib.cells_of_tab (zs := [row.2.2.1, row.2.2.2.1, row.2.2.2.2]) Tryd.underlying198 Tryd.underlying21 (by kernel_rfl) (by kernel_rfl) g2
          cases k0; cases k1
          rw [l0] at e0
          rw [l1] at e1
          simp only [DataW.lit.injEq, Lit.int.injEq, true_and] at e0 e1
          simp only [List.map_cons, List.map_nil, List.cons.injEq, and_true] at k2
          obtain ⟨rfl, rfl, rfl⟩ := k2
          subst e0
          subst e1
          have q0 := hce 0 (by omega)
          have q1 := hce 1 (by omega)
          have q2 := hce 2 (by omega)
          have q3 := hce 3 (by omega)
          have q4 := hce 4 (by omega)
          rw [Deep.add_add] at q0 q1 q2 q3 q4
          rw [add_field a (i * 5) 1 (by omega)] at q1
          rw [add_field a (i * 5) 2 (by omega)] at q2
          rw [add_field a (i * 5) 3 (by omega)] at q3
          rw [add_field a (i * 5) 4 (by omega)] at q4
          exact ⟨q0, q1, q2, q3, q4⟩
theorem folds_of_reads {w : World} (h1 : Lib.VarReads Tryd.prog w "unicode.asciiFold" Rows.laid_unicode_asciiFold) (h2 : Lib.VarReads Tryd.prog w "unicode.caseOrbit" Rows.laid_unicode_caseOrbit) (h3 : Lib.VarReads Tryd.prog w "unicode.CaseRanges" Rows.laid_unicode_CaseRanges) : Folds w :=
  ⟨asc_of_reads h1, orb_of_reads h2, case_of_reads h3⟩
end Go.Proofs.YteoljppcafakpaaDoor.Sf
namespace Go.Proofs.YteoljppcafakpaaDoor.fnPgWalk
open Go.ChangeShapes Go.WideShapes Go.ChangeAt Go.RowKit Go.Proofs.YteoljppcafakpaaDoor.PoFnPgWalk Go.Proofs.YteoljppcafakpaaDoor.PFnPgWalk Go.Proofs.YteoljppcafakpaaDoor.PgFnPgWalk Go.Proofs.YteoljppcafakpaaDoor.Sf Go.Proofs.YteoljppcafakpaaDoorW.PrintWords
open Go.ChangeMaps (open_string shut_string)
set_option linter.unusedVariables false
theorem own : ownKnob Tryd.prog.godebug = none := by kernel_rfl
theorem laidOut : laidOutB Tryd.prog = true := by kernel_rfl
theorem first_data : (Rows.laid_unicode_utf8_first : DataW Unit) = Lib.firstData := by kernel_rfl
theorem accept_data : (Rows.laid_unicode_utf8_acceptRanges : DataW Unit) = Lib.acceptData := by kernel_rfl
theorem extra : U8Extra Tryd.prog Tryd.lays260_ren := ⟨by kernel_rfl, by kernel_rfl, by kernel_rfl, by kernel_rfl, by kernel_rfl, by kernel_rfl, by kernel_rfl⟩
theorem msz_data : (Rows.laid_pub_searce_pub_regexp_matchSize : DataW Unit) = Lib.tabData .i64 msz := by kernel_rfl
theorem sizes_of_reads {w : World} (h : Lib.VarReads Tryd.prog w "pub-searce/pub/regexp.matchSize" Rows.laid_pub_searce_pub_regexp_matchSize) : Sizes w := by
  intro r hr
  obtain ⟨g, t, cs, fuel, p, hg, hty, hvar, hd⟩ := h
  rw [msz_data] at hd
  obtain rfl := Option.some.inj ((show Tryd.prog.globalNamed "pub-searce/pub/regexp.matchSize" = some 0 by kernel_rfl).symm.trans hg)
  obtain rfl := Option.some.inj ((show (Tryd.prog.globals[0]?).map (·.type) = some 163 by kernel_rfl).symm.trans hty)
  have hcs := Lib.cells_of_tab Tryd.underlying163 Tryd.underlying3 (by kernel_rfl) (by kernel_rfl) hd
  rw [World.var?_cell hg hvar r, ← Array.getElem?_toList, hcs]
  have hl : msz.length = 5 := rfl
  rw [List.getElem?_map, List.getElem?_eq_getElem (by omega), List.getD_eq_getElem?_getD, List.getElem?_eq_getElem (by omega)]; rfl
theorem laid_says {W : World} (h : laidMetH Tryd.prog Rows.fnPgWalkRow.laid W) : Tabs W ∧ Folds W ∧ Sizes W := by
  rw [MakeChecks.laidMetH_plain _ _ _ (by kernel_rfl)] at h
  have h0 : laidMet Tryd.prog Rows.fnPgWalkRow.laid W := h
  refine ⟨?_, folds_of_reads (Lib.laidMet.reads h0 (by simp [Rows.fnPgWalkRow])) (Lib.laidMet.reads h0 (by simp [Rows.fnPgWalkRow])) (Lib.laidMet.reads h0 (by simp [Rows.fnPgWalkRow])), sizes_of_reads (Lib.laidMet.reads h0 (by simp [Rows.fnPgWalkRow]))⟩
  have h1 : Lib.VarReads Tryd.prog W "unicode/utf8.first" Rows.laid_unicode_utf8_first := Lib.laidMet.reads h0 (by simp [Rows.fnPgWalkRow])
  have h2 : Lib.VarReads Tryd.prog W "unicode/utf8.acceptRanges" Rows.laid_unicode_utf8_acceptRanges := Lib.laidMet.reads h0 (by simp [Rows.fnPgWalkRow])
  rw [first_data] at h1
  rw [accept_data] at h2
  exact utf8Tabs_of_reads Tryd.lays260 extra h1 h2
theorem arg_prog {H : Type} {enc : TypeId × Value → H} {W : World} {v : Value} {d : DataW H} {p : List MemPlace} (h : DataW.Trod enc Tryd.prog W 0 (fun _ => true) true 24 v d p) :
    ∃ (A : Option Addr) (c : Nat) (L : List S29) (st nc : Int), v = .agg #[.slice A L.length c, .int .i64 st, .int .i64 nc] ∧ L.length ≤ c ∧ Kd.C k29 W A L.length L := by
  obtain ⟨fuel, hf⟩ := h
  obtain ⟨A, c, L, st, nc, e, hl, hK⟩ := prog_open fuel hf
  refine ⟨A, c, L, st, nc, ?_, hl, hK⟩
  have e2 : v.cells.toList = _ := e
  cases v <;> simp [Value.cells] at e2
  rw [← e2]
set_option maxRecDepth 100000 in
theorem lifted (os : Os) (started : os.Started) (H : Type) (enc : TypeId × Value → H) :
    ReturnsInHanded {} Tryd.checked os 4 .any (fun w args => (Rows.fnPgWalkSpec.pre enc Tryd.prog Tryd.f4 Rows.fnPgWalkRow.domain false w args ∧ laidMetH Tryd.prog Rows.fnPgWalkRow.laid w) ∧ sizedMet enc Tryd.prog Tryd.f4 (OpenSpec.ofChange Rows.fnPgWalkSpec) false w args)
      (Rows.fnPgWalkSpec.post enc Tryd.prog Tryd.f4 false true false false) := by
  refine returnsInHanded_of_change_and (C := Tryd.checked) (X := fun w _ => laidMetH Tryd.prog Rows.fnPgWalkRow.laid w) (fun _ _ _ hh h => h.of_heap hh) own started (by kernel_rfl) Tryd.func4
    (ChangeSpec.witness_shaped (enc := enc) (C := Tryd.checked) (os := os) (X := fun w _ => laidMetH Tryd.prog Rows.fnPgWalkRow.laid w) false (World.laidAll Tryd.prog os Rows.fnPgWalkRow.laid) #[.agg #[.slice none 0 0, .int .i64 0, .int .i64 0], .string ByteArray.empty] 8 (World.laidAll_os _ _ _)
      (World.shaped_of_ZipB (by kernel_rfl) (by kernel_rfl)) (by kernel_rfl) (by kernel_rfl) (by kernel_rfl)
      (by rw [MakeChecks.laidMetH_plain _ _ _ (by kernel_rfl)]; exact laidMet_laidAll _ (by kernel_rfl) (by kernel_rfl))) ?_
  intro W base args ds gs before hval0 hW hcnd _ hL _
  have hval : ∀ (j : Nat) t v, Tryd.f4.params[j]? = some t → args[j]? = some v → Value.okWide Tryd.prog W .any base t v := hval0
  have hW' := hW
  obtain ⟨p, q, hA0, hV, rfl, hfz, hnd⟩ := hW
  have hA : DataW.TrodAll enc Tryd.prog W 0 (fun _ => true) true Tryd.f4.params.toList args.toList ds p := hA0
  rw [Tryd.params4] at hA hval
  obtain ⟨v0, vs0, d0, ds0, p0, q0, hargs, rfl, rfl, h0, r0⟩ := trodAll_cons hA
  obtain ⟨v1, vs1, d1, ds1, p1, q1, rfl, rfl, rfl, h1, r1⟩ := trodAll_cons r0
  obtain ⟨rfl, rfl, rfl⟩ := trodAll_nil r1
  obtain rfl : args = #[v0, v1] := by cases args; simp_all
  obtain ⟨rfl, rfl⟩ := trodVars_none hV
  obtain ⟨s, rfl, rfl, rfl, ws⟩ := open_string Tryd.underlying9 (hval 1 9 v1 rfl rfl) h1
  have k0 := h0
  have lt0 : ∀ x ∈ p0, x.block < W.heap.size := by obtain ⟨m, hm⟩ := k0; exact DataW.trod_lt m _ _ _ hm
  obtain ⟨A0, c0, L, st, nc, rfl, hl0, hK0⟩ := arg_prog h0
  obtain ⟨hTB, hFD, hSZ⟩ := laid_says hL
  clear hA0 hval0 hval
  refine (law_calls W A0 c0 hK0 hl0 s hTB hFD hSZ).mono fun e W' ⟨he, bel⟩ => ?_
  subst he
  exact ⟨_, rfl, _, _, _, [], _, [], hW', trodAll_mk1 (shut_bool Tryd.underlying4 _), (trodAll_cons_mk (Below.trod laidOut (by kernel_rfl) (of_decide_eq_true (by kernel_rfl)) k0 bel lt0) (trodAll_cons_mk (shut_string Tryd.underlying9 ws) trodAll_mk0)), rfl, bel.frame _, fun h => by cases h⟩
theorem over : Rows.fnPgWalkRow.holds Tryd.pinned (OpenSpec.ofChange Rows.fnPgWalkSpec) :=
  OpenClaim.holds_of_wide 4 Tryd.f4 rfl rfl rfl rfl rfl rfl rfl ⟨rfl, rfl, rfl, rfl, rfl⟩ rfl rfl rfl rfl rfl (by kernel_rfl) Tryd.func4 (by kernel_rfl)
    (of_decide_eq_true (by kernel_rfl)) (by unfold Func.isWrapper; first | (rw [if_pos (by decide +kernel)]; kernel_rfl) | (rw [if_neg (by decide +kernel)]; exact ⟨rfl, rfl⟩))
    (fun os started H enc _ => lifted os started H enc)
end Go.Proofs.YteoljppcafakpaaDoor.fnPgWalk
namespace Go.Proofs.YteoljppcafakpaaDoor
open Go.ChangeShapes Go.WideShapes Go.ChangeAt Go.RowKit
theorem fnPgWalk_card : Rows.FnPgWalkCardSaid :=
  Claim7.holds_tied_plain_at .later [] [.data, .data, .data, .data, .pinned, .pinned] true (true, "8dfcac6fdb26901e0359ae2b5ce616577dea012875e254e14c1872422586cd18") false fnPgWalk.over (fun _ h => by cases h) (by kernel_rfl) (fun _ h => by cases h) fnPgWalk_row_tie rfl ⟨rfl, rfl⟩ (by kernel_rfl) rfl
    (fun f fn hf hfn => by
      obtain rfl : f = 4 := Option.some.inj ((show Tryd.prog.funcNamed "pub-searce/laws.FnPgWalk" = some 4 by kernel_rfl).symm.trans hf) |>.symm
      obtain rfl : fn = Tryd.f4 := (Option.some.inj (Tryd.func4.symm.trans hfn)).symm
      exact ⟨by kernel_rfl, fun j t ht => by
        rw [Tryd.params4] at ht
        have hm : t ∈ [24, 9] := by simpa using Array.mem_of_getElem? ht
        have hall : ([24, 9].all fun u => !Tryd.prog.wantsStandIn u) = true := by kernel_rfl
        exact (show Tryd.prog.wantsStandIn t = false by simpa using List.all_eq_true.1 hall t hm)⟩)
    (by kernel_rfl)
#print axioms fnPgWalk_card
end Go.Proofs.YteoljppcafakpaaDoor
