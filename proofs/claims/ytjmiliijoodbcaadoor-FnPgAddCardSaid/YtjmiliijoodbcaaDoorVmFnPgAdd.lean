/- What the machine's queue tells: ZZAdd; what is put in: queued. -/
import Derived.Test.YtjmiliijoodbcaaDoorVlFnPgAdd
import Derived.Test.YtjmiliijoodbcaaDoorVkFnPgAdd
namespace Go.Proofs.YtjmiliijoodbcaaDoor.PgFnPgAdd
open Go.RowKit Go.Proofs.YtjmiliijoodbcaaDoor.EvN Go.Proofs.YtjmiliijoodbcaaDoor.Row Go.Proofs.YtjmiliijoodbcaaDoor.PFnPgAdd Go.Proofs.YtjmiliijoodbcaaDoorW.PrintWords Go.Proofs.YtjmiliijoodbcaaDoorW.PrintLast Go.Proofs.YtjmiliijoodbcaaDoorW.PrintMore
set_option linter.unusedSimpArgs false
set_option linter.unusedVariables false

/-- A row of scalars as the print's words have it. -/
theorem rowAt_kd {α : Type} {enc : α → Value} {h1 : ∀ x, (enc x).oneCell' = true} {w : World} {S : Nat → Prop} {e : TypeId} {vr : Value} {l : List α} (h : RowAt w S e vr (l.map enc)) : ∃ A c, vr = .slice A l.length c ∧ l.length ≤ c ∧ Kd.C (Kd.scalar enc h1) w A l.length l := by
  by_cases hne : l = []
  · subst hne
    rcases h with ⟨rfl, _⟩ | ⟨g, cap, cur, rfl, _, _, h1, h2, _⟩
    · exact ⟨none, 0, rfl, by simp, rfl, by simp, fun h => by simp at h⟩
    · exact ⟨some ⟨g, 0, none⟩, cap, rfl, by simp, rfl, by simp, fun h => by simp at h⟩
  · obtain ⟨g, cap, rfl, _, _, h2, h3, h4⟩ := h.cell (by simpa using hne)
    rw [List.length_map] at h2
    refine ⟨some ⟨g, 0, none⟩, cap, by rw [List.length_map], h2, rfl, by unfold maxLen at h3; omega, fun _ => ⟨_, rfl, fun j p hj => ⟨[enc p], rfl, rfl, fun i u hu => ?_⟩⟩⟩
    match i, hu with
    | 0, hu =>
      simp at hu
      subst hu
      obtain ⟨hj1, hj2⟩ := List.getElem?_eq_some_iff.1 hj
      have := h4 j (by simpa using hj1)
      rw [List.getElem_map, hj2] at this
      have e : (⟨g, 0, none⟩ : Addr).add (j * (Kd.scalar enc h1).sz + 0) = ⟨g, j, none⟩ := by
        have h1 : (Kd.scalar enc h1).sz = 1 := rfl
        rw [h1, Nat.mul_one, Nat.add_zero]
        unfold Addr.add; split <;> simp_all
      rw [e]; exact this

set_option maxRecDepth 100000 in
set_option maxHeartbeats 4000000 in
theorem zzadd_calls {L : List I} {st nc : Int} (h : PSound L st nc 2000) (p : Nat) (w : World) (hP : ProgAt w p L st nc) (hS : Sizes w) (pcs : List Nat) (Ap : Option Addr) (cp : Nat) (hp : ∀ pc ∈ pcs, pc < L.length) (hPC : Kd.C (Kd.int .u32) w Ap (pcs.map fun (x : Nat) => (x : Int)).length (pcs.map fun (x : Nat) => (x : Int)))
    (b a F cond : Int) (hF : regexp_newLazyFlag.f b a = some F) (hmatch : ∀ a, 0 < a → a < 64 → ∃ k, regexp_lazyFlag_match.f k F a = some (holds cond a)) :
    Calls Tryd.prog 19 #[.pointer (some ⟨p, 0, none⟩), .slice Ap pcs.length cp, .int .i32 b, .int .i32 a] w fun e w' => ∃ lv tv, e = .returned (.tuple #[lv, tv]) ∧ RowAt w' (fun i => w.heap.size ≤ i ∧ i < w'.heap.size) 71 lv ((reachA L cond [] pcs).map fun x : Nat => Value.int .u32 (x : Int)) ∧
      RowAt w' (fun i => w.heap.size ≤ i ∧ i < w'.heap.size) 4 tv ((reachA L cond [] pcs).map fun x : Nat => Value.bool (waitsB (ins L x))) ∧ Below w.heap.size w w' := by
  have hm : L.length ≤ 2000 := by have := h.most; omega
  have hcall := machine_calls h p w hP hS pcs Ap cp hp hPC b a F cond hF hmatch false
  go_enter Tryd.func19, Tryd.ntmps19
  go_wp2_with fail
  refine hcall.mono ?_
  rintro e w1 ⟨mb, rfl, hput⟩
  obtain ⟨W0, rb, sp, de, sp1, de1, lf, z, cc, mc, E, ad, h1, h2, h3, h4, -⟩ := hput.ex
  obtain ⟨da, d1, d2, d3⟩ := h3.da
  have hle : E.length ≤ L.length := by have := h3.len; simpa using this
  have hq := queue_calls w1 mb 2 de z mc da E h3.ma (.inl rfl) h3.md d1 d3 (by omega)
  have hbw : Below w.heap.size w w1 := below_step h1 h3.bl
  obtain ⟨e1, e2⟩ := queue_reach h4
  have H := Lib.hid (And.intro hbw (And.intro e1 e2))
  clear h1 h2 h3 h4 d1 d2 d3 hcall hput hbw e1 e2 hP hS hp hPC hF hmatch h
  go_wp2_with fail
  refine hq.mono ?_
  rintro e w2 ⟨lv, tv, rfl, r1, r2, hb2⟩
  have R := Lib.hid (And.intro r1 (And.intro r2 hb2))
  clear r1 r2 hb2 hq
  go_wp2_with fail
  go_ret2
  obtain ⟨hbw, e1, e2⟩ := H.out
  obtain ⟨r1, r2, hb2⟩ := R.out
  have hs := hbw.size
  refine ⟨lv, tv, rfl, ?_, ?_, below_step hbw hb2⟩
  · have e3 : E.map (fun e => Value.int .u32 (e.1 : Int)) = (reachA L cond [] pcs).map fun x : Nat => Value.int .u32 (x : Int) := by
      have := congrArg (List.map (Value.int .u32)) e1
      rwa [List.map_map, List.map_map] at this
    rw [e3] at r1
    exact r1.mono fun i hi hS => ⟨⟨by omega, hS.2⟩, rfl⟩
  · have e3 : E.map (fun e => Value.bool e.2.isSome) = (reachA L cond [] pcs).map fun x : Nat => Value.bool (waitsB (ins L x)) := by
      have := congrArg (List.map Value.bool) e2
      rwa [List.map_map, List.map_map] at this
    rw [e3] at r2
    exact r2.mono fun i hi hS => ⟨⟨by omega, hS.2⟩, rfl⟩

set_option maxRecDepth 100000 in
set_option maxHeartbeats 4000000 in
theorem queued_calls {L : List I} {st nc : Int} (h : PSound L st nc 2000) (hr : ∀ i ∈ L, i.f3.length * 4 ≤ 140737488351232) (w : World) (A : Option Addr) (c : Nat) (hK : Kd.C k60 w A L.length L) (hc : L.length ≤ c)
    (pcs : List Nat) (Ap : Option Addr) (cp : Nat) (hp : ∀ pc ∈ pcs, pc < L.length) (hl : pcs.length ≤ 100) (hPC : Kd.C (Kd.int .i64) w Ap (pcs.map fun (x : Nat) => (x : Int)).length (pcs.map fun (x : Nat) => (x : Int))) :
    Calls Tryd.prog 18 #[.agg #[.slice A L.length c, .int .i64 st, .int .i64 nc], .slice Ap pcs.length cp] w fun e w' => ∃ p lv, e = .returned (.tuple #[.pointer (some ⟨p, 0, none⟩), lv, .bool true]) ∧ ProgAt w' p L st nc ∧
      RowAt w' (fun i => w.heap.size ≤ i ∧ i < w'.heap.size) 71 lv ((pcs.map fun (x : Nat) => (x : Int)).map (Value.int .u32)) ∧ Below w.heap.size w w' := by
  have hu24 := Tryd.underlying24
  have hm : L.length ≤ 2000 := by have := h.most; omega
  have HS := Lib.hid h
  have HR := Lib.hid hr
  have HK := Lib.hid hK
  have HPP := Lib.hid hp
  have HPC := Lib.hid hPC
  clear h hr hK hp hPC
  go_enter Tryd.func18, Tryd.ntmps18
  go_wp2_with (first | ((with_reducible refine gate_dst (N := 2) rfl ?_); refine box_event ?hg (N := 2) ?hd (cs := #[.slice A L.length c, .int .i64 st, .int .i64 nc]) (t := 24) ?hr ?_; (case hd => rfl); (case hg => rfl); (case hr => first | (go_simp; done) | (go_simp; rfl)); intro gb hg w1 hbox hb; have BK := Lib.hid hbox; have HB1 := Lib.hid hb; have GB : w.heap.size ≤ gb := (by omega); clear hg hbox hb; obtain ⟨hz0, hz1, hz2⟩ := blk3 BK.out))
  refine (prog_calls HS.out HR.out w w1 A c HK.out hc HB1.out).mono ?_
  rintro e w2 ⟨p, rfl, hlp, hpa, hb2⟩
  have HPA := Lib.hid hpa
  have HB2 := Lib.hid hb2
  have BK2 := Lib.hid (blk_below BK.out hb2)
  clear hz0 hz1 hz2 hpa hb2 BK
  have HLN := Lib.hid (show (pcs.map fun (x : Nat) => (x : Int)).length = pcs.length by simp)
  go_wp2_with fail
  go_loopg [9, 21] pcs.length (fun gk s9 s21 wr => ∃ (k : Nat), Hid (gk + k = pcs.length ∧ wr.ownsRow w2.heap.size 71 1 s9 k (((pcs.take k).map fun (x : Nat) => (x : Int)).map (Value.int .u32)) ∧ Below w2.heap.size w2 wr) ∧ k ≤ pcs.length ∧ s21 = .int .i64 k)
  case atStart => exact ⟨0, ⟨by omega, World.ownsRow_nil _ _ _ _, Below.refl _ w2⟩, Nat.zero_le _, rfl⟩
  case round =>
    obtain ⟨k, HI, hk, rfl⟩ := hrel
    by_cases hlt : k < pcs.length
    · have hpk := HPP.out _ (List.getElem_mem hlt)
      have hbw : Below w.heap.size w wr := below_step (below_step HB1.out HB2.out) HI.out.2.2
      obtain ⟨adp, e, hx⟩ := kd_cell HPC.out hbw k (by rw [HLN.out]; exact hlt)
      cases e
      rw [List.getElem_map] at hx
      obtain ⟨hz0, hz1, hz2⟩ := blk3 (blk_below BK2.out HI.out.2.2)
      have hd1 : decide ((pcs[k] : Int) < 0) = false := decide_eq_false (by omega)
      have hd2 : decide ((pcs[k] : Int) ≥ (L.length : Int)) = false := decide_eq_false (by omega)
      clear hbw
      go_wp2_with (at_builtin; refine My.app1 rfl (.tmp 34) (.tmp 37) 47 rfl 71 (.int .u32 0) 4 Tryd.underlying47 iu32 rfl _ k _ rfl w2.heap.size w2 (HI.out.2.1.alloc _) (below_alloc HI.out.2.2 _) (Nat.le_refl _) wr.heap.size rfl (.int .u32 (pcs[k] : Int)) (by simp) rfl (by omega) (by unfold maxLen; omega) ?_; intro v1 w3 hown1 hbel1 hg1)
      go_roundg (gk - 1)
      case measure => have := HI.out.1; omega
      case rel =>
        refine ⟨k + 1, ⟨by have := HI.out.1; omega, ?_, hbel1.out⟩, by omega, by go_num⟩
        rw [List.take_succ_eq_append_getElem hlt, List.map_append, List.map_append]
        exact hown1.out
    · have hke : k = pcs.length := by omega
      subst hke
      rw [List.take_length] at HI
      go_wp2_with fail
      go_ret3
      have hb2 := below_step HB1.out HB2.out
      have hs := hb2.size
      exact ⟨p, _, rfl, HPA.out.below HI.out.2.2, RowAt.of_owns HI.out.2.1 (fun g hg => by have := HI.out.2.1.lt g hg; omega), below_step hb2 HI.out.2.2⟩
end Go.Proofs.YtjmiliijoodbcaaDoor.PgFnPgAdd
