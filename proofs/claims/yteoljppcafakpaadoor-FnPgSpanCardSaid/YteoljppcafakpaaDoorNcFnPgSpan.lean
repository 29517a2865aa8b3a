import Derived.Test.YteoljppcafakpaaDoorNbFnPgSpan
namespace Go.Proofs.YteoljppcafakpaaDoor.PgFnPgSpan
open Go.RowKit Go.Proofs.YteoljppcafakpaaDoor.EvN Go.Proofs.YteoljppcafakpaaDoor.Row Go.Proofs.YteoljppcafakpaaDoor.PFnPgSpan Go.Proofs.YteoljppcafakpaaDoorW.PrintWords Go.Proofs.YteoljppcafakpaaDoorW.PrintLast Go.Proofs.YteoljppcafakpaaDoorW.PrintMore
attribute [local go_sem ↓] Go.wp_at_zero Go.wp_at_succ
def reachA (L : List I) (cond : Int) (D : List Nat) (pcs : List Nat) : List Nat := pcs.foldl (fun D pc => rF L cond (L.length + 1) D pc) D
def waitsB (i : I) : Bool := !(decide (i.f0 = 0) || decide (i.f0 = 2) || decide (i.f0 = 6) || decide (i.f0 = 3) || decide (i.f0 = 5))
theorem reachA_fine {L : List I} {cond : Int} (hl : Leads L) (pcs : List Nat) : ∀ D, Fine L.length D → (∀ pc ∈ pcs, pc < L.length) → Fine L.length (reachA L cond D pcs) := by
  induction pcs with
  | nil => intro D h _; exact h
  | cons pc pcs ih =>
    intro D h hp
    exact ih _ (rF_fine hl _ D pc h (hp pc (by simp))).1 (fun x hx => hp x (by simp [hx]))
theorem reachA_take (L : List I) (cond : Int) (D pcs : List Nat) (k : Nat) (h : k < pcs.length) : reachA L cond D (pcs.take (k + 1)) = rF L cond (L.length + 1) (reachA L cond D (pcs.take k)) pcs[k] := by
  unfold reachA
  rw [List.take_succ_eq_append_getElem h, List.foldl_append]; rfl
theorem waits_f (i : I) : spec_progWaits.f i.f0 i.f1 i.f2 i.f3 = some (waitsB i) := by
  unfold spec_progWaits.f waitsB
  repeat' split
  all_goals simp [*]
theorem ibool : (Tryd.prog.info? 4).map (fun i => (i.zero, i.size, i.bytes)) = some (some (.bool false), 1, 1) := by kernel_rfl
theorem made_bools (n : Nat) : madeCells #[Value.bool false] n = (seenC n []).toArray := by
  apply Array.ext
  · simp [madeCells, seenC]
  · intro i h1 h2
    simp [madeCells, seenC, Nat.mod_one]
theorem make_bools (n : Nat) (hn : n ≤ 1000000) (W : World) : (Instr.makeSlice 39 (.int .i64 (n : Int)) (.int .i64 (n : Int))).run Tryd.prog W = .ok (.slice (some ⟨W.heap.size, 0, none⟩) n n) (W.alloc (.cells (seenC n []).toArray 4)) := by
  obtain ⟨i, hi, hz, hsize, hby⟩ := info_parts ibool
  have := run_make (P := Tryd.prog) W 39 4 i (.bool false) Tryd.underlying39 hi hz .i64 .i64 (n : Int) (n : Int) (by omega) (by omega) (by rw [hby]; omega) (by omega)
  rw [hsize, Nat.mul_one, Int.toNat_natCast] at this
  rw [this, show (Value.bool false).cells = #[Value.bool false] from rfl, made_bools]
theorem q_way1 {w w2 : World} {A : Option Addr} {c : Nat} {L : List I} {st nc cond : Int} {gb : Nat} (hb : Below w.heap.size w w2) (bk : w2.heap[gb]? = some (.cells #[.slice A L.length c, .int .i64 st, .int .i64 nc] 24 (0, 0))) :
    QAt w ((w2.alloc (.cells (seenC L.length []).toArray 4)).alloc (.cells #[.slice A L.length c, .int .i64 st, .int .i64 nc, .int .i64 cond, .slice (some ⟨w2.heap.size, 0, none⟩) L.length L.length, .slice none 0 0] 92)) A c L st nc cond (w2.heap.size + 1) w2.heap.size [] (.slice none 0 0) ∧
      ((w2.alloc (.cells (seenC L.length []).toArray 4)).alloc (.cells #[.slice A L.length c, .int .i64 st, .int .i64 nc, .int .i64 cond, .slice (some ⟨w2.heap.size, 0, none⟩) L.length L.length, .slice none 0 0] 92)).heap[gb]? = some (.cells #[.slice A L.length c, .int .i64 st, .int .i64 nc] 24 (0, 0)) ∧ gb < w2.heap.size + 1 ∧ gb < w2.heap.size := by
  have hs := hb.size
  have hl := blk_lt bk
  have e : (w2.alloc (.cells (seenC L.length []).toArray 4)).heap.size = w2.heap.size + 1 := by simp
  have h2 := heap_alloc_new (w2.alloc (.cells (seenC L.length []).toArray 4)) (.cells #[.slice A L.length c, .int .i64 st, .int .i64 nc, .int .i64 cond, .slice (some ⟨w2.heap.size, 0, none⟩) L.length L.length, .slice none 0 0] 92)
  rw [e] at h2
  exact ⟨⟨by omega, hs, by omega, h2, blk_alloc (heap_alloc_new w2 _) _, World.ownsRow_nil _ _ _ _, by simp [Value.ownBlock], by simp [Value.ownBlock], below_alloc (below_alloc hb _) _⟩, blk_alloc (blk_alloc bk _) _, by omega, hl⟩
theorem q_way2 {w w1 w2 : World} {A : Option Addr} {c : Nat} {L : List I} {st nc cond : Int} {gb : Nat} (hb : Below w.heap.size w w1) (bk : w1.heap[gb]? = some (.cells #[.slice A L.length c, .int .i64 st, .int .i64 nc] 24 (0, 0))) (hd : Below (w1.alloc (.cells (seenC L.length []).toArray 4)).heap.size (w1.alloc (.cells (seenC L.length []).toArray 4)) w2) :
    QAt w (w2.alloc (.cells #[.slice A L.length c, .int .i64 st, .int .i64 nc, .int .i64 cond, .slice (some ⟨w1.heap.size, 0, none⟩) L.length L.length, .slice none 0 0] 92)) A c L st nc cond w2.heap.size w1.heap.size [] (.slice none 0 0) ∧
      (w2.alloc (.cells #[.slice A L.length c, .int .i64 st, .int .i64 nc, .int .i64 cond, .slice (some ⟨w1.heap.size, 0, none⟩) L.length L.length, .slice none 0 0] 92)).heap[gb]? = some (.cells #[.slice A L.length c, .int .i64 st, .int .i64 nc] 24 (0, 0)) ∧ gb < w2.heap.size ∧ gb < w1.heap.size := by
  have hs := hb.size
  have hl := blk_lt bk
  have e : (w1.alloc (.cells (seenC L.length []).toArray 4)).heap.size = w1.heap.size + 1 := by simp
  have hs2 := hd.size
  rw [e] at hs2
  have sn := blk_below (heap_alloc_new w1 (.cells (seenC L.length []).toArray 4)) hd
  exact ⟨⟨by omega, hs, by omega, heap_alloc_new w2 _, blk_alloc sn _, World.ownsRow_nil _ _ _ _, by simp [Value.ownBlock], by simp [Value.ownBlock], below_alloc (below_step (below_alloc hb _) hd) _⟩, blk_alloc (blk_below (blk_alloc bk _) hd) _, by omega, hl⟩
set_option maxRecDepth 100000 in
set_option maxHeartbeats 4000000 in
theorem reach_calls {L : List I} {st nc : Int} (hl : Leads L) (hm : L.length ≤ 2000) (h1 : 1 ≤ L.length) (hop : ∀ pc, pc < L.length → 0 ≤ (ins L pc).f0 ∧ (ins L pc).f0 ≤ 10 ∧ (ins L pc).f0 ≠ 1) (b a cond : Int) (kc : Nat) (hcond : spec_CondBetween.f kc b a = some cond)
    (W0 w : World) (A : Option Addr) (c : Nat) (hK : Kd.C k29 W0 A L.length L) (hW : Below W0.heap.size W0 w) (pcs : List Nat) (Ap : Option Addr) (cp : Nat) (hp : ∀ pc ∈ pcs, pc < L.length) (hP : Kd.C (Kd.int .i64) w Ap pcs.length (pcs.map fun (x : Nat) => (x : Int))) :
    Calls Tryd.prog 27 #[.agg #[.slice A L.length c, .int .i64 st, .int .i64 nc], .slice Ap pcs.length cp, .int .i32 b, .int .i32 a] w fun e w' =>
      ∃ lv wv, e = .returned (.tuple #[lv, wv]) ∧ RowAt w' (fun i => w.heap.size ≤ i ∧ i < w'.heap.size) 3 lv ((reachA L cond [] pcs).map fun x : Nat => Value.int .i64 (x : Int)) ∧ RowAt w' (fun i => w.heap.size ≤ i ∧ i < w'.heap.size) 4 wv ((reachA L cond [] pcs).map fun x : Nat => Value.bool (waitsB (ins L x))) ∧ Below w.heap.size w w' := by
  have hu31 := Tryd.underlying29
  have hu24 := Tryd.underlying24
  have hu129 := Tryd.underlying92
  have HL := Lib.hid hl
  have HOP := Lib.hid hop
  have HK := Lib.hid hK
  have HW := Lib.hid hW
  have HP := Lib.hid hp
  have HPC := Lib.hid hP
  have HC := Lib.hid hcond
  clear hl hop hK hW hp hP hcond
  go_enter Tryd.func27, Tryd.ntmps27
  go_wp2_with (first | ((with_reducible refine gate_dst (N := 4) rfl ?_); refine box_event ?hg (N := 4) ?hd (cs := #[.slice A L.length c, .int .i64 st, .int .i64 nc]) (t := 24) ?hr ?_; (case hd => rfl); (case hg => rfl); (case hr => first | (go_simp; done) | (go_simp; rfl)); intro gb hg w1 hbox hb; have BK := Lib.hid hbox; have HB1 := Lib.hid hb; have GB : w.heap.size ≤ gb := (by omega); clear hg hbox hb))
  obtain ⟨hz0, hz1, hz2⟩ := blk3 BK.out
  have lb := blk_lt BK.out
  have hmk := make_bools L.length (by omega)
  go_upto_region 1 with (fail)
  go_cut [10] (fun v wc => ∃ g : Nat, v = .pointer (some ⟨g, 0, none⟩) ∧ Hid (∃ sb, QAt w wc A c L st nc cond g sb [] (.slice none 0 0) ∧ wc.heap[gb]? = some (.cells #[.slice A L.length c, .int .i64 st, .int .i64 nc] 24 (0, 0)) ∧ gb < g ∧ gb < sb))
  case first =>
    go_region_held3 (fun w' => w'.cell? ⟨gb, 0, none⟩ = some (.slice A L.length c) ∧ w'.cell? ⟨gb, 1, none⟩ = some (.int .i64 st) ∧ w'.cell? ⟨gb, 2, none⟩ = some (.int .i64 nc))
      (first
        | go_keep
        | (go_split_ands
           refine ⟨?_, ?_, ?_⟩
           · ((rw [hd.below.cell (by simp; omega)]); assumption)
           · ((rw [hd.below.cell (by simp; omega)]); assumption)
           · ((rw [hd.below.cell (by simp; omega)]); assumption)))
      ((go_at_call 30; refine (spec_CondBetween.calls kc b a cond _ HC.out).mono ?_; rintro e w2 ⟨rfl, hd⟩))
    · go_wp2_with fail
      go_meet
      refine ⟨_, rfl, _, q_way1 (below_step (below_drew HB1.out) hd.below) (blk_below (blk_drew BK.out) hd.below)⟩
    · go_wp2_with fail
      go_meet
      refine ⟨_, rfl, _, q_way2 (w1 := w1.drew) (below_drew HB1.out) (blk_drew BK.out) hd.below⟩
  case rest =>
    obtain ⟨g, rfl, hq⟩ := hcut
    clear hz0 hz1 hz2 hmk lb
    obtain ⟨sb, hq1, hq2, hq3, hq4⟩ := hq.out
    have HQ := Lib.hid hq1
    have HG := Lib.hid hq2
    have HKw := Lib.hid (Kd.C_below HK.out HW.out)
    have HLN := Lib.hid (show (pcs.map fun (x : Nat) => (x : Int)).length = pcs.length by simp)
    have hpl : pcs.length ≤ 9223372036854775807 := HPC.out.2.1
    clear hq hq1 hq2
    go_wp2_with fail
    go_loopg [27] pcs.length (fun gk s27 wr => ∃ (k : Nat) (lv : Value), Hid (gk + k = pcs.length ∧ QAt w wr A c L st nc cond g sb (reachA L cond [] (pcs.take k)) lv ∧ wr.heap[gb]? = some (.cells #[.slice A L.length c, .int .i64 st, .int .i64 nc] 24 (0, 0)) ∧ lv.ownBlock ≠ some gb) ∧ k ≤ pcs.length ∧ s27 = .int .i64 k)
    case atStart => exact ⟨0, _, ⟨by omega, HQ.out, HG.out, by simp [Value.ownBlock]⟩, Nat.zero_le _, rfl⟩
    case round =>
      obtain ⟨k, lv, HI, hk, rfl⟩ := hrel
      by_cases hlt : k < pcs.length
      · have hpk := HP.out _ (List.getElem_mem hlt)
        obtain ⟨ad, e, hx⟩ := kd_cell (by rw [HLN.out]; exact HPC.out) HI.out.2.1.bl k (by rw [HLN.out]; exact hlt)
        cases e
        rw [List.getElem_map] at hx
        go_wp2_with fail
        refine (add_calls HL.out hm HOP.out cond w A c HKw.out g sb (L.length + 1) (reachA L cond [] (pcs.take k)) pcs[k] lv wr HI.out.2.1 (reachA_fine HL.out _ _ ⟨by simp, fun x hx => by cases hx⟩ fun x hx => HP.out x (List.mem_of_mem_take hx)) hpk (by omega)).mono ?_
        rintro e w5 ⟨rfl, lv5, hq5, hk5⟩
        have HQ5 := Lib.hid hq5
        have HK5 := Lib.hid hk5
        clear hq5 hk5 hx
        go_wp2_with fail
        go_roundg (gk - 1)
        case measure => have := HI.out.1; omega
        case rel =>
          refine ⟨k + 1, lv5, ⟨by have := HI.out.1; omega, by rw [reachA_take L cond [] pcs k hlt]; exact HQ5.out, ?_, ?_⟩, by omega, by go_num⟩
          · exact (HK5.out.kp gb (blk_lt HI.out.2.2.1) (by omega) (by omega) HI.out.2.2.2).trans HI.out.2.2.1
          · intro e
            rcases HK5.out.ow gb e with e | e
            · exact HI.out.2.2.2 e
            · have := blk_lt HI.out.2.2.1; omega
      · have hke : k = pcs.length := by omega
        subst hke
        have hfin := HI.out
        rw [List.take_length] at hfin
        have HFD := Lib.hid (reachA_fine (cond := cond) HL.out pcs [] ⟨by simp, fun x hx => by cases hx⟩ HP.out)
        clear HI HQ HG
        obtain ⟨D, hD⟩ : ∃ D, D = reachA L cond [] pcs := ⟨_, rfl⟩
        rw [← hD] at hfin HFD
        have HDE := Lib.hid hD
        clear hD
        obtain ⟨-, hq, hgb, hlg⟩ := hfin
        have hdl : D.length ≤ L.length := HFD.out.len
        obtain ⟨Al, cl, elv⟩ := owns_slice hq.ow
        subst elv
        have HQ := Lib.hid hq
        have HG := Lib.hid hgb
        have HLG := Lib.hid hlg
        clear hq hgb hlg
        obtain ⟨hz0, hz1, hz2, hz3, hz4, hz5⟩ := blk6 HQ.out.nd
        obtain ⟨i0, hi0, hi1, hi2, hi3⟩ := info_parts ibool
        go_wp2_with fail
        clear hz0 hz1 hz2 hz3 hz4 hz5
        go_loopg [9, 40] D.length (fun gk s9 s40 wr => ∃ (k : Nat), Hid (gk + k = D.length ∧ QAt w wr A c L st nc cond g sb D (.slice Al D.length cl) ∧ wr.heap[gb]? = some (.cells #[.slice A L.length c, .int .i64 st, .int .i64 nc] 24 (0, 0)) ∧
          wr.ownsRow w.heap.size 4 1 s9 k ((D.take k).map fun x : Nat => Value.bool (waitsB (ins L x))) ∧ s9.ownBlock ≠ some g ∧ s9.ownBlock ≠ some sb ∧ s9.ownBlock ≠ some gb ∧ ((Value.slice Al D.length cl).ownBlock = none ∨ (Value.slice Al D.length cl).ownBlock ≠ s9.ownBlock)) ∧ k ≤ D.length ∧ s40 = .int .i64 k)
        case atStart =>
          refine ⟨0, ⟨by omega, HQ.out, HG.out, World.ownsRow_nil _ _ _ _, by simp [Value.ownBlock], by simp [Value.ownBlock], by simp [Value.ownBlock], ?_⟩, Nat.zero_le _, rfl⟩
          cases Al
          · left; rfl
          · right; simp [Value.ownBlock]
        case round =>
          obtain ⟨k, HI, hk, rfl⟩ := hrel
          by_cases hlt : k < D.length
          · obtain ⟨gl, cap0, e, _, _, _, _, hcell⟩ := (RowAt.of_owns HI.out.2.1.ow (S := fun _ => True) fun _ _ => trivial).cell (by simp; intro e; rw [e] at hlt; simp at hlt)
            rw [List.length_map] at e
            cases e
            have hx := hcell k (by simpa using hlt)
            obtain ⟨Aw, cw, ew⟩ := owns_slice HI.out.2.2.2.1
            subst ew
            rw [List.getElem_map] at hx
            have hpk := HFD.out.lt _ (List.getElem_mem hlt)
            obtain ⟨ad, A3, c3, e, hx0, hx1, hx2, hx3, l3, g3⟩ := inst_at HKw.out HI.out.2.1.bl D[k] hpk
            cases e
            rw [← ins_lt L D[k] hpk] at hx0 hx1 hx2 hx3 l3 g3
            have HG3 := Lib.hid (And.intro l3 g3)
            clear l3 g3 hcell
            obtain ⟨hz0, hz1, hz2⟩ := blk3 HI.out.2.2.1
            go_wp2_with fail
            refine (spec_progWaits.calls (ins L D[k]).f0 (ins L D[k]).f1 (ins L D[k]).f2 A3 c3 (ins L D[k]).f3 (waitsB (ins L D[k])) _ (Kd.C_below HG3.out.2 HI.out.2.1.bl) HG3.out.1 (waits_f _)).mono ?_
            rintro e w5 ⟨rfl, hb5⟩
            have HB5 := Lib.hid hb5
            clear hb5 hz0 hz1 hz2 hx hx0 hx1 hx2 hx3
            have HOW : Hid ((w5.alloc (.cells #[.bool (waitsB (ins L D[k]))] 4)).ownsRow w.heap.size 4 1 (.slice Aw k cw) k ((D.take k).map fun x : Nat => Value.bool (waitsB (ins L x)))) := by
              have h2 := HI.out.2.2.2.1.kept (Row.grown_of_below (below_alloc HB5.out (.cells #[.bool (waitsB (ins L D[k]))] 4)) none) (by cases Aw <;> simp [Value.ownBlock])
              exact Lib.hid h2
            have HSZ : Hid (w.heap.size ≤ (w5.alloc (.cells #[.bool (waitsB (ins L D[k]))] 4)).heap.size) := Lib.hid (by have := HI.out.2.1.bl.size; have := HB5.out.size; simp; omega)
            have HNW : Hid (∀ (j : Nat) (u : Value), [Value.bool (waitsB (ins L D[k]))][j]? = some u → (w5.alloc (.cells #[.bool (waitsB (ins L D[k]))] 4)).cell? ((⟨w5.heap.size, 0, none⟩ : Addr).add j) = some u) :=
              Lib.hid (World.news_of_block (cs := #[.bool (waitsB (ins L D[k]))]) (t := 4) (fr := (0, 0)) (heap_alloc_new w5 (.cells #[.bool (waitsB (ins L D[k]))] 4)))
            have HM1 : Hid (k + 1 ≤ maxLen) := Lib.hid (by unfold maxLen; omega)
            have HM2 : Hid ((k + 1) * 1 ≤ 140737488355328) := Lib.hid (by omega)
            go_wp2_with ((at_builtin; go_must ((refine wpList_append_lies _ rfl (.tmp 44) (.tmp 51) 39 rfl w.heap.size 4 i0 (.bool false) 1 1 Tryd.underlying39 hi0 hi1 hi2 hi3 rfl (by decide) (.slice Aw k cw) k ((D.take k).map fun x : Nat => Value.bool (waitsB (ins L x))) rfl HOW.out ⟨w5.heap.size, 0, none⟩ 1 1 [.bool (waitsB (ins L D[k]))] rfl rfl HNW.out (by simp [Value.oneCell']) (by decide) HM1.out HM2.out HSZ.out _ rfl ?_)); intro gn cap w6 hown hgrow hat hlt6; have HO := Lib.hid hown; have HGR := Lib.hid hgrow; have HAT := Lib.hid hat; clear hown hgrow hat hlt6))
            go_roundg (gk - 1)
            case measure => have := HI.out.1; omega
            case rel =>
              obtain ⟨i1, i2, i3, i4, i5, i6, i7, i8⟩ := HI.out
              have hb7 := below_alloc HB5.out (.cells #[.bool (waitsB (ins L D[k]))] 4)
              have l1 := blk_lt i2.nd
              have l2 := blk_lt i2.sn
              have l3 := blk_lt i3
              have hw7 : wr.heap.size ≤ (w5.alloc (.cells #[.bool (waitsB (ins L D[k]))] 4)).heap.size := hb7.size
              have nb : ∀ b, b < wr.heap.size → (Value.slice Aw k cw).ownBlock ≠ some b → gn ≠ b := fun b hb hn e => by
                rcases HAT.out with h | h
                · exact hn (by rw [h, e])
                · omega
              have hlgl : gl < wr.heap.size := (i2.ow.lt gl rfl).2
              have HLL : (Value.slice Aw k cw).ownBlock ≠ some gl := by
                rcases i8 with h | h
                · cases h
                · intro e; exact h (by rw [e]; rfl)
              refine ⟨k + 1, ⟨by omega, ?_, ?_, ?_, ?_, ?_, ?_, ?_⟩, by omega, by go_num⟩
              · exact (i2.below hb7).grown HGR.out i5 i6 (by
                  rcases i8 with h | h
                  · exact .inl h
                  · exact .inr h) (fun q hq => (i4.lt q hq).1)
              · exact (HGR.out.block gb (by omega) (fun e => i7 e.symm)).trans (blk_below i3 hb7)
              · rw [List.take_succ_eq_append_getElem hlt, List.map_append]
                exact HO.out
              · intro e; exact nb g l1 i5 (by simpa [Value.ownBlock] using e)
              · intro e; exact nb sb l2 i6 (by simpa [Value.ownBlock] using e)
              · intro e; exact nb gb l3 i7 (by simpa [Value.ownBlock] using e)
              · right
                intro e
                have e2 : gl = gn := by simpa [Value.ownBlock] using e
                exact nb gl hlgl HLL e2.symm
          · have hke : k = D.length := by omega
            subst hke
            obtain ⟨i1, i2, i3, i4, i5, i6, i7, i8⟩ := HI.out
            have HF := Lib.hid (And.intro i2 i4)
            obtain ⟨hz0, hz1, hz2, hz3, hz4, hz5⟩ := blk6 i2.nd
            clear i1 i2 i3 i4 i5 i6 i7 i8 HI
            go_wp2_with fail
            go_ret2
            rw [← HDE.out]
            refine ⟨.slice Al D.length cl, u9, rfl, RowAt.of_owns HF.out.1.ow (fun q hq => HF.out.1.ow.lt q hq), ?_, HF.out.1.bl⟩
            have := RowAt.of_owns HF.out.2 (S := fun i => w.heap.size ≤ i ∧ i < wr.heap.size) (fun q hq => HF.out.2.lt q hq)
            rwa [List.take_length] at this
end Go.Proofs.YteoljppcafakpaaDoor.PgFnPgSpan
