import Derived.Test.YtmccgfjhmbioeaaDoorPaFnPgThreads
import Derived.Test.YtmccgfjhmbioeaaDoorRow
namespace Go.Proofs.YtmccgfjhmbioeaaDoor.PgFnPgThreads
open Go.RowKit Go.Proofs.YtmccgfjhmbioeaaDoor.EvN Go.Proofs.YtmccgfjhmbioeaaDoor.PFnPgThreads Go.Proofs.YtmccgfjhmbioeaaDoorW.PrintWords Go.Proofs.YtmccgfjhmbioeaaDoorW.PrintLast Go.Proofs.YtmccgfjhmbioeaaDoorW.PrintMore
theorem clsF_all : ∀ (n : Nat) (l : List Int) (last : Int), l.length = 2 * n → -1 ≤ last → clsF last l = true → l.all okR = true := by
  intro n
  induction n with
  | zero => intro l last hl _ _; rw [List.eq_nil_of_length_eq_zero hl]; rfl
  | succ n ih =>
    intro l last hl hlast h
    match l, hl with
    | a :: b :: r, hl =>
      simp only [clsF] at h
      by_cases h1 : a ≤ last
      · rw [if_pos h1] at h; cases h
      · by_cases h2 : a > b
        · rw [if_neg h1, if_pos h2] at h; cases h
        · by_cases h3 : b > 1114111
          · rw [if_neg h1, if_neg h2, if_pos h3] at h; cases h
          · rw [if_neg h1, if_neg h2, if_neg h3] at h
            have ha : okR a = true := by unfold okR; simp; omega
            have hb : okR b = true := by unfold okR; simp; omega
            simp only [List.all_cons, ha, hb, Bool.true_and]
            exact ih r b (by simp at hl; omega) (by omega) h
theorem cls_all (l : List Int) (h : cls l = true) : l.all okR = true := by
  unfold cls at h
  by_cases he : (l.length : Int) % 2 = 0
  · rw [if_pos he] at h; exact clsF_all (l.length / 2) l (-1) (by omega) (by omega) h
  · rw [if_neg he] at h; cases h
theorem runes_all (l : List Int) (h : runesB l = true) : l.all okR = true := by
  by_cases h1 : l.length = 1
  · obtain ⟨c, rfl⟩ := List.length_eq_one_iff.1 h1
    simpa [runesB_one] using h
  · rw [runesB_cls l h1] at h; exact cls_all l h
theorem ev_charsF (l : List Int) (hl : l.length ≤ 4611686018427387000) (h : l.all okR = true) : Evn (fun k => impl_characters.f k l) true := by
  have := ev_chars l hl l.length 0 (by omega) h
  exact this
set_option maxHeartbeats 1000000 in
theorem ev_fit (L : List I) (st nc : Int) (i : I) (hl : i.f3.length ≤ 4611686018427387000) (h : instB L.length nc i = true) : Evn (fun k => impl_fitInst.f k i.f0 i.f1 i.f2 i.f3 L st nc) true := by
  unfold instB at h
  have hj1 : ∀ b : Bool, (b = true ↔ (i.f0 = 4 ∨ i.f0 = 5 ∨ i.f0 = 6)) → ¬ i.f0 = 0 → ¬ i.f0 = 2 → ¬ i.f0 = 3 → Evn (fun k => impl_fitInst.j1 k i.f0 b i.f0 i.f1 i.f2 i.f3) true := by
    intro b hb n0 n2 n3
    refine Evn.succ ?_
    simp only [impl_fitInst.j1]
    by_cases e : b = true
    · simp only [if_pos e]; exact Evn.const _
    · have ne : ¬ (i.f0 = 4 ∨ i.f0 = 5 ∨ i.f0 = 6) := fun h => e (hb.2 h)
      rw [if_neg (by omega)] at h
      by_cases ho : 0 ≤ i.f1 ∧ i.f1 < (L.length : Int)
      rotate_left
      · rw [if_pos ho] at h; cases h
      rw [if_neg (fun e => e ho), if_neg n0, if_neg n2, if_neg n3, if_neg (by omega)] at h
      simp only [if_neg e]
      by_cases e9 : i.f0 = 9
      · rw [if_pos e9, Bool.or_eq_true, decide_eq_true_eq, decide_eq_true_eq] at h
        simp only [if_pos e9]
        rcases h with h | h
        · simp only [if_pos h]; exact Evn.const _
        · rw [h]; exact Evn.const _
      · simp only [if_neg e9]
        rw [if_neg e9] at h
        by_cases e10 : i.f0 = 10
        · rw [if_pos e10, Bool.or_eq_true, decide_eq_true_eq, decide_eq_true_eq] at h
          simp only [if_pos e10]
          rcases h with h | h
          · simp only [if_pos h]; exact Evn.const _
          · rw [h]; exact Evn.const _
        · simp only [if_neg e10]
          rw [if_neg e10] at h
          by_cases e7 : i.f0 = 7
          · rw [if_neg (by omega), if_pos e7, Bool.or_eq_true, Bool.and_eq_true, Bool.and_eq_true, Bool.and_eq_true, decide_eq_true_eq, decide_eq_true_eq, decide_eq_true_eq] at h
            simp only [if_pos e7]
            rcases h with ⟨⟨h1, h2⟩, h3⟩ | ⟨h1, h2⟩
            · simp only [if_pos h1, if_pos h2]
              exact Evn.bind (g := fun _ t => if t = true then some true else if i.f2 = 0 then some false else some false) (ev_charsF i.f3 hl (runes_all _ h3)) (Evn.const _)
            · have n1 : ¬ i.f2 = 1 := by omega
              have hne : ¬ (i.f3.length : Int) = 1 := by
                intro e
                unfold cls at h2
                rw [e] at h2; simp at h2
              simp only [if_neg n1, if_pos h1, if_neg hne]
              exact Evn.bind (g := fun _ t => some t) (ev_pairs i.f3 hl h2) (Evn.const _)
          · by_cases e8 : i.f0 = 8
            · rw [if_pos e8, Bool.and_eq_true, Bool.or_eq_true, Bool.and_eq_true, decide_eq_true_eq, decide_eq_true_eq, decide_eq_true_eq] at h
              simp only [if_neg e7, if_pos e8]
              obtain ⟨h, hr⟩ := h
              by_cases h1 : (i.f3.length : Int) = 1
              · simp only [if_pos h1]
                exact Evn.bind (g := fun _ t => some t) (ev_charsF i.f3 hl (runes_all _ hr)) (Evn.const _)
              · rcases h with h | ⟨h2, h3⟩
                · exact absurd h h1
                · have q0 : (0 : Int) < (i.f3.length : Int) := by omega
                  have q1 : (1 : Int) < (i.f3.length : Int) := by omega
                  simp only [if_neg h1, if_pos h2, if_pos q0, if_pos q1, if_pos h3]
                  exact Evn.bind (g := fun _ t => some t) (ev_charsF i.f3 hl (runes_all _ hr)) (Evn.const _)
            · rw [if_neg e8, if_neg e7] at h; cases h
  have hj0 : ∀ b : Bool, (b = true → ¬ (i.f0 = 4 ∨ i.f0 = 5) ∧ ¬ (0 ≤ i.f1 ∧ i.f1 < (L.length : Int))) → Evn (fun k => impl_fitInst.j0 k (L.length : Int) b i.f0 i.f1 i.f2 i.f3 L st nc) true := by
    intro b hb
    refine Evn.succ ?_
    simp only [impl_fitInst.j0]
    by_cases e : b = true
    · obtain ⟨g1, g2⟩ := hb e
      rw [if_neg g1, if_pos g2] at h; cases h
    · simp only [if_neg e]
      by_cases e0 : i.f0 = 0
      · simp only [if_pos e0]
        rw [if_neg (by omega)] at h
        by_cases ho : 0 ≤ i.f1 ∧ i.f1 < (L.length : Int)
        · rw [if_neg (fun e => e ho), if_pos e0, Bool.and_eq_true, decide_eq_true_eq, decide_eq_true_eq] at h
          simp only [if_pos (show i.f2 ≥ 0 from h.1), decide_eq_true h.2]; exact Evn.const _
        · rw [if_pos ho] at h; cases h
      · simp only [if_neg e0]
        by_cases e2 : i.f0 = 2
        · simp only [if_pos e2]
          rw [if_neg (by omega)] at h
          by_cases ho : 0 ≤ i.f1 ∧ i.f1 < (L.length : Int)
          · rw [if_neg (fun e => e ho), if_neg e0, if_pos e2, Bool.and_eq_true, decide_eq_true_eq, decide_eq_true_eq] at h
            simp only [if_pos (show i.f2 ≥ 0 by omega), decide_eq_true h.2]; exact Evn.const _
          · rw [if_pos ho] at h; cases h
        · simp only [if_neg e2]
          by_cases e3 : i.f0 = 3
          · simp only [if_pos e3]
            rw [if_neg (by omega)] at h
            by_cases ho : 0 ≤ i.f1 ∧ i.f1 < (L.length : Int)
            · rw [if_neg (fun e => e ho), if_neg e0, if_neg e2, if_pos e3, Bool.and_eq_true, decide_eq_true_eq, decide_eq_true_eq] at h
              simp only [if_pos (show i.f2 > 0 from h.1), decide_eq_true h.2]; exact Evn.const _
            · rw [if_pos ho] at h; cases h
          · simp only [if_neg e3]
            by_cases e4 : i.f0 = 4
            · simp only [if_pos e4]; exact hj1 _ (by rw [beq_iff_eq]; omega) e0 e2 e3
            · simp only [if_neg e4]
              by_cases e5 : i.f0 = 5
              · simp only [if_pos e5]; exact hj1 _ (by rw [beq_iff_eq]; omega) e0 e2 e3
              · simp only [if_neg e5]; exact hj1 _ (by rw [beq_iff_eq]; omega) e0 e2 e3
  simp only [impl_fitInst.f]
  by_cases e4 : i.f0 = 4
  · simp only [if_pos e4]; exact hj0 false (fun e => by cases e)
  · by_cases e5 : i.f0 = 5
    · simp only [if_neg e4, if_pos e5]; exact hj0 false (fun e => by cases e)
    · simp only [if_neg e4, if_neg e5]
      by_cases e1 : i.f1 < 0
      · simp only [if_pos e1]; exact hj0 true (fun _ => ⟨by omega, by omega⟩)
      · simp only [if_neg e1]; exact hj0 _ (fun e => ⟨by omega, by have := of_decide_eq_true e; omega⟩)
def dF (L : List I) : Nat → Nat → Nat
  | 0, _ => 0
  | n + 1, pc => if term (ins L pc) then 1 else 1 + dF L n (ins L pc).f1.toNat
theorem dF_up (L : List I) : ∀ n pc, circF L n pc = false → dF L (n + 1) pc = dF L n pc := by
  intro n
  induction n with
  | zero => intro pc h; cases h
  | succ n ih =>
    intro pc h
    rw [circF] at h
    show (if term (ins L pc) then 1 else 1 + dF L (n + 1) _) = (if term (ins L pc) then 1 else 1 + dF L n _)
    by_cases ht : term (ins L pc)
    · rw [if_pos ht, if_pos ht]
    · rw [if_neg ht] at h
      rw [if_neg ht, if_neg ht, ih _ h]
theorem dF_step {L : List I} {st nc most : Int} (h : PSound L st nc most) (pc : Nat) (hpc : pc < L.length) (ht : ¬ term (ins L pc)) : dF L L.length pc = 1 + dF L L.length (ins L pc).f1.toNat := by
  have h1 := h.circ pc hpc
  obtain ⟨n, hn⟩ : ∃ n, L.length = n + 1 := ⟨L.length - 1, by have := h.pos; omega⟩
  rw [hn] at h1 ⊢
  rw [circF, if_neg ht] at h1
  rw [dF_up L n _ h1]
  show (if term (ins L pc) then 1 else 1 + dF L n _) = _
  rw [if_neg ht]
theorem dF_pos {L : List I} {n pc : Nat} (hn : 1 ≤ n) : 1 ≤ dF L n pc := by
  obtain ⟨m, rfl⟩ : ∃ m, n = m + 1 := ⟨n - 1, by omega⟩
  rw [dF]; split <;> omega
set_option maxHeartbeats 1000000 in
theorem ev_loops {L : List I} {st nc most : Int} (h : PSound L st nc most) (hL : L.length ≤ 2000) : Evn (fun k => impl_loops.f k L st nc) false := by
  have hO := h.outIn
  have key : ∀ (m j : Nat) (seen : List Int), L.length = j + m → seen.length = L.length → (∀ x ∈ seen, 0 ≤ x ∧ x ≤ (j : Int)) →
      Evn (fun k => impl_loops.l0 k seen (L.length : Int) (j : Int) L st nc) false := by
    intro m
    induction m with
    | zero =>
      intro j seen hj _ _
      refine Evn.succ (Evn.congr (Evn.const _) fun k => ?_)
      simp only [impl_loops.l0]
      rw [if_neg (by omega)]
    | succ m ihm =>
      intro j seen hj hs hx
      have ej : wrap64 ((j : Int) + 1) = ((j + 1 : Nat) : Int) := wrap_nat j 1 (by omega)
      have inner : ∀ (d : Nat) (at_ : Nat) (seen : List Int), at_ < L.length → dF L L.length at_ ≤ d → seen.length = L.length → (∀ x ∈ seen, 0 ≤ x ∧ x ≤ ((j + 1 : Nat) : Int)) →
          (∀ q (hq : q < seen.length), seen[q] = ((j + 1 : Nat) : Int) → dF L L.length at_ < dF L L.length q) →
          Evn (fun k => impl_loops.l1 k seen (j : Int) (at_ : Int) (L.length : Int) (j : Int) L st nc) false := by
        intro d
        induction d with
        | zero => intro at_ seen ha hd; have := @dF_pos L L.length at_ (by omega); omega
        | succ d ihd =>
          intro at_ seen ha hd hs hx hm
          have q1 : (0 : Int) ≤ (at_ : Int) := by omega
          have q2 : (at_ : Int) < (seen.length : Int) := by omega
          have q3 : (at_ : Int) < (L.length : Int) := by omega
          refine Evn.succ ?_
          simp only [impl_loops.l1, if_pos q1, if_pos q2, rd_nat seen at_ (by omega), ej]
          by_cases hz : seen[at_]'(by omega) = 0
          · simp only [if_pos hz, Option.bind_some, if_pos q3, Int.toNat_natCast]
            have hset : (seen.set at_ ((j + 1 : Nat) : Int)).length = L.length := by simp [hs]
            have hsx : ∀ x ∈ seen.set at_ ((j + 1 : Nat) : Int), 0 ≤ x ∧ x ≤ ((j + 1 : Nat) : Int) := by
              intro x hx'
              rcases List.mem_or_eq_of_mem_set hx' with h | h
              · exact hx x h
              · subst h; omega
            have hnext : ∀ b : Bool, (b = true ↔ term (ins L at_)) → Evn (fun k => impl_loops.j2 k (seen.set at_ ((j + 1 : Nat) : Int)) (j : Int) (at_ : Int) (L.length : Int) (j : Int) b L st nc) false := by
              intro b hb
              refine Evn.succ ?_
              simp only [impl_loops.j2, ej]
              by_cases e : b = true
              · simp only [if_pos e]; exact ihm (j + 1) _ (by omega) hset hsx
              · have nt : ¬ term (ins L at_) := fun t => e (hb.2 t)
                obtain ⟨o1, o2⟩ := hO at_ ha (by intro h'; exact nt (by unfold term; omega))
                obtain ⟨o, ho⟩ : ∃ o : Nat, (ins L at_).f1 = (o : Int) := ⟨(ins L at_).f1.toNat, by omega⟩
                have hd1 := dF_step h at_ ha nt
                rw [ho] at o1 o2 hd1
                rw [Int.toNat_natCast] at hd1
                have q4 : (o : Int) < ((seen.set at_ ((j + 1 : Nat) : Int)).length : Int) := by rw [hset]; exact o2
                simp only [if_neg e, if_pos q1, if_pos q3, show (rd_T52 L (at_ : Int)).f1 = (o : Int) from ho, if_pos o1, if_pos q4, rd_nat _ o (show o < (seen.set at_ ((j + 1 : Nat) : Int)).length by omega)]
                have hmk : ∀ q (hq : q < (seen.set at_ ((j + 1 : Nat) : Int)).length), (seen.set at_ ((j + 1 : Nat) : Int))[q] = ((j + 1 : Nat) : Int) → dF L L.length o < dF L L.length q := by
                  intro q hq hv
                  by_cases hqa : q = at_
                  · subst hqa; omega
                  · rw [List.getElem_set_ne (Ne.symm hqa)] at hv
                    have := hm q (by simpa using hq) hv; omega
                by_cases hv : (seen.set at_ ((j + 1 : Nat) : Int))[o]'(by omega) = ((j + 1 : Nat) : Int)
                · have := hmk o (by omega) hv; omega
                · simp only [if_neg hv]
                  exact ihd o _ (by omega) (by omega) hset hsx hmk
            by_cases e0 : (ins L at_).f0 = 0
            · simp only [if_pos (show (rd_T52 L (at_ : Int)).f0 = 0 from e0)]; exact hnext true (by simp [term, e0])
            · by_cases e4 : (ins L at_).f0 = 4
              · simp only [if_neg (show ¬ (rd_T52 L (at_ : Int)).f0 = 0 from e0), if_pos (show (rd_T52 L (at_ : Int)).f0 = 4 from e4)]; exact hnext true (by simp [term, e4])
              · simp only [if_neg (show ¬ (rd_T52 L (at_ : Int)).f0 = 0 from e0), if_neg (show ¬ (rd_T52 L (at_ : Int)).f0 = 4 from e4)]; exact hnext _ (by rw [beq_iff_eq]; show (ins L at_).f0 = 5 ↔ _; unfold term; omega)
          · simp only [if_neg hz]
            exact ihm (j + 1) seen (by omega) hs hx
      have q1 : (j : Int) < (L.length : Int) := by omega
      refine Evn.succ ?_
      simp only [impl_loops.l0, if_pos q1]
      refine inner _ j seen (by omega) (Nat.le_refl _) hs (fun x hxm => by have := hx x hxm; omega) fun q hq hv => ?_
      have := hx _ (List.getElem_mem hq)
      omega
  have q1 : (0 : Int) ≤ (L.length : Int) := by omega
  have q2 : L.length ≤ 35184372088832 := by omega
  simp only [impl_loops.f, if_pos q1, if_pos q2, Int.toNat_natCast]
  refine key L.length 0 _ (by omega) (by simp) fun x hx => ?_
  obtain ⟨_, rfl⟩ := List.mem_replicate.1 hx
  omega
end Go.Proofs.YtmccgfjhmbioeaaDoor.PgFnPgThreads
namespace Go.Proofs.YtmccgfjhmbioeaaDoor.PgFnPgThreads
open Go.RowKit Go.Proofs.YtmccgfjhmbioeaaDoor.EvN Go.Proofs.YtmccgfjhmbioeaaDoor.Row Go.Proofs.YtmccgfjhmbioeaaDoor.PFnPgThreads Go.Proofs.YtmccgfjhmbioeaaDoorW.PrintWords Go.Proofs.YtmccgfjhmbioeaaDoorW.PrintLast Go.Proofs.YtmccgfjhmbioeaaDoorW.PrintMore
attribute [local go_sem ↓] Go.wp_at_zero Go.wp_at_succ
theorem iru : (Tryd.prog.info? 21).map (fun i => (i.zero, i.size, i.bytes)) = some (some (.int .i32 0), 1, 4) := by kernel_rfl
abbrev J := S98
def pin (i : I) : J := if i.f0 = 4 ∨ i.f0 = 5 then ⟨i.f0, 0, 0, []⟩ else ⟨i.f0, i.f1, IntKind.u32.wrap i.f2, i.f3⟩
set_option maxRecDepth 100000 in
set_option maxHeartbeats 4000000 in
theorem inst_calls (i : I) (h0 : 0 ≤ i.f0 ∧ i.f0 ≤ 10) (hi : ¬ (i.f0 = 4 ∨ i.f0 = 5) → 0 ≤ i.f1 ∧ i.f1 < 4294967296) (hl : i.f3.length * 4 ≤ 140737488351232) (W0 w : World) (cs : List Value) (hK : k52.K W0 i cs) (hW : Below W0.heap.size W0 w) :
    Calls Tryd.prog 36 #[.agg cs.toArray] w fun e w' => ∃ vr, e = .returned (.agg #[.int .u8 (pin i).f0, .int .u32 (pin i).f1, .int .u32 (pin i).f2, vr]) ∧ RowAt w' (fun b => w.heap.size ≤ b ∧ b < w'.heap.size) 21 vr ((pin i).f3.map (.int .i32)) ∧ Below w.heap.size w w' := by
  obtain ⟨A3, c3, rfl, l3, g3⟩ := k52_open hK
  have hu31 := Tryd.underlying52
  have hu160 := Tryd.underlying98
  have HG := Lib.hid (And.intro l3 g3)
  have HI := Lib.hid hi
  have HL := Lib.hid hl
  have HW := Lib.hid hW
  clear l3 g3 hi hl hK hW
  by_cases h45 : i.f0 = 4 ∨ i.f0 = 5
  · have hp : pin i = ⟨i.f0, 0, 0, []⟩ := by unfold pin; rw [if_pos h45]
    rw [hp]
    clear hp
    generalize i.f0 = op at *
    rcases h45 with rfl | rfl
    all_goals
      go_enter Tryd.func36, Tryd.ntmps36
      go_wp2_with fail
      exact bodyPost_ret (v := .agg #[.int .u8 _, .int .u32 0, .int .u32 0, .slice none 0 0]) (by simp [results, Tryd.results36, go_sem]) rfl ⟨_, rfl, .inl ⟨rfl, rfl⟩, ((Below.refl _ _).alloc (Nat.le_refl _) _).alloc (by simp) _⟩
  · have hp : pin i = ⟨i.f0, i.f1, IntKind.u32.wrap i.f2, i.f3⟩ := by unfold pin; rw [if_neg h45]
    rw [hp]
    clear hp
    obtain ⟨h1, h2⟩ := HI.out h45
    have e4 : (i.f0 == 4) = false := by simp; omega
    have e5 : (i.f0 == 5) = false := by simp; omega
    clear h45 HI
    have HC := Lib.hid (fun w' (hb : Below w.heap.size w w') => runes_cells HG.out.2 (HW.out.trans (hb.mono HW.out.size)))
    go_enter Tryd.func36, Tryd.ntmps36
    go_wp2_with fail
    obtain ⟨gb, hgb⟩ : ∃ gb, gb = w.heap.size := ⟨_, rfl⟩
    have BK := Lib.hid (blk_alloc (heap_alloc_new w (.cells #[.int .i64 i.f0, .int .i64 i.f1, .int .i64 i.f2, .slice A3 i.f3.length c3] 52)) (.cells #[.int .u8 0, .int .u32 0, .int .u32 0, .slice none 0 0] 98))
    have BC := Lib.hid (heap_alloc_new (w.alloc (.cells #[.int .i64 i.f0, .int .i64 i.f1, .int .i64 i.f2, .slice A3 i.f3.length c3] 52)) (.cells #[.int .u8 0, .int .u32 0, .int .u32 0, .slice none 0 0] 98))
    rw [show (w.alloc (.cells #[.int .i64 i.f0, .int .i64 i.f1, .int .i64 i.f2, .slice A3 i.f3.length c3] 52)).heap.size = w.heap.size + 1 by simp] at BC
    have HB := Lib.hid (((Below.refl w.heap.size w).alloc (Nat.le_refl _) (.cells #[.int .i64 i.f0, .int .i64 i.f1, .int .i64 i.f2, .slice A3 i.f3.length c3] 52)).alloc (by simp) (.cells #[.int .u8 0, .int .u32 0, .int .u32 0, .slice none 0 0] 98))
    generalize World.alloc (World.alloc w _) _ = w2 at *
    rw [← hgb] at BK BC ⊢
    have HGB := Lib.hid hgb
    clear hgb
    obtain ⟨hz0, hz1, hz2, hz3⟩ := blk4 BK.out
    obtain ⟨hv0, hv1, hv2, hv3⟩ := blk4 BC.out
    have lb := blk_lt BK.out
    have W1 := Lib.hid (wrap_u8 h0.1 (show i.f0 ≤ 255 by omega))
    have W2 := Lib.hid (wrap_u32 h1 h2)
    have HCC := Lib.hid (HC.out w2 HB.out)
    have F1 := Lib.hid (show (i.f3.map (Value.int .i32)).length = i.f3.length by simp)
    have F2 := Lib.hid (show ∀ u ∈ i.f3.map (Value.int .i32), u.oneCell' = true by intro u hu; rw [List.mem_map] at hu; obtain ⟨_, _, rfl⟩ := hu; rfl)
    have F3 := Lib.hid (show i.f3.length * 4 ≤ 140737488355328 by have := HL.out; omega)
    have F4 := Lib.hid (show i.f3.length ≤ maxLen by have := HL.out; unfold maxLen; omega)
    clear HC
    go_region_held3 (fun w' => w'.cell? ⟨gb, 0, none⟩ = some (.int .i64 i.f0) ∧ w'.cell? ⟨gb, 1, none⟩ = some (.int .i64 i.f1) ∧ w'.cell? ⟨gb, 2, none⟩ = some (.int .i64 i.f2) ∧ w'.cell? ⟨gb, 3, none⟩ = some (.slice A3 i.f3.length c3))
      (first
        | go_keep
        | (go_split_ands
           refine ⟨?_, ?_, ?_, ?_⟩
           · ((rw [hb3.cell (by simpa using lb)]); assumption)
           · ((rw [hb3.cell (by simpa using lb)]); assumption)
           · ((rw [hb3.cell (by simpa using lb)]); assumption)
           · ((rw [hb3.cell (by simpa using lb)]); assumption)))
      ((refine step_appn (by rfl) _ _ 50 (by rfl) 21 (.int .i32 0) 4 Tryd.underlying50 iru rfl (by rfl) A3 i.f3.length c3 (i.f3.map (.int .i32)) (by rfl) F1.out HCC.out F2.out F3.out F4.out ?_; intro vr w3 hown hb3; obtain ⟨Ar, cr, rfl⟩ := owns_slice hown; have BC3 := Lib.hid (blk_below (blk_drew BC.out) hb3); have hf0 := blk_frozen BC3.out 0; have hf1 := blk_frozen BC3.out 1; have hf2 := blk_frozen BC3.out 2; have hf3 := blk_frozen BC3.out 3; obtain ⟨hu0, hu1, hu2, hu3⟩ := blk4 BC3.out))
    have HBK := Lib.hid hb3
    have HO := Lib.hid hown
    have HB3 := Lib.hid (below_step (below_drew HB.out) hb3)
    clear hb3 hown hz0 hz1 hz2 hz3 hv0 hv1 hv2 hv3 hu0 hu1 hu2 hu3 hf0 hf1 hf2 hf3
    rw [W1.out, W2.out]
    rename_i hHeld
    clear hHeld
    have hsz := HB.out.size
    have BC4 := Lib.hid (set4_blk BC3.out (.int .u8 i.f0) (.int .u32 i.f1) (.int .u32 (IntKind.u32.wrap i.f2)) (.slice Ar i.f3.length cr))
    have HB4 := Lib.hid (set4_below HB3.out (show w.heap.size ≤ gb + 1 by have := HGB.out; omega) (.int .u8 i.f0) (.int .u32 i.f1) (.int .u32 (IntKind.u32.wrap i.f2)) (.slice Ar i.f3.length cr))
    have HR := Lib.hid (RowAt.of_owns HO.out (S := fun b => w2.heap.size ≤ b) (fun g hg => (HO.out.lt g hg).1))
    have HR4 := Lib.hid (HR.out.mono (w' := set4 w3 (gb + 1) (.int .u8 i.f0) (.int .u32 i.f1) (.int .u32 (IntKind.u32.wrap i.f2)) (.slice Ar i.f3.length cr)) (S' := fun b => w.heap.size ≤ b ∧ b < (set4 w3 (gb + 1) (.int .u8 i.f0) (.int .u32 i.f1) (.int .u32 (IntKind.u32.wrap i.f2)) (.slice Ar i.f3.length cr)).heap.size) fun b hb hs => ⟨⟨Nat.le_trans hsz hs, by rw [set4_size]; exact hb⟩, set4_far w3 (gb + 1) b (by have := blk_lt BC.out; omega) _ _ _ _⟩)
    generalize hw4 : set4 w3 (gb + 1) (.int .u8 i.f0) (.int .u32 i.f1) (.int .u32 (IntKind.u32.wrap i.f2)) (.slice Ar i.f3.length cr) = w4 at *
    simp only [set4] at hw4
    rw [hw4]
    clear hw4
    obtain ⟨hu0, hu1, hu2, hu3⟩ := blk4 BC4.out
    go_wp2_with fail
    exact bodyPost_ret (v := .agg #[.int .u8 i.f0, .int .u32 i.f1, .int .u32 (IntKind.u32.wrap i.f2), .slice Ar i.f3.length cr]) (by simp [results, Tryd.results36, go_sem, hu0, hu1, hu2, hu3]) rfl ⟨_, rfl, HR4.out, HB4.out⟩
end Go.Proofs.YtmccgfjhmbioeaaDoor.PgFnPgThreads
namespace Go.Proofs.YtmccgfjhmbioeaaDoor.PgFnPgThreads
open Go.RowKit Go.Proofs.YtmccgfjhmbioeaaDoor.EvN Go.Proofs.YtmccgfjhmbioeaaDoor.Row Go.Proofs.YtmccgfjhmbioeaaDoor.PFnPgThreads Go.Proofs.YtmccgfjhmbioeaaDoorW.PrintWords Go.Proofs.YtmccgfjhmbioeaaDoorW.PrintLast Go.Proofs.YtmccgfjhmbioeaaDoorW.PrintMore
attribute [local go_sem ↓] Go.wp_at_zero Go.wp_at_succ
theorem iinst : (Tryd.prog.info? 98).map (fun i => (i.zero, i.size, i.bytes)) = some (some (.agg #[.int .u8 0, .int .u32 0, .int .u32 0, .slice none 0 0]), 4, 40) := by kernel_rfl
def flatJ : List (J × Value) → List Value
  | [] => []
  | (j, v) :: r => .int .u8 j.f0 :: .int .u32 j.f1 :: .int .u32 j.f2 :: v :: flatJ r
theorem flatJ_append (a b : List (J × Value)) : flatJ (a ++ b) = flatJ a ++ flatJ b := by
  induction a with
  | nil => rfl
  | cons x a ih => obtain ⟨j, v⟩ := x; simp [flatJ, ih]
theorem flatJ_get (a : List (J × Value)) (i : Nat) (h : i < a.length) (k : Nat) (hk : k < 4) : (flatJ a)[i * 4 + k]? = [Value.int .u8 a[i].1.f0, .int .u32 a[i].1.f1, .int .u32 a[i].1.f2, a[i].2][k]? := by
  induction a generalizing i with
  | nil => simp at h
  | cons x a ih =>
    obtain ⟨j, v⟩ := x
    cases i with
    | zero =>
      match k, hk with
      | 0, _ => rfl
      | 1, _ => rfl
      | 2, _ => rfl
      | 3, _ => rfl
    | succ i =>
      have e : (i + 1) * 4 + k = (i * 4 + k) + 4 := by omega
      rw [e]
      simp only [flatJ, List.getElem?_cons_succ, List.getElem_cons_succ]
      exact ih i (by simpa using h)
def ProgAt (w : World) (p : Nat) (L : List I) (st nc : Int) : Prop :=
  ∃ A cap, w.heap[p]? = some (.cells #[.slice A L.length cap, .int .i64 st, .int .i64 nc] 93 (0, 0)) ∧ L.length ≤ cap ∧ Kd.C k98 w A L.length (L.map pin)
theorem ProgAt.below {w w' : World} {p : Nat} {L : List I} {st nc : Int} (h : ProgAt w p L st nc) (hb : Below w.heap.size w w') : ProgAt w' p L st nc := by
  obtain ⟨A, cap, h1, h2, h3⟩ := h
  exact ⟨A, cap, blk_below h1 hb, h2, Kd.C_below h3 hb⟩
structure Pk (w : World) (L : List I) (st nc : Int) (gb p : Nat) (box : Array Value) (k : Nat) (wr : World) (vs : Value) (q : List (J × Value)) : Prop where
  lo : w.heap.size ≤ gb
  lp : gb < p
  bx : wr.heap[gb]? = some (.cells box 24 (0, 0))
  nd : wr.heap[p]? = some (.cells #[vs, .int .i64 st, .int .i64 nc] 93 (0, 0))
  bl : Below w.heap.size w wr
  ow : wr.ownsRow w.heap.size 98 4 vs k (flatJ q)
  np : vs.ownBlock ≠ some p
  ng : vs.ownBlock ≠ some gb
  ql : q.map (·.1) = (L.take k).map pin
  rg : ∀ x ∈ q, RowAt wr (fun i => w.heap.size ≤ i ∧ i ≠ p ∧ vs.ownBlock ≠ some i) 21 x.2 (x.1.f3.map (.int .i32))
theorem Pk.below {w : World} {L : List I} {st nc : Int} {gb p : Nat} {box : Array Value} {k : Nat} {wr : World} {vs : Value} {q : List (J × Value)} (h : Pk w L st nc gb p box k wr vs q) {w' : World} (hb : Below wr.heap.size wr w') :
    Pk w L st nc gb p box k w' vs q :=
  ⟨h.lo, h.lp, blk_below h.bx hb, blk_below h.nd hb, below_step h.bl hb, h.ow.kept (Row.grown_of_below hb none) (by cases hv : vs.ownBlock <;> simp), h.np, h.ng, h.ql, fun x hx => (h.rg x hx).mono fun i hi hs => ⟨hs, hb.block i hi⟩⟩
theorem Pk.step {w : World} {L : List I} {st nc : Int} {gb p : Nat} {box : Array Value} {k : Nat} {wr : World} {vs : Value} {q : List (J × Value)} (h : Pk w L st nc gb p box k wr vs q)
    (hk : k < L.length) {w7 w8 : World} (h7 : Below wr.heap.size wr w7) {vr : Value} (hr : RowAt w7 (fun i => wr.heap.size ≤ i) 21 vr ((pin L[k]).f3.map (.int .i32)))
    {g cap : Nat} (hown : w8.ownsRow w.heap.size 98 4 (.slice (some ⟨g, 0, none⟩) (k + 1) cap) (k + 1) (flatJ q ++ [.int .u8 (pin L[k]).f0, .int .u32 (pin L[k]).f1, .int .u32 (pin L[k]).f2, vr])) (hgr : w7.grownBy w8 vs.ownBlock) (hat : vs.ownBlock = some g ∨ g = w7.heap.size) :
    Pk w L st nc gb p box (k + 1) (w8.setCell ⟨p, 0, none⟩ (.slice (some ⟨g, 0, none⟩) (k + 1) cap)) (.slice (some ⟨g, 0, none⟩) (k + 1) cap) (q ++ [(pin L[k], vr)]) := by
  have h' := h.below h7
  have hp7 : p < w7.heap.size := blk_lt h'.nd
  have hgb7 : gb < w7.heap.size := blk_lt h'.bx
  have hgp : g ≠ p := by
    rcases hat with e | e
    · intro e'; subst e'; exact h.np e
    · omega
  have hgg : g ≠ gb := by
    rcases hat with e | e
    · intro e'; subst e'; exact h.ng e
    · omega
  have hw : w.heap.size ≤ p := by have := h.lo; have := h.lp; omega
  have mv : ∀ i, i < w7.heap.size → (w.heap.size ≤ i ∧ i ≠ p ∧ vs.ownBlock ≠ some i) → (w.heap.size ≤ i ∧ i ≠ p ∧ (Value.slice (some ⟨g, 0, none⟩) (k + 1) cap).ownBlock ≠ some i) ∧ (w8.setCell ⟨p, 0, none⟩ (.slice (some ⟨g, 0, none⟩) (k + 1) cap)).heap[i]? = w7.heap[i]? := by
    rintro i hi ⟨a1, a2, a3⟩
    refine ⟨⟨a1, a2, fun e => ?_⟩, (Below.heap_setCell w8 _ _ i a2).trans (hgr.block i hi (fun e => a3 e.symm))⟩
    have e' : g = i := by simpa [Value.ownBlock] using e
    subst e'
    rcases hat with e2 | e2
    · exact a3 e2
    · omega
  refine ⟨h.lo, h.lp, ?_, ?_, ?_, ?_, ?_, ?_, ?_, ?_⟩
  · exact (Below.heap_setCell w8 _ _ gb (by have := h.lp; show gb ≠ p; omega)).trans ((hgr.block gb hgb7 (fun e => h.ng e.symm)).trans h'.bx)
  · have h1 : w8.heap[p]? = some (.cells #[vs, .int .i64 st, .int .i64 nc] 93 (0, 0)) := (hgr.block p hp7 (fun e => h.np e.symm)).trans h'.nd
    exact (blk_set h1 0 _).trans rfl
  · exact below_set (h'.bl.grown hgr h'.bl.size (fun k hk => (h'.ow.lt k hk).1)) hw
  · obtain ⟨hl, hh⟩ := hown
    refine ⟨by rw [flatJ_append]; exact hl, ?_⟩
    rcases hh with ⟨e, _⟩ | ⟨g', cap', cur, e, x1, x2, x3⟩
    · cases e
    · cases e
      refine .inr ⟨g, cap, cur, rfl, x1, (Below.heap_setCell w8 _ _ g hgp).trans x2, ?_⟩
      rw [flatJ_append]; exact x3
  · intro e; exact hgp (by simpa [Value.ownBlock] using e)
  · intro e; exact hgg (by simpa [Value.ownBlock] using e)
  · rw [List.map_append, h.ql, List.take_succ_eq_append_getElem hk, List.map_append]; rfl
  · intro x hx
    rcases List.mem_append.1 hx with hx | hx
    · exact (h'.rg x hx).mono mv
    · simp only [List.mem_singleton] at hx
      subst hx
      refine hr.mono fun i hi hs => mv i hi ⟨Nat.le_trans h.bl.size hs, ?_, ?_⟩
      · have := blk_lt h.nd; omega
      · intro e
        have := (h.ow.lt i e).2
        omega
theorem Pk.done {w : World} {L : List I} {st nc : Int} {gb p : Nat} {box : Array Value} {wr : World} {vs : Value} {q : List (J × Value)} (h : Pk w L st nc gb p box L.length wr vs q) (hL : 1 ≤ L.length) (hm : L.length ≤ 2000) : ProgAt wr p L st nc := by
  have hq : q.map (·.1) = L.map pin := by rw [h.ql, List.take_length]
  have hlen : q.length = L.length := by simpa using congrArg List.length hq
  obtain ⟨hl, hh⟩ := h.ow
  rcases hh with ⟨_, e⟩ | ⟨g, cap, cur, e, _, hg, h1, h2, h3, h4⟩
  · omega
  · have nd := h.nd
    rw [e] at nd
    refine ⟨_, cap, nd, h1, ?_, by omega, fun _ => ⟨_, rfl, fun j x hj => ?_⟩⟩
    · simp
    · have hjl : j < L.length := by
        have := (List.getElem?_eq_some_iff.1 hj).1
        simpa using this
      have hjq : j < q.length := by omega
      have hx : x = q[j].1 := by
        rw [← hq, List.getElem?_map, List.getElem?_eq_getElem hjq] at hj
        simpa using hj.symm
      obtain ⟨A, c, ev, hc, hC⟩ := (h.rg q[j] (List.getElem_mem hjq)).kd
      refine ⟨[.int .u8 x.f0, .int .u32 x.f1, .int .u32 x.f2, .slice A x.f3.length c], rfl, ?_, fun i u hu => ?_⟩
      · rw [hx]; exact k98_mk wr _ hc hC
      · have hi4 : i < 4 := by
          rcases Nat.lt_or_ge i 4 with h | h
          · exact h
          · rw [List.getElem?_eq_none (by simpa using h)] at hu; cases hu
        have hg4 := flatJ_get q j hjq i hi4
        rw [ev, ← hx] at hg4
        have e2 : (⟨g, 0, none⟩ : Addr).add (j * k98.sz + i) = ⟨g, j * 4 + i, none⟩ := by
          have hs : k98.sz = 4 := rfl
          rw [hs]
          unfold Addr.add; split <;> simp_all
        rw [e2, blk_cell hg]
        have h5 := congrArg (fun l => l[j * 4 + i]?) h4
        simp only [List.getElem?_take, if_pos (show j * 4 + i < L.length * 4 by omega)] at h5
        rw [hg4, hu] at h5
        simpa using h5
end Go.Proofs.YtmccgfjhmbioeaaDoor.PgFnPgThreads
namespace Go.Proofs.YtmccgfjhmbioeaaDoor.PgFnPgThreads
open Go.RowKit Go.Proofs.YtmccgfjhmbioeaaDoor.EvN Go.Proofs.YtmccgfjhmbioeaaDoor.Row Go.Proofs.YtmccgfjhmbioeaaDoor.PFnPgThreads Go.Proofs.YtmccgfjhmbioeaaDoorW.PrintWords Go.Proofs.YtmccgfjhmbioeaaDoorW.PrintLast Go.Proofs.YtmccgfjhmbioeaaDoorW.PrintMore
attribute [local go_sem ↓] Go.wp_at_zero Go.wp_at_succ
structure PW (L : List I) : Prop where
  runes : ∀ i ∈ L, i.f3.length * 4 ≤ 140737488351232
theorem ins_lt (L : List I) (k : Nat) (h : k < L.length) : ins L k = L[k] := by unfold ins; rw [List.getD_eq_getElem?_getD, List.getElem?_eq_getElem h]; rfl
theorem inst_at {W0 w : World} {A : Option Addr} {L : List I} (h : Kd.C k52 W0 A L.length L) (hb : Below W0.heap.size W0 w) (k : Nat) (hk : k < L.length) :
    ∃ ad A3 c3, A = some ad ∧ w.cell? (ad.add (k * 4)) = some (.int .i64 L[k].f0) ∧ w.cell? ⟨(ad.add (k * 4)).block, (ad.add (k * 4)).off + 1, none⟩ = some (.int .i64 L[k].f1) ∧ w.cell? ⟨(ad.add (k * 4)).block, (ad.add (k * 4)).off + 2, none⟩ = some (.int .i64 L[k].f2) ∧ w.cell? ⟨(ad.add (k * 4)).block, (ad.add (k * 4)).off + 3, none⟩ = some (.slice A3 L[k].f3.length c3) ∧
      L[k].f3.length ≤ c3 ∧ Kd.C (Kd.int .i32) W0 A3 L[k].f3.length L[k].f3 := by
  obtain ⟨ad, A3, c3, e, h0, h1, h2, h3, l3, g3⟩ := at_T52 h (k : Int) (by omega) (by omega)
  rw [ins_nat, ins_lt L k hk] at *
  rw [Int.toNat_natCast] at *
  have mv : ∀ {a : Addr} {v : Value}, W0.cell? a = some v → w.cell? a = some v := fun hc => (hb.cell (World.block_lt_of_cell? W0 _ hc)).trans hc
  exact ⟨ad, A3, c3, e, mv h0, mv h1, mv h2, mv h3, l3, g3⟩
theorem inst_range {n : Nat} {nc : Int} {i : I} (h : instB n nc i = true) (hn : n ≤ 2000) (hnc : nc ≤ 2002) : (0 ≤ i.f0 ∧ i.f0 ≤ 10) ∧ (¬ (i.f0 = 4 ∨ i.f0 = 5) → 0 ≤ i.f1 ∧ i.f1 < 2000 ∧ (i.f0 ≠ 6 → i.f0 ≠ 9 → i.f0 ≠ 10 → i.f0 ≠ 8 → 0 ≤ i.f2 ∧ i.f2 < 4294967296)) := by
  unfold instB at h
  by_cases h45 : i.f0 = 4 ∨ i.f0 = 5
  · exact ⟨by omega, fun h => absurd h45 h⟩
  · rw [if_neg h45] at h
    by_cases ho : 0 ≤ i.f1 ∧ i.f1 < n
    · rw [if_neg (fun e => e ho)] at h
      refine ⟨?_, fun _ => ⟨ho.1, by omega, fun g6 g9 g10 g8 => ?_⟩⟩
      · repeat' split at h
        all_goals first | omega | cases h
      · repeat' split at h
        all_goals first
          | (exact absurd ‹i.f0 = 6› g6)
          | (exact absurd ‹i.f0 = 9› g9)
          | (exact absurd ‹i.f0 = 10› g10)
          | (exact absurd ‹i.f0 = 8› g8)
          | (cases h; done)
          | (simp only [Bool.and_eq_true, Bool.or_eq_true, decide_eq_true_eq] at h; omega)
    · rw [if_pos ho] at h; cases h
set_option maxRecDepth 100000 in
set_option maxHeartbeats 4000000 in
theorem prog_calls {L : List I} {st nc : Int} (h : PSound L st nc 2000) (hr : ∀ i ∈ L, i.f3.length * 4 ≤ 140737488351232) (W0 w : World) (A : Option Addr) (c : Nat) (hK : Kd.C k52 W0 A L.length L) (hc : L.length ≤ c) (hW : Below W0.heap.size W0 w) :
    Calls Tryd.prog 22 #[.agg #[.slice A L.length c, .int .i64 st, .int .i64 nc]] w fun e w' => ∃ p, e = .returned (.tuple #[.pointer (some ⟨p, 0, none⟩), .bool true]) ∧ w.heap.size ≤ p ∧ ProgAt w' p L st nc ∧ Below w.heap.size w w' := by
  have hu31 := Tryd.underlying52
  have hu24 := Tryd.underlying24
  have HK := Lib.hid hK
  have HS := Lib.hid h
  have HR := Lib.hid hr
  have HW := Lib.hid hW
  have HC := Lib.hid hc
  have hp1 := h.pos
  have hp2 : (L.length : Int) ≤ 2000 := h.most
  have hs0 := h.st0
  have hs1 := h.st1
  have hn0 := h.nc0
  have hn1 := h.nc1
  obtain ⟨ad, A3, c3, e, hx0, -, -, -, -, -⟩ := inst_at hK hW 0 hp1
  rw [← ins_lt L 0 hp1, h.first] at hx0
  cases e
  obtain ⟨kf, hkf⟩ := (ev_loops h (by omega)).get
  have HKF := Lib.hid hkf
  have HI : Hid (∀ k (hk : k < L.length), (0 ≤ L[k].f0 ∧ L[k].f0 ≤ 10) ∧ (¬ (L[k].f0 = 4 ∨ L[k].f0 = 5) → 0 ≤ L[k].f1 ∧ L[k].f1 < 4294967296)) := by
    intro k hk
    have h1 := inst_range (h.inst k hk) (by omega) hn1
    rw [ins_lt L k hk] at h1
    exact ⟨h1.1, fun g => ⟨(h1.2 g).1, by have := (h1.2 g).2.1; omega⟩⟩
  have e0 : ((L.length : Int) == 0) = false := by rw [beq_eq_false_iff_ne]; omega
  have d1 : decide ((2000 : Int) < (L.length : Int)) = false := decide_eq_false (by omega)
  have d2 : decide (st < 0) = false := decide_eq_false (by omega)
  have d3 : decide ((L.length : Int) ≤ st) = false := decide_eq_false (by omega)
  have d4 : decide (nc < 2) = false := decide_eq_false (by omega)
  have d5 : decide ((2002 : Int) < nc) = false := decide_eq_false (by omega)
  have ead : ad.add (0 * 4) = ad := by unfold Addr.add; split <;> simp_all
  rw [ead] at hx0
  clear ead
  have HX0 := Lib.hid hx0
  clear hK h hr hW hc hx0 hkf
  go_enter Tryd.func22, Tryd.ntmps22
  go_wp2_with (first | ((with_reducible refine gate_dst (N := 1) rfl ?_); refine box_event ?hg (N := 1) ?hd (cs := #[.slice (some ad) L.length c, .int .i64 st, .int .i64 nc]) (t := 24) ?hr ?_; (case hd => rfl); (case hg => rfl); (case hr => first | (go_simp; done) | (go_simp; rfl)); intro gb hg w1 hbox hb; have BK := Lib.hid hbox; have HB1 := Lib.hid hb; have GB : w.heap.size ≤ gb := (by omega); clear hg hbox hb; obtain ⟨hz0, hz1, hz2⟩ := blk3 BK.out; have hx0 := (HB1.out.cell (World.block_lt_of_cell? w _ HX0.out)).trans HX0.out) | ((with_reducible refine gate_dst (N := 53) rfl ?_); refine box_event ?hg (N := 53) ?hd (cs := #[.slice none 0 0, .int .i64 st, .int .i64 nc]) (t := 93) ?hr ?_; (case hd => rfl); (case hg => rfl); (case hr => first | (go_simp; done) | (go_simp; rfl)); intro p hg w2 hbox hb; have BP := Lib.hid hbox; have BK2 := Lib.hid (blk_below BK.out hb); have HB2 := Lib.hid (below_step HB1.out hb); have GP : gb < p := (by have := blk_lt BK.out; omega); clear hg hbox hb hz0 hz1 hz2 hx0; obtain ⟨hz0, hz1, hz2⟩ := blk3 BK2.out))
  have HPK : Hid (Pk w L st nc gb p #[.slice (some ad) L.length c, .int .i64 st, .int .i64 nc] 0 w2 (.slice none 0 0) []) :=
    Lib.hid ⟨GB, GP, BK2.out, BP.out, HB2.out, World.ownsRow_nil _ _ _ _, by simp [Value.ownBlock], by simp [Value.ownBlock], rfl, fun x hx => by cases hx⟩
  clear BP BK2 BK HB2 HB1 hz0 hz1 hz2 HX0
  go_loopg [57] L.length (fun gk s57 wr => ∃ (k : Nat) (vs : Value) (q : List (J × Value)), Hid (gk + k = L.length ∧ Pk w L st nc gb p #[.slice (some ad) L.length c, .int .i64 st, .int .i64 nc] k wr vs q) ∧ k ≤ L.length ∧ s57 = .int .i64 k)
  case atStart => exact ⟨0, _, [], ⟨by omega, HPK.out⟩, Nat.zero_le _, rfl⟩
  case round =>
    clear HPK
    obtain ⟨k, vs, q, HQ, hk, rfl⟩ := hrel
    by_cases hlt : k < L.length
    · obtain ⟨ad', A3', c3', e, hx0, hx1, hx2, hx3, l3, g3⟩ := inst_at HK.out (HW.out.trans (HQ.out.2.bl.mono HW.out.size)) k hlt
      cases e
      have HG3 := Lib.hid (And.intro l3 g3)
      clear l3 g3
      obtain ⟨hz0, hz1, hz2⟩ := blk3 HQ.out.2.bx
      go_wp2_with (first | ((with_reducible refine gate_dst (N := 6) rfl ?_); refine box_event ?hg (N := 6) ?hd (cs := #[.int .i64 0, .int .i64 0, .int .i64 0, .slice none 0 0]) (t := 52) ?hr ?_; (case hd => rfl); (case hg => rfl); (case hr => first | (go_simp; done) | (go_simp; rfl)); intro gc hg w5 hbox hb; have BC := Lib.hid hbox; have HB5 := Lib.hid hb; have GC : wr.heap.size ≤ gc := (by omega); have HQ5 := Lib.hid (HQ.out.2.below hb); have hgbc : gb ≠ gc := (by have := blk_lt HQ.out.2.bx; omega); clear hg hbox hb hz0 hz1 hz2; obtain ⟨hz0, hz1, hz2⟩ := blk3 HQ5.out.bx; obtain ⟨hv0, hv1, hv2, hv3⟩ := blk4 BC.out; have hq0 := blk_frozen BC.out 0; have hq1 := blk_frozen BC.out 1; have hq2 := blk_frozen BC.out 2; have hq3 := blk_frozen BC.out 3))
      clear hz0 hz1 hz2 hv0 hv1 hv2 hv3 hq0 hq1 hq2 hq3 hx0 hx1 hx2 hx3
      have HB6 := Lib.hid (set4_below HB5.out GC (.int .i64 L[k].f0) (.int .i64 L[k].f1) (.int .i64 L[k].f2) (.slice A3' L[k].f3.length c3'))
      have BC6 := Lib.hid (set4_blk BC.out (.int .i64 L[k].f0) (.int .i64 L[k].f1) (.int .i64 L[k].f2) (.slice A3' L[k].f3.length c3'))
      clear BC HB5 HQ5
      generalize hw6 : set4 w5 gc (.int .i64 L[k].f0) (.int .i64 L[k].f1) (.int .i64 L[k].f2) (.slice A3' L[k].f3.length c3') = w6 at *
      simp only [set4] at hw6
      rw [hw6]
      clear hw6
      have HQ6 := Lib.hid (HQ.out.2.below HB6.out)
      have HW6 := Lib.hid (HW.out.trans (HQ6.out.bl.mono HW.out.size))
      have HFT : Hid (∃ kf, impl_fitInst.f kf L[k].f0 L[k].f1 L[k].f2 L[k].f3 L st nc = some true) := by
        have h1 := HS.out.inst k hlt
        rw [ins_lt L k hlt] at h1
        exact Lib.hid (ev_fit L st nc L[k] (by have := HR.out _ (List.getElem_mem hlt); omega) h1).get
      obtain ⟨kt, hkt⟩ := HFT.out
      have HKT := Lib.hid hkt
      clear hkt HFT
      refine (impl_fitInst.calls kt L[k].f0 L[k].f1 L[k].f2 A3' c3' L[k].f3 (some ad) c L st nc true w6 (Kd.C_below HG3.out.2 HW6.out) HG3.out.1 (Kd.C_below HK.out HW6.out) HC.out HKT.out).mono ?_
      rintro e w7 ⟨rfl, hb7⟩
      have HB7 := Lib.hid (below_step HB6.out hb7)
      have HQ7 := Lib.hid (HQ6.out.below hb7)
      have BC7 := Lib.hid (blk_below BC6.out hb7)
      clear hb7 HQ6 BC6 HW6 HKT
      obtain ⟨hz0, hz1, hz2⟩ := blk3 HQ7.out.nd
      obtain ⟨hv0, hv1, hv2, hv3⟩ := blk4 BC7.out
      have hpgc : p ≠ gc := by have := blk_lt HQ.out.2.nd; omega
      have hgcp : gc ≠ p := Ne.symm hpgc
      go_wp2_with fail
      have HGK := Lib.hid HQ.out.1
      obtain ⟨i0, hi0, hi1, hi2, hi3⟩ := info_parts iinst
      have HM : Hid (k + 1 ≤ maxLen ∧ (k + 1) * 40 ≤ 140737488355328 ∧ w.heap.size ≤ w7.heap.size) := Lib.hid ⟨by unfold maxLen; omega, by omega, by have := HQ7.out.bl.size; exact this⟩
      have HNGC : Hid (some gc ≠ vs.ownBlock) := Lib.hid (fun e => by have := (HQ.out.2.ow.lt gc e.symm).2; omega)
      have HIK := Lib.hid (HI.out k hlt)
      have HRK := Lib.hid (HR.out _ (List.getElem_mem hlt))
      have HKI := Lib.hid (k52_mk W0 L[k] HG3.out.1 HG3.out.2)
      go_region_law
        (first
          | (go_simp; go_at_call 36; refine (inst_calls L[k] HIK.out.1 HIK.out.2 HRK.out W0 _ _ HKI.out ?hb).mono ?_; (case hb => exact below_drew (HW.out.trans (HQ7.out.bl.mono HW.out.size))); rintro e w8 ⟨vr, rfl, hrow, hbel⟩; obtain ⟨Ar, cr, rfl, hcr, hkr⟩ := hrow.kd; have HREG := Lib.hid hrow; have HB8 := Lib.hid (below_step (below_drew HB7.out) hbel); have HQ8 := Lib.hid ((HQ7.out.below (below_drew (Below.refl w7.heap.size w7))).below hbel); have BC8 := Lib.hid (blk_below (blk_drew BC7.out) hbel); have hp27 := (blk3 HQ8.out.nd).1; have hp27a : ∀ o, (w8.alloc o).cell? ⟨p, 0, none⟩ = some vs := (fun o => (blk3 (blk_alloc HQ8.out.nd o)).1); clear hrow hbel hcr hkr)
          | (refine step_append_lies _ (by rfl) _ _ _ (by rfl) w.heap.size 98 i0 _ 4 40 Tryd.underlying91 hi0 hi1 hi2 hi3 rfl (by omega) vs k (flatJ q) (by rfl) (HQ8.out.ow.alloc _) ⟨w8.heap.size, 0, none⟩ 1 1 [.int .u8 (pin L[k]).f0, .int .u32 (pin L[k]).f1, .int .u32 (pin L[k]).f2, .slice Ar (pin L[k]).f3.length cr] (by rfl) (by rfl) (World.news_of_block (cs := #[.int .u8 (pin L[k]).f0, .int .u32 (pin L[k]).f1, .int .u32 (pin L[k]).f2, .slice Ar (pin L[k]).f3.length cr]) (t := 98) (fr := (0, 0)) (heap_alloc_new w8 _)) (by simp [Value.oneCell']) (by omega) HM.out.1 HM.out.2.1 (by have := HQ8.out.bl.size; simp; omega) (w8.heap.size + 1) (by simp) ?_; intro gg cap w9 hown9 hgrow9 hat9 hlt9; have HOWN := Lib.hid hown9; have HGROW := Lib.hid hgrow9; have HAT := Lib.hid hat9; have HP9 := Lib.hid ((hgrow9.block p (blk_lt (blk_alloc HQ8.out.nd _)) (fun e => HQ8.out.np e.symm)).trans (blk_alloc HQ8.out.nd _)); have BC9 := Lib.hid ((hgrow9.block gc (blk_lt (blk_alloc BC8.out _)) (HNGC.out)).trans (blk_alloc BC8.out _)); have hfz9 := blk_frozen HP9.out 0; have hc9 := (blk3 HP9.out).1; clear hown9 hgrow9 hat9 hlt9)
          | (trace_state; fail))
      all_goals
        have HF := Lib.hid (HQ.out.2.step hlt (below_alloc HB8.out (.cells #[.int .u8 (pin L[k]).f0, .int .u32 (pin L[k]).f1, .int .u32 (pin L[k]).f2, .slice Ar (pin L[k]).f3.length cr] 98)) (HREG.out.mono fun i hi hs => ⟨Nat.le_trans HB7.out.size hs.1, Below.heap_alloc _ _ _ hi⟩) HOWN.out HGROW.out (by have := HAT.out; simpa using this))
        go_wp2_with fail
        go_roundg (gk - 1)
        case measure => have := HGK.out; omega
        case rel => exact ⟨k + 1, _, _, ⟨by have := HGK.out; omega, HF.out⟩, by omega, by go_num⟩
    · have hke : k = L.length := by omega
      subst hke
      obtain ⟨hz0, hz1, hz2⟩ := blk3 HQ.out.2.bx
      go_wp2_with fail
      have HW6 := Lib.hid (HW.out.trans (HQ.out.2.bl.mono HW.out.size))
      refine (impl_loops.calls kf (some ad) c L st nc false _ (Kd.C_below HK.out HW6.out) HC.out HKF.out).mono ?_
      rintro e w7 ⟨rfl, hb7⟩
      have HQ7 := Lib.hid (HQ.out.2.below hb7)
      clear hb7 hz0 hz1 hz2
      go_wp2_with fail
      go_ret2
      exact ⟨p, rfl, by omega, HQ7.out.done hp1 (by omega), HQ7.out.bl⟩
end Go.Proofs.YtmccgfjhmbioeaaDoor.PgFnPgThreads
