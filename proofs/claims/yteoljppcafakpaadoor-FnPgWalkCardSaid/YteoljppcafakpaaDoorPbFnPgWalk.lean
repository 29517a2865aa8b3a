import Derived.Test.YteoljppcafakpaaDoorPaFnPgWalk
namespace Go.Proofs.YteoljppcafakpaaDoor.PgFnPgWalk
open Go.RowKit Go.Proofs.YteoljppcafakpaaDoor.EvN Go.Proofs.YteoljppcafakpaaDoor.PFnPgWalk Go.Proofs.YteoljppcafakpaaDoorW.PrintWords Go.Proofs.YteoljppcafakpaaDoorW.PrintLast Go.Proofs.YteoljppcafakpaaDoorW.PrintMore
theorem clsF_all : ∀ (n : Nat) (l : List Int) (last : Int), l.length = 2 * n → -1 ≤ last → clsF last l = true → l.all okR = true := by
  intro n
  induction n with
  | zero => intro l last hl _ _; rw [List.eq_nil_of_length_eq_zero hl]; rfl
  | succ n ih =>
    intro l last hl hlast h
    match l, hl with
    | a :: b :: r, hl =>
      simp only [clsF] at h
      by_cases h1 : a ≤ last
      · rw [if_pos h1] at h; cases h
      · by_cases h2 : a > b
        · rw [if_neg h1, if_pos h2] at h; cases h
        · by_cases h3 : b > 1114111
          · rw [if_neg h1, if_neg h2, if_pos h3] at h; cases h
          · rw [if_neg h1, if_neg h2, if_neg h3] at h
            have ha : okR a = true := by unfold okR; simp; omega
            have hb : okR b = true := by unfold okR; simp; omega
            simp only [List.all_cons, ha, hb, Bool.true_and]
            exact ih r b (by simp at hl; omega) (by omega) h
theorem cls_all (l : List Int) (h : cls l = true) : l.all okR = true := by
  unfold cls at h
  by_cases he : (l.length : Int) % 2 = 0
  · rw [if_pos he] at h; exact clsF_all (l.length / 2) l (-1) (by omega) (by omega) h
  · rw [if_neg he] at h; cases h
theorem runes_all (l : List Int) (h : runesB l = true) : l.all okR = true := by
  by_cases h1 : l.length = 1
  · obtain ⟨c, rfl⟩ := List.length_eq_one_iff.1 h1
    simpa [runesB_one] using h
  · rw [runesB_cls l h1] at h; exact cls_all l h
theorem ev_charsF (l : List Int) (hl : l.length ≤ 4611686018427387000) (h : l.all okR = true) : Evn (fun k => impl_characters.f k l) true := by
  have := ev_chars l hl l.length 0 (by omega) h
  exact this
set_option maxHeartbeats 1000000 in
theorem ev_fit (L : List I) (st nc : Int) (i : I) (hl : i.f3.length ≤ 4611686018427387000) (h : instB L.length nc i = true) : Evn (fun k => impl_fitInst.f k i.f0 i.f1 i.f2 i.f3 L st nc) true := by
  unfold instB at h
  have hj1 : ∀ b : Bool, (b = true ↔ (i.f0 = 4 ∨ i.f0 = 5 ∨ i.f0 = 6)) → ¬ i.f0 = 0 → ¬ i.f0 = 2 → ¬ i.f0 = 3 → Evn (fun k => impl_fitInst.j1 k i.f0 b i.f0 i.f1 i.f2 i.f3) true := by
    intro b hb n0 n2 n3
    refine Evn.succ ?_
    simp only [impl_fitInst.j1]
    by_cases e : b = true
    · simp only [if_pos e]; exact Evn.const _
    · have ne : ¬ (i.f0 = 4 ∨ i.f0 = 5 ∨ i.f0 = 6) := fun h => e (hb.2 h)
      rw [if_neg (by omega)] at h
      by_cases ho : 0 ≤ i.f1 ∧ i.f1 < (L.length : Int)
      rotate_left
      · rw [if_pos ho] at h; cases h
      rw [if_neg (fun e => e ho), if_neg n0, if_neg n2, if_neg n3, if_neg (by omega)] at h
      simp only [if_neg e]
      by_cases e9 : i.f0 = 9
      · rw [if_pos e9, Bool.or_eq_true, decide_eq_true_eq, decide_eq_true_eq] at h
        simp only [if_pos e9]
        rcases h with h | h
        · simp only [if_pos h]; exact Evn.const _
        · rw [h]; exact Evn.const _
      · simp only [if_neg e9]
        rw [if_neg e9] at h
        by_cases e10 : i.f0 = 10
        · rw [if_pos e10, Bool.or_eq_true, decide_eq_true_eq, decide_eq_true_eq] at h
          simp only [if_pos e10]
          rcases h with h | h
          · simp only [if_pos h]; exact Evn.const _
          · rw [h]; exact Evn.const _
        · simp only [if_neg e10]
          rw [if_neg e10] at h
          by_cases e7 : i.f0 = 7
          · rw [if_neg (by omega), if_pos e7, Bool.or_eq_true, Bool.and_eq_true, Bool.and_eq_true, Bool.and_eq_true, decide_eq_true_eq, decide_eq_true_eq, decide_eq_true_eq] at h
            simp only [if_pos e7]
            rcases h with ⟨⟨h1, h2⟩, h3⟩ | ⟨h1, h2⟩
            · simp only [if_pos h1, if_pos h2]
              exact Evn.bind (g := fun _ t => if t = true then some true else if i.f2 = 0 then some false else some false) (ev_charsF i.f3 hl (runes_all _ h3)) (Evn.const _)
            · have n1 : ¬ i.f2 = 1 := by omega
              have hne : ¬ (i.f3.length : Int) = 1 := by
                intro e
                unfold cls at h2
                rw [e] at h2; simp at h2
              simp only [if_neg n1, if_pos h1, if_neg hne]
              exact Evn.bind (g := fun _ t => some t) (ev_pairs i.f3 hl h2) (Evn.const _)
          · by_cases e8 : i.f0 = 8
            · rw [if_pos e8, Bool.and_eq_true, Bool.or_eq_true, Bool.and_eq_true, decide_eq_true_eq, decide_eq_true_eq, decide_eq_true_eq] at h
              simp only [if_neg e7, if_pos e8]
              obtain ⟨h, hr⟩ := h
              by_cases h1 : (i.f3.length : Int) = 1
              · simp only [if_pos h1]
                exact Evn.bind (g := fun _ t => some t) (ev_charsF i.f3 hl (runes_all _ hr)) (Evn.const _)
              · rcases h with h | ⟨h2, h3⟩
                · exact absurd h h1
                · have q0 : (0 : Int) < (i.f3.length : Int) := by omega
                  have q1 : (1 : Int) < (i.f3.length : Int) := by omega
                  simp only [if_neg h1, if_pos h2, if_pos q0, if_pos q1, if_pos h3]
                  exact Evn.bind (g := fun _ t => some t) (ev_charsF i.f3 hl (runes_all _ hr)) (Evn.const _)
            · rw [if_neg e8, if_neg e7] at h; cases h
  have hj0 : ∀ b : Bool, (b = true → ¬ (i.f0 = 4 ∨ i.f0 = 5) ∧ ¬ (0 ≤ i.f1 ∧ i.f1 < (L.length : Int))) → Evn (fun k => impl_fitInst.j0 k (L.length : Int) b i.f0 i.f1 i.f2 i.f3 L st nc) true := by
    intro b hb
    refine Evn.succ ?_
    simp only [impl_fitInst.j0]
    by_cases e : b = true
    · obtain ⟨g1, g2⟩ := hb e
      rw [if_neg g1, if_pos g2] at h; cases h
    · simp only [if_neg e]
      by_cases e0 : i.f0 = 0
      · simp only [if_pos e0]
        rw [if_neg (by omega)] at h
        by_cases ho : 0 ≤ i.f1 ∧ i.f1 < (L.length : Int)
        · rw [if_neg (fun e => e ho), if_pos e0, Bool.and_eq_true, decide_eq_true_eq, decide_eq_true_eq] at h
          simp only [if_pos (show i.f2 ≥ 0 from h.1), decide_eq_true h.2]; exact Evn.const _
        · rw [if_pos ho] at h; cases h
      · simp only [if_neg e0]
        by_cases e2 : i.f0 = 2
        · simp only [if_pos e2]
          rw [if_neg (by omega)] at h
          by_cases ho : 0 ≤ i.f1 ∧ i.f1 < (L.length : Int)
          · rw [if_neg (fun e => e ho), if_neg e0, if_pos e2, Bool.and_eq_true, decide_eq_true_eq, decide_eq_true_eq] at h
            simp only [if_pos (show i.f2 ≥ 0 by omega), decide_eq_true h.2]; exact Evn.const _
          · rw [if_pos ho] at h; cases h
        · simp only [if_neg e2]
          by_cases e3 : i.f0 = 3
          · simp only [if_pos e3]
            rw [if_neg (by omega)] at h
            by_cases ho : 0 ≤ i.f1 ∧ i.f1 < (L.length : Int)
            · rw [if_neg (fun e => e ho), if_neg e0, if_neg e2, if_pos e3, Bool.and_eq_true, decide_eq_true_eq, decide_eq_true_eq] at h
              simp only [if_pos (show i.f2 > 0 from h.1), decide_eq_true h.2]; exact Evn.const _
            · rw [if_pos ho] at h; cases h
          · simp only [if_neg e3]
            by_cases e4 : i.f0 = 4
            · simp only [if_pos e4]; exact hj1 _ (by rw [beq_iff_eq]; omega) e0 e2 e3
            · simp only [if_neg e4]
              by_cases e5 : i.f0 = 5
              · simp only [if_pos e5]; exact hj1 _ (by rw [beq_iff_eq]; omega) e0 e2 e3
              · simp only [if_neg e5]; exact hj1 _ (by rw [beq_iff_eq]; omega) e0 e2 e3
  simp only [impl_fitInst.f]
  by_cases e4 : i.f0 = 4
  · simp only [if_pos e4]; exact hj0 false (fun e => by cases e)
  · by_cases e5 : i.f0 = 5
    · simp only [if_neg e4, if_pos e5]; exact hj0 false (fun e => by cases e)
    · simp only [if_neg e4, if_neg e5]
      by_cases e1 : i.f1 < 0
      · simp only [if_pos e1]; exact hj0 true (fun _ => ⟨by omega, by omega⟩)
      · simp only [if_neg e1]; exact hj0 _ (fun e => ⟨by omega, by have := of_decide_eq_true e; omega⟩)
def dF (L : List I) : Nat → Nat → Nat
  | 0, _ => 0
  | n + 1, pc => if term (ins L pc) then 1 else 1 + dF L n (ins L pc).f1.toNat
theorem dF_up (L : List I) : ∀ n pc, circF L n pc = false → dF L (n + 1) pc = dF L n pc := by
  intro n
  induction n with
  | zero => intro pc h; cases h
  | succ n ih =>
    intro pc h
    rw [circF] at h
    show (if term (ins L pc) then 1 else 1 + dF L (n + 1) _) = (if term (ins L pc) then 1 else 1 + dF L n _)
    by_cases ht : term (ins L pc)
    · rw [if_pos ht, if_pos ht]
    · rw [if_neg ht] at h
      rw [if_neg ht, if_neg ht, ih _ h]
theorem dF_step {L : List I} {st nc most : Int} (h : PSound L st nc most) (pc : Nat) (hpc : pc < L.length) (ht : ¬ term (ins L pc)) : dF L L.length pc = 1 + dF L L.length (ins L pc).f1.toNat := by
  have h1 := h.circ pc hpc
  obtain ⟨n, hn⟩ : ∃ n, L.length = n + 1 := ⟨L.length - 1, by have := h.pos; omega⟩
  rw [hn] at h1 ⊢
  rw [circF, if_neg ht] at h1
  rw [dF_up L n _ h1]
  show (if term (ins L pc) then 1 else 1 + dF L n _) = _
  rw [if_neg ht]
theorem dF_pos {L : List I} {n pc : Nat} (hn : 1 ≤ n) : 1 ≤ dF L n pc := by
  obtain ⟨m, rfl⟩ : ∃ m, n = m + 1 := ⟨n - 1, by omega⟩
  rw [dF]; split <;> omega
set_option maxHeartbeats 1000000 in
theorem ev_loops {L : List I} {st nc most : Int} (h : PSound L st nc most) (hL : L.length ≤ 2000) : Evn (fun k => impl_loops.f k L st nc) false := by
  have hO := h.outIn
  have key : ∀ (m j : Nat) (seen : List Int), L.length = j + m → seen.length = L.length → (∀ x ∈ seen, 0 ≤ x ∧ x ≤ (j : Int)) →
      Evn (fun k => impl_loops.l0 k seen (L.length : Int) (j : Int) L st nc) false := by
    intro m
    induction m with
    | zero =>
      intro j seen hj _ _
      refine Evn.succ (Evn.congr (Evn.const _) fun k => ?_)
      simp only [impl_loops.l0]
      rw [if_neg (by omega)]
    | succ m ihm =>
      intro j seen hj hs hx
      have ej : wrap64 ((j : Int) + 1) = ((j + 1 : Nat) : Int) := wrap_nat j 1 (by omega)
      have inner : ∀ (d : Nat) (at_ : Nat) (seen : List Int), at_ < L.length → dF L L.length at_ ≤ d → seen.length = L.length → (∀ x ∈ seen, 0 ≤ x ∧ x ≤ ((j + 1 : Nat) : Int)) →
          (∀ q (hq : q < seen.length), seen[q] = ((j + 1 : Nat) : Int) → dF L L.length at_ < dF L L.length q) →
          Evn (fun k => impl_loops.l1 k seen (j : Int) (at_ : Int) (L.length : Int) (j : Int) L st nc) false := by
        intro d
        induction d with
        | zero => intro at_ seen ha hd; have := @dF_pos L L.length at_ (by omega); omega
        | succ d ihd =>
          intro at_ seen ha hd hs hx hm
          have q1 : (0 : Int) ≤ (at_ : Int) := by omega
          have q2 : (at_ : Int) < (seen.length : Int) := by omega
          have q3 : (at_ : Int) < (L.length : Int) := by omega
          refine Evn.succ ?_
          simp only [impl_loops.l1, if_pos q1, if_pos q2, rd_nat seen at_ (by omega), ej]
          by_cases hz : seen[at_]'(by omega) = 0
          · simp only [if_pos hz, Option.bind_some, if_pos q3, Int.toNat_natCast]
            have hset : (seen.set at_ ((j + 1 : Nat) : Int)).length = L.length := by simp [hs]
            have hsx : ∀ x ∈ seen.set at_ ((j + 1 : Nat) : Int), 0 ≤ x ∧ x ≤ ((j + 1 : Nat) : Int) := by
              intro x hx'
              rcases List.mem_or_eq_of_mem_set hx' with h | h
              · exact hx x h
              · subst h; omega
            have hnext : ∀ b : Bool, (b = true ↔ term (ins L at_)) → Evn (fun k => impl_loops.j2 k (seen.set at_ ((j + 1 : Nat) : Int)) (j : Int) (at_ : Int) (L.length : Int) (j : Int) b L st nc) false := by
              intro b hb
              refine Evn.succ ?_
              simp only [impl_loops.j2, ej]
              by_cases e : b = true
              · simp only [if_pos e]; exact ihm (j + 1) _ (by omega) hset hsx
              · have nt : ¬ term (ins L at_) := fun t => e (hb.2 t)
                obtain ⟨o1, o2⟩ := hO at_ ha (by intro h'; exact nt (by unfold term; omega))
                obtain ⟨o, ho⟩ : ∃ o : Nat, (ins L at_).f1 = (o : Int) := ⟨(ins L at_).f1.toNat, by omega⟩
                have hd1 := dF_step h at_ ha nt
                rw [ho] at o1 o2 hd1
                rw [Int.toNat_natCast] at hd1
                have q4 : (o : Int) < ((seen.set at_ ((j + 1 : Nat) : Int)).length : Int) := by rw [hset]; exact o2
                simp only [if_neg e, if_pos q1, if_pos q3, show (rd_T29 L (at_ : Int)).f1 = (o : Int) from ho, if_pos o1, if_pos q4, rd_nat _ o (show o < (seen.set at_ ((j + 1 : Nat) : Int)).length by omega)]
                have hmk : ∀ q (hq : q < (seen.set at_ ((j + 1 : Nat) : Int)).length), (seen.set at_ ((j + 1 : Nat) : Int))[q] = ((j + 1 : Nat) : Int) → dF L L.length o < dF L L.length q := by
                  intro q hq hv
                  by_cases hqa : q = at_
                  · subst hqa; omega
                  · rw [List.getElem_set_ne (Ne.symm hqa)] at hv
                    have := hm q (by simpa using hq) hv; omega
                by_cases hv : (seen.set at_ ((j + 1 : Nat) : Int))[o]'(by omega) = ((j + 1 : Nat) : Int)
                · have := hmk o (by omega) hv; omega
                · simp only [if_neg hv]
                  exact ihd o _ (by omega) (by omega) hset hsx hmk
            by_cases e0 : (ins L at_).f0 = 0
            · simp only [if_pos (show (rd_T29 L (at_ : Int)).f0 = 0 from e0)]; exact hnext true (by simp [term, e0])
            · by_cases e4 : (ins L at_).f0 = 4
              · simp only [if_neg (show ¬ (rd_T29 L (at_ : Int)).f0 = 0 from e0), if_pos (show (rd_T29 L (at_ : Int)).f0 = 4 from e4)]; exact hnext true (by simp [term, e4])
              · simp only [if_neg (show ¬ (rd_T29 L (at_ : Int)).f0 = 0 from e0), if_neg (show ¬ (rd_T29 L (at_ : Int)).f0 = 4 from e4)]; exact hnext _ (by rw [beq_iff_eq]; show (ins L at_).f0 = 5 ↔ _; unfold term; omega)
          · simp only [if_neg hz]
            exact ihm (j + 1) seen (by omega) hs hx
      have q1 : (j : Int) < (L.length : Int) := by omega
      refine Evn.succ ?_
      simp only [impl_loops.l0, if_pos q1]
      refine inner _ j seen (by omega) (Nat.le_refl _) hs (fun x hxm => by have := hx x hxm; omega) fun q hq hv => ?_
      have := hx _ (List.getElem_mem hq)
      omega
  have q1 : (0 : Int) ≤ (L.length : Int) := by omega
  have q2 : L.length ≤ 35184372088832 := by omega
  simp only [impl_loops.f, if_pos q1, if_pos q2, Int.toNat_natCast]
  refine key L.length 0 _ (by omega) (by simp) fun x hx => ?_
  obtain ⟨_, rfl⟩ := List.mem_replicate.1 hx
  omega
end Go.Proofs.YteoljppcafakpaaDoor.PgFnPgWalk
