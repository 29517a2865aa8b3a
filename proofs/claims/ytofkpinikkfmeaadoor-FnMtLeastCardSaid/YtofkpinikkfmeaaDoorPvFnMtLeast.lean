/- Groups of a sound tree; that no node of it is refused. No walk. -/
import Derived.Test.YtofkpinikkfmeaaDoorPuFnMtLeast
import Derived.Test.YtofkpinikkfmeaaDoorPimFnMtLeast
namespace Go.Proofs.YtofkpinikkfmeaaDoor.TrFnMtLeast
open Go.RowKit Go.Proofs.YtofkpinikkfmeaaDoor.PFnMtLeast Go.Proofs.YtofkpinikkfmeaaDoorW.PrintWords Go.Proofs.YtofkpinikkfmeaaDoorW.PrintLast Go.Proofs.YtofkpinikkfmeaaDoorW.PrintMore

theorem capsL_says (l : List T) (h : ∀ s ∈ l, ∀ n : Int, 1 ≤ n → n + (cnt s : Int) ≤ 1000000000 → 0 ≤ caps s n → n ≤ caps s n ∧ caps s n ≤ n + (cnt s : Int) ∧ AllN (fun t => t.f0 = 13 → n ≤ t.f5 ∧ t.f5 < caps s n) s) :
    ∀ n : Int, 1 ≤ n → n + (cntL l : Int) ≤ 1000000000 → 0 ≤ capsL l n → n ≤ capsL l n ∧ capsL l n ≤ n + (cntL l : Int) ∧ ∀ s ∈ l, AllN (fun t => t.f0 = 13 → n ≤ t.f5 ∧ t.f5 < capsL l n) s := by
  induction l with
  | nil => intro n h1 h2 h3; simp only [capsL, cntL]; exact ⟨by omega, by omega, fun s hs => by cases hs⟩
  | cons a l ih =>
    intro n h1 h2 h3
    simp only [capsL, cntL] at h2 h3 ⊢
    by_cases h0 : caps a n < 0
    · rw [if_pos h0] at h3; omega
    · rw [if_neg h0] at h3 ⊢
      obtain ⟨g1, g2, g3⟩ := h a (by simp) n h1 (by omega) (by omega)
      obtain ⟨k1, k2, k3⟩ := ih (fun s hs => h s (by simp [hs])) (caps a n) (by omega) (by omega) h3
      refine ⟨by omega, by omega, fun s hs => ?_⟩
      rcases List.mem_cons.1 hs with rfl | hs
      · exact AllN.mono (fun t ht e => by have := ht e; omega) _ g3
      · exact AllN.mono (fun t ht e => by have := ht e; omega) _ (k3 s hs)

theorem caps_says (t : T) : ∀ n : Int, 1 ≤ n → n + (cnt t : Int) ≤ 1000000000 → 0 ≤ caps t n → n ≤ caps t n ∧ caps t n ≤ n + (cnt t : Int) ∧ AllN (fun t' => t'.f0 = 13 → n ≤ t'.f5 ∧ t'.f5 < caps t n) t := by
  refine tree_ind (p := fun t => ∀ n : Int, 1 ≤ n → n + (cnt t : Int) ≤ 1000000000 → 0 ≤ caps t n → n ≤ caps t n ∧ caps t n ≤ n + (cnt t : Int) ∧ AllN (fun t' => t'.f0 = 13 → n ≤ t'.f5 ∧ t'.f5 < caps t n) t) ?_ t
  intro t ih n h1 h2 h3
  have hL := capsL_says t.f7 ih
  rw [cnt_eq] at h2 ⊢
  have e := caps_eq t n
  by_cases h13 : t.f0 = 13
  · rw [if_pos h13] at e
    by_cases h5 : t.f5 = n
    · rw [if_pos h5, w64 _ (by omega)] at e
      rw [e] at h3 ⊢
      obtain ⟨g1, g2, g3⟩ := hL (n + 1) (by omega) (by omega) h3
      exact ⟨by omega, by omega, .mk t (fun _ => by omega) fun s hs => AllN.mono (fun t' ht e => by have := ht e; omega) _ (g3 s hs)⟩
    · rw [if_neg h5] at e; omega
  · rw [if_neg h13] at e
    rw [e] at h3 ⊢
    obtain ⟨g1, g2, g3⟩ := hL n h1 (by omega) h3
    exact ⟨by omega, by omega, .mk t (fun e => absurd e h13) g3⟩

theorem ar_cases (a : Int) (n : Int) (hn : 0 ≤ n) (h1 : ¬ n < (ar a).1) (h2 : ¬ ((ar a).2 ≥ 0 ∧ n > (ar a).2)) :
    (1 ≤ a ∧ a ≤ 12 ∧ n = 0) ∨ (13 ≤ a ∧ a ≤ 17 ∧ n = 1) ∨ a = 18 ∨ (a = 19 ∧ 1 ≤ n) := by
  unfold ar at h1 h2
  split at h1
  · rw [if_pos (by assumption)] at h2; simp only at h1 h2; omega
  · rw [if_neg (by assumption)] at h2
    split at h1
    · omega
    · rw [if_neg (by assumption)] at h2
      split at h1
      · simp only at h1; omega
      · rw [if_neg (by assumption)] at h2
        split at h1
        · rw [if_pos (by assumption)] at h2; simp only at h1 h2; omega
        · rw [if_neg (by assumption)] at h2; simp only at h1 h2; omega

set_option maxHeartbeats 2000000 in
theorem node_sound (a0 a1 : Int) (l2 : List Int) (a3 a4 a5 : Int) (a6 : ByteArray) (l7 : List T) (hb : nodeB ⟨a0, a1, l2, a3, a4, a5, a6, l7⟩ = true) (hc : a0 = 13 → 1 ≤ a5 ∧ a5 ≤ 1000) (hl : l2.length ≤ 4611686018427387000) :
    Ev (fun k => impl_sound.f k a0 a1 l2 a3 a4 a5 a6 l7) true := by
  unfold nodeB at hb
  simp only at hb
  split at hb
  · cases hb
  · rename_i g1
    split at hb
    · cases hb
    · rename_i g2
      have hcs := ar_cases a0 (l7.length : Int) (by omega) g1 g2
      clear g1 g2
      have hj1 : ∀ b : Bool, 14 ≤ a0 → (b = true → (l7.length : Int) = 1) → (a0 ≤ 17 → (l7.length : Int) = 1) → (b = false → 17 ≤ a0) → Ev (fun k => impl_sound.j1 k a0 b a0 a1 l2 a3 a4 a5 a6 l7) true := by
        intro b h14 hb1 hb2 hb3
        refine Ev.succ (Ev.congr (Ev.const _) fun k => ?_)
        simp only [impl_sound.j1]
        by_cases e : b = true
        · rw [if_pos e]; simp [hb1 e]
        · rw [if_neg e]
          have h17' := hb3 (by simpa using e)
          by_cases h17 : a0 = 17
          · rw [if_pos h17]
            rw [if_neg (by omega), if_neg (by omega), if_pos h17] at hb
            simp only [Bool.and_eq_true, Bool.or_eq_true, decide_eq_true_eq] at hb
            have hl1 := hb2 (by omega)
            obtain ⟨⟨b1, b2⟩, b3⟩ := hb
            rw [if_neg (by omega), if_neg (by omega)]
            repeat' split
            all_goals first | omega | simp [hl1]
          · rw [if_neg h17]
            by_cases h18 : a0 = 18
            · rw [if_pos h18]
            · rw [if_neg h18]
              have h19 : a0 = 19 := by omega
              rw [if_pos h19]
              simp only [Option.some.injEq, decide_eq_true_eq]
              omega
      have hj0 : ∀ b : Bool, (b = true → 1 ≤ a0 ∧ a0 ≤ 12) → (b = false → a0 = 3 ∨ a0 = 4 ∨ 13 ≤ a0) → Ev (fun k => impl_sound.j0 k 0 a0 b a0 a1 l2 a3 a4 a5 a6 l7) true := by
        intro b hb1 hb2
        refine Ev.succ ?_
        simp only [impl_sound.j0]
        by_cases e : b = true
        · simp only [if_pos e]
          have := hb1 e
          have hz : (l7.length : Int) = 0 := by omega
          simp only [hz]
          exact Ev.const _
        · simp only [if_neg e]
          have hb2' := hb2 (by simpa using e)
          by_cases h3 : a0 = 3
          · rw [if_pos h3, Bool.and_eq_true, decide_eq_true_eq] at hb
            have hz : (l7.length : Int) = 0 := by omega
            have hne : ¬ (l2.length : Int) = 0 := by omega
            simp only [if_pos h3, if_neg hne, hz]
            refine Ev.bind (g := fun _ t138 => if t138 = true then some ((0 : Int) == 0) else some false) (a := true) ?_ (Ev.const _)
            exact ev_chars l2 hl l2.length 0 (by omega) hb.1
          · simp only [if_neg h3]
            by_cases h4 : a0 = 4
            · rw [if_neg h3, if_pos h4] at hb
              have hz : (l7.length : Int) = 0 := by omega
              simp only [if_pos h4, hz]
              refine Ev.bind (g := fun _ t139 => if t139 = true then some ((0 : Int) == 0) else some false) (a := true) ?_ (Ev.const _)
              unfold cls at hb
              by_cases he : (l2.length : Int) % 2 = 0
              · rw [if_pos he] at hb
                exact ev_pairs l2 hl (by omega) (l2.length / 2) 0 (-1) (by omega) hb
              · rw [if_neg he] at hb; cases hb
            · simp only [if_neg h4]
              by_cases h13 : a0 = 13
              · obtain ⟨c1, c2⟩ := hc h13
                have q1 : ¬ a5 < 1 := by omega
                have q2 : ¬ a5 > 1000 := by omega
                have hz : (l7.length : Int) = 1 := by omega
                simp only [if_pos h13, if_neg q1, if_neg q2, hz]
                exact Ev.const _
              · simp only [if_neg h13]
                by_cases h14 : a0 = 14
                · simp only [if_pos h14]; exact hj1 _ (by omega) (fun _ => by omega) (fun _ => by omega) (fun e => by simp [h14] at e)
                · simp only [if_neg h14]
                  by_cases h15 : a0 = 15
                  · simp only [if_pos h15]; exact hj1 _ (by omega) (fun _ => by omega) (fun _ => by omega) (fun e => by simp [h15] at e)
                  · simp only [if_neg h15]
                    exact hj1 _ (by omega) (fun e => by have := beq_iff_eq.1 e; omega) (fun _ => by omega) (fun e => by have := beq_eq_false_iff_ne.1 e; omega)
      simp only [impl_sound.f]
      by_cases e1 : a0 = 1
      · simp only [if_pos e1]; exact hj0 _ (fun _ => by omega) (fun e => by simp [e1] at e)
      · simp only [if_neg e1]
        by_cases e2 : a0 = 2
        · simp only [if_pos e2]; exact hj0 _ (fun _ => by omega) (fun e => by simp [e2] at e)
        · simp only [if_neg e2]
          by_cases e5 : a0 = 5
          · simp only [if_pos e5]; exact hj0 _ (fun _ => by omega) (fun e => by simp [e5] at e)
          · simp only [if_neg e5]
            by_cases e6 : a0 = 6
            · simp only [if_pos e6]; exact hj0 _ (fun _ => by omega) (fun e => by simp [e6] at e)
            · simp only [if_neg e6]
              by_cases e7 : a0 = 7
              · simp only [if_pos e7]; exact hj0 _ (fun _ => by omega) (fun e => by simp [e7] at e)
              · simp only [if_neg e7]
                by_cases e8 : a0 = 8
                · simp only [if_pos e8]; exact hj0 _ (fun _ => by omega) (fun e => by simp [e8] at e)
                · simp only [if_neg e8]
                  by_cases e9 : a0 = 9
                  · simp only [if_pos e9]; exact hj0 _ (fun _ => by omega) (fun e => by simp [e9] at e)
                  · simp only [if_neg e9]
                    by_cases e10 : a0 = 10
                    · simp only [if_pos e10]; exact hj0 _ (fun _ => by omega) (fun e => by simp [e10] at e)
                    · simp only [if_neg e10]
                      by_cases e11 : a0 = 11
                      · simp only [if_pos e11]; exact hj0 _ (fun _ => by omega) (fun e => by simp [e11] at e)
                      · simp only [if_neg e11]
                        exact hj0 _ (fun e => by have := beq_iff_eq.1 e; omega) (fun e => by have := beq_eq_false_iff_ne.1 e; omega)

/-- What a sound tree is. -/
structure Sound (x : Int) (t : T) : Prop where
  alls : AllS t
  dep : dep t ≤ 100
  cnt : 2 * (cnt t : Int) ≤ x
  cop : cop t + 1 ≤ x
  node : AllN (fun t => nodeB t = true) t
  caps : AllN (fun s => s.f0 = 13 → 1 ≤ s.f5 ∧ s.f5 ≤ TrFnMtLeast.cnt t) t

theorem sound_says (t : T) (hT : TW t) (x : Int) (hx : 0 ≤ x ∧ x ≤ 2000) (h : sound t x = true) : Sound x t := by
  unfold sound at h
  by_cases h1 : sds t 100 = true
  · rw [if_pos h1] at h
    by_cases h2 : caps t 1 > 0
    · rw [if_pos h2, decide_eq_true_eq] at h
      obtain ⟨_, d1, d2⟩ := sds_says t 100 (by omega) h1
      obtain ⟨s1, s2⟩ := (siz_says x (by omega) t hT d2).2 h
      obtain ⟨c1, c2, c3⟩ := caps_says t 1 (by omega) (by omega) (by omega)
      have hcap : AllN (fun s => s.f0 = 13 → 1 ≤ s.f5 ∧ s.f5 ≤ TrFnMtLeast.cnt t) t := AllN.mono (fun t' ht e => by have := ht e; omega) _ c3
      refine ⟨?_, by omega, by omega, by omega, d2, hcap⟩
      have hcap2 : AllN (fun s => s.f0 = 13 → 1 ≤ s.f5 ∧ s.f5 ≤ 1000) t := AllN.mono (fun t' ht e => by have := ht e; omega) _ c3
      clear h s1 s2 c1 c2 c3 hcap d1 h1 h2
      revert hT d2 hcap2
      refine tree_ind (p := fun t => TW t → AllN (fun t => nodeB t = true) t → AllN (fun s => s.f0 = 13 → 1 ≤ s.f5 ∧ s.f5 ≤ 1000) t → AllS t) ?_ t
      intro t ih hT d2 hc
      refine .mk t ?_ fun s hs => ih s hs (hT.sub s hs) (d2.sub s hs) (hc.sub s hs)
      obtain ⟨K, hK⟩ := node_sound t.f0 t.f1 t.f2 t.f3 t.f4 t.f5 t.f6 t.f7 d2.self hc.self hT.l2
      exact ⟨K, hK K (Nat.le_refl _)⟩
    · rw [if_neg h2] at h; cases h
  · rw [if_neg h1] at h; cases h

end Go.Proofs.YtofkpinikkfmeaaDoor.TrFnMtLeast
