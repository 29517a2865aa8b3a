/- What a sound tree is. No walk. -/
import Derived.Test.YtofkpinikkfmeaaDoorPtFnMtLeast
namespace Go.Proofs.YtofkpinikkfmeaaDoor.TrFnMtLeast
open Go.RowKit Go.Proofs.YtofkpinikkfmeaaDoor.PFnMtLeast Go.Proofs.YtofkpinikkfmeaaDoorW.PrintWords Go.Proofs.YtofkpinikkfmeaaDoorW.PrintLast Go.Proofs.YtofkpinikkfmeaaDoorW.PrintMore

/-- What each node of a tree is. -/
inductive AllN (p : T → Prop) : T → Prop
  | mk (t : T) (h : p t) (hs : ∀ s ∈ t.f7, AllN p s) : AllN p t
theorem AllN.self {p : T → Prop} {t : T} (h : AllN p t) : p t := by cases h; assumption
theorem AllN.sub {p : T → Prop} {t : T} (h : AllN p t) : ∀ s ∈ t.f7, AllN p s := by cases h; assumption
theorem AllN.mono {p q : T → Prop} (hpq : ∀ t, p t → q t) (t : T) : AllN p t → AllN q t := by
  refine tree_ind (p := fun t => AllN p t → AllN q t) ?_ t
  intro t ih h
  exact .mk t (hpq t h.self) fun s hs => ih s hs (h.sub s hs)
theorem AllN.and {p q : T → Prop} (t : T) : AllN p t → AllN q t → AllN (fun t => p t ∧ q t) t := by
  refine tree_ind (p := fun t => AllN p t → AllN q t → AllN (fun t => p t ∧ q t) t) ?_ t
  intro t ih h g
  exact .mk t ⟨h.self, g.self⟩ fun s hs => ih s hs (h.sub s hs) (g.sub s hs)

theorem sdsL_mem (l : List T) (n : Int) (h : sdsL l n = true) : ∀ s ∈ l, sds s n = true := by
  induction l with
  | nil => intro s hs; cases hs
  | cons a l ih =>
    intro s hs
    rw [sdsL] at h
    by_cases ha : sds a n = true
    · rw [if_pos ha] at h
      rcases List.mem_cons.1 hs with rfl | hs
      · exact ha
      · exact ih h s hs
    · rw [if_neg ha] at h; cases h

theorem depL_le (l : List T) (n : Nat) (h : ∀ s ∈ l, dep s + 1 ≤ n) : depL l ≤ n := by
  induction l with
  | nil => rw [depL]; omega
  | cons a l ih =>
    rw [depL]
    have := h a (by simp)
    have := ih fun s hs => h s (by simp [hs])
    omega

theorem sds_says (t : T) : ∀ n : Int, n ≤ 1000 → sds t n = true → 0 ≤ n ∧ (dep t : Int) ≤ n ∧ AllN (fun t => nodeB t = true) t := by
  refine tree_ind (p := fun t => ∀ n : Int, n ≤ 1000 → sds t n = true → 0 ≤ n ∧ (dep t : Int) ≤ n ∧ AllN (fun t => nodeB t = true) t) ?_ t
  intro t ih n hn h
  rw [sds_eq] at h
  by_cases h0 : n < 0
  · rw [if_pos h0] at h; cases h
  · rw [if_neg h0] at h
    by_cases hb : nodeB t = true
    · rw [if_pos hb] at h
      have hw : wrap64 (n - 1) = n - 1 := by unfold wrap64; omega
      rw [hw] at h
      have hm := sdsL_mem _ _ h
      refine ⟨by omega, ?_, .mk t hb fun s hs => (ih s hs (n - 1) (by omega) (hm s hs)).2.2⟩
      rw [dep_eq]
      have := depL_le t.f7 n.toNat fun s hs => by
        obtain ⟨h1, h2, _⟩ := ih s hs (n - 1) (by omega) (hm s hs)
        omega
      omega
    · rw [if_neg hb] at h; cases h

theorem mn_eq (a b : Int) : mn a b = if b < a then b else a := rfl
theorem mx_eq (a b : Int) : mx a b = if a < b then b else a := rfl
theorem w64 (n : Int) (h : -1000000000000000 ≤ n ∧ n ≤ 1000000000000000) : wrap64 n = n := by unfold wrap64; omega

theorem sizL_says (x : Int) (hx : 0 ≤ x ∧ x ≤ 100000) (l : List T) (hr : ∀ s ∈ l, 0 ≤ siz s x ∧ siz s x ≤ x + 1) (hv : ∀ s ∈ l, siz s x ≤ x → 2 * (cnt s : Int) ≤ siz s x ∧ cop s + 1 ≤ siz s x) :
    ∀ s : Int, 0 ≤ s → s ≤ x + 1 → 0 ≤ sizL x s l ∧ s ≤ sizL x s l ∧ sizL x s l ≤ x + 1 ∧ (sizL x s l ≤ x → s + 2 * (cntL l : Int) ≤ sizL x s l ∧ s + copL l ≤ sizL x s l) := by
  induction l with
  | nil => intro s h0 h1; simp only [sizL, cntL, copL]; omega
  | cons a l ih =>
    intro s h0 h1
    have ha := hr a (by simp)
    have hb := hv a (by simp)
    have e : mn (wrap64 (s + siz a x)) (wrap64 (x + 1)) = if x + 1 < s + siz a x then x + 1 else s + siz a x := by
      rw [w64 _ (by omega), w64 _ (by omega), mn_eq]
    simp only [sizL, cntL, copL, e]
    have := ih (fun s hs => hr s (by simp [hs])) (fun s hs => hv s (by simp [hs])) (if x + 1 < s + siz a x then x + 1 else s + siz a x) (by split <;> omega) (by split <;> omega)
    obtain ⟨g1, g2, g3, g4⟩ := this
    refine ⟨g1, ?_, g3, fun hle => ?_⟩
    · split at g2 <;> omega
    · obtain ⟨k1, k2⟩ := g4 hle
      have hs : ¬ x + 1 < s + siz a x := by
        intro hc
        rw [if_pos hc] at g2 hle
        omega
      rw [if_neg hs] at g2 k1 k2 hle ⊢
      have := hb (by omega)
      omega

theorem mul_le_of (a b c d : Int) (h1 : a ≤ b) (h2 : c ≤ d) (h3 : 0 ≤ b) (h4 : 0 ≤ c) : a * c ≤ b * d := Int.mul_le_mul h1 h2 h4 h3

theorem siz_says (x : Int) (hx : 0 ≤ x ∧ x ≤ 100000) (t : T) : TW t → AllN (fun t => nodeB t = true) t → (0 ≤ siz t x ∧ siz t x ≤ x + 1) ∧ (siz t x ≤ x → 2 * (cnt t : Int) ≤ siz t x ∧ cop t + 1 ≤ siz t x) := by
  refine tree_ind (p := fun t => TW t → AllN (fun t => nodeB t = true) t → (0 ≤ siz t x ∧ siz t x ≤ x + 1) ∧ (siz t x ≤ x → 2 * (cnt t : Int) ≤ siz t x ∧ cop t + 1 ≤ siz t x)) ?_ t
  intro t ih hT hA
  have hn := hA.self
  obtain ⟨s0, _, s2, s3⟩ := sizL_says x hx t.f7 (fun s hs => (ih s hs (hT.sub s hs) (hA.sub s hs)).1) (fun s hs => (ih s hs (hT.sub s hs) (hA.sub s hs)).2) 0 (by omega) (by omega)
  have l2 : t.f2.length * 4 ≤ 140737488351232 := by cases hT; assumption
  have l7 : t.f7.length * 104 ≤ 140737488351232 := by cases hT; assumption
  rw [siz_eq, cnt_eq, cop_eq]
  generalize sizL x 0 t.f7 = S at *
  have hcp := copL_pos t.f7
  have hmul := mul_pos t
  unfold sizF
  by_cases h17 : t.f0 = 17
  · rw [if_pos h17]
    have hb : 0 ≤ t.f3 ∧ t.f3 ≤ 1000 ∧ (t.f4 = -1 ∨ t.f3 ≤ t.f4 ∧ t.f4 ≤ 1000) := by
      unfold nodeB at hn
      split at hn
      · cases hn
      · split at hn
        · cases hn
        · first | rw [if_neg (by omega), if_neg (by omega), if_pos h17] at hn | rw [if_neg (by omega), if_neg (by omega)] at hn
          simp only [Bool.and_eq_true, Bool.or_eq_true, decide_eq_true_eq] at hn
          exact ⟨hn.1.1, hn.1.2, hn.2⟩
    obtain ⟨b1, b2, b3⟩ := hb
    have hM : mul t ≤ mx (mx (wrap64 (t.f3 + 1)) t.f4) 1 ∧ mx (mx (wrap64 (t.f3 + 1)) t.f4) 1 ≤ 1001 ∧ 1 ≤ mx (mx (wrap64 (t.f3 + 1)) t.f4) 1 := by
      unfold mul
      rw [if_pos h17, w64 _ (by omega), mx_eq, mx_eq]
      repeat' split
      all_goals omega
    generalize mx (mx (wrap64 (t.f3 + 1)) t.f4) 1 = M at *
    obtain ⟨m1, m2, m3⟩ := hM
    rw [w64 (S + 1) (by omega), w64 (x + 1) (by omega)]
    have p1 : (S + 1) * M ≤ (x + 2) * 1001 := Int.mul_le_mul (by omega) m2 (by omega) (by omega)
    have p2 : (S + 1) * 1 ≤ (S + 1) * M := Int.mul_le_mul_of_nonneg_left m3 (by omega)
    have p3 : (S + 1) * mul t ≤ (S + 1) * M := Int.mul_le_mul_of_nonneg_left m1 (by omega)
    generalize (S + 1) * M = Q at *
    rw [w64 Q (by omega), mn_eq, mn_eq]
    have hq : (if x + 1 < Q then x + 1 else Q) ≤ x + 1 ∧ 0 ≤ (if x + 1 < Q then x + 1 else Q) := by split <;> omega
    rw [w64 ((if x + 1 < Q then x + 1 else Q) + 2) (by omega)]
    refine ⟨by repeat' split <;> omega, fun hle => ?_⟩
    have hS : S ≤ x := by
      rcases Int.lt_or_le x S with h | h
      · repeat' split at hle
        all_goals omega
      · exact h
    obtain ⟨k1, k2⟩ := s3 hS
    have p4 : (1 + copL t.f7) * mul t ≤ (S + 1) * mul t := Int.mul_le_mul_of_nonneg_right (by omega) (by omega)
    generalize (1 + copL t.f7) * mul t = U at *
    generalize (S + 1) * mul t = V at *
    repeat' split at hle
    all_goals first
      | omega
      | (repeat' split
         all_goals (refine ⟨?_, ?_⟩ <;> omega))
  · rw [if_neg h17]
    have hm1 : mul t = 1 := by unfold mul; rw [if_neg h17]
    rw [hm1, Int.mul_one]
    by_cases h3 : t.f0 = 3
    · rw [if_pos h3]
      have hz : t.f7 = [] := by
        unfold nodeB at hn
        split at hn
        · cases hn
        · split at hn
          · cases hn
          · rename_i g1 g2
            have ha : ar t.f0 = (0, 0) := by rw [h3]; rfl
            rw [ha] at g2
            refine List.eq_nil_of_length_eq_zero ?_
            simp only at g2
            omega
      rw [hz]
      simp only [cntL, copL]
      rw [w64 _ (by omega), w64 _ (by omega), mn_eq]
      refine ⟨by split <;> omega, fun hle => ?_⟩
      split <;> (refine ⟨?_, ?_⟩ <;> first | omega | (split at hle <;> omega))
    · rw [if_neg h3]
      by_cases h19 : t.f0 = 19
      · rw [if_pos h19]
        rw [w64 (S + _) (by omega), w64 _ (by omega), w64 _ (by omega), mn_eq]
        refine ⟨by split <;> omega, fun hle => ?_⟩
        split at hle
        · omega
        · rename_i hns
          rw [if_neg hns]
          obtain ⟨k1, k2⟩ := s3 (by omega)
          omega
      · rw [if_neg h19]
        rw [w64 _ (by omega), w64 _ (by omega), mn_eq]
        refine ⟨by split <;> omega, fun hle => ?_⟩
        split at hle
        · omega
        · rename_i hns
          rw [if_neg hns]
          obtain ⟨k1, k2⟩ := s3 (by omega)
          omega

end Go.Proofs.YtofkpinikkfmeaaDoor.TrFnMtLeast
