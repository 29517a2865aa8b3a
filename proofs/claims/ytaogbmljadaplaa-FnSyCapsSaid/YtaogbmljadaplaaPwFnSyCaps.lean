/- The groups' number and names, both ways. No walk. -/
import Derived.Test.YtaogbmljadaplaaPvFnSyCaps
import Derived.Test.YtaogbmljadaplaaSxFnSyCaps
namespace Go.Proofs.Ytaogbmljadaplaa.TrFnSyCaps
open Go.RowKit Go.Proofs.Ytaogbmljadaplaa.PFnSyCaps Go.Proofs.YtaogbmljadaplaaW.PrintWords Go.Proofs.YtaogbmljadaplaaW.PrintLast Go.Proofs.YtaogbmljadaplaaW.PrintMore

theorem node_op {t : T} (h : nodeB t = true) : 1 ≤ t.f0 ∧ t.f0 ≤ 19 := by
  unfold nodeB at h
  split at h
  · cases h
  · rename_i g1
    split at h
    · cases h
    · rename_i g2
      have := ar_cases t.f0 (t.f7.length : Int) (by omega) g1 g2
      omega

abbrev cap0 (t : T) : Int := if t.f0 % 256 = 13 then t.f5 else 0
abbrev GoodC (N : Int) (t : T) : Prop := (1 ≤ t.f0 ∧ t.f0 ≤ 19) ∧ (t.f0 = 13 → 1 ≤ t.f5 ∧ t.f5 ≤ N)

theorem mcL_nil (a : Int) : mcL a [] = a := by rw [mcL]
theorem mcL_cons (a : Int) (s : T) (l : List T) : mcL a (s :: l) = mcL (if a < mc s then mc s else a) l := by rw [mcL]
theorem mcL_max (l : List T) (a b : Int) : mcL (if a < b then b else a) l = if a < mcL b l then mcL b l else a := by
  induction l generalizing b with
  | nil => rw [mcL_nil, mcL_nil]
  | cons s l ih =>
    rw [mcL_cons, mcL_cons, ← ih]
    congr 1
    repeat' split
    all_goals omega
theorem mcL_ge (l : List T) (a : Int) : a ≤ mcL a l ∧ ∀ s ∈ l, mc s ≤ mcL a l := by
  induction l generalizing a with
  | nil => rw [mcL_nil]; exact ⟨by omega, fun s hs => by cases hs⟩
  | cons s l ih =>
    rw [mcL_cons]
    obtain ⟨h1, h2⟩ := ih (if a < mc s then mc s else a)
    have h3 : a ≤ (if a < mc s then mc s else a) ∧ mc s ≤ (if a < mc s then mc s else a) := by split <;> omega
    refine ⟨by omega, fun s' hs' => ?_⟩
    rcases List.mem_cons.1 hs' with rfl | hs'
    · omega
    · exact h2 s' hs'
theorem mcL_le (l : List T) (a N : Int) (h : a ≤ N) (hs : ∀ s ∈ l, mc s ≤ N) : mcL a l ≤ N := by
  induction l generalizing a with
  | nil => rw [mcL_nil]; exact h
  | cons s l ih =>
    rw [mcL_cons]
    have := hs s (by simp)
    exact ih _ (by split <;> omega) fun s' h' => hs s' (by simp [h'])

theorem mc_says (N : Int) (hN : 0 ≤ N) (t : T) : AllN (GoodC N) t → (0 ≤ mc t ∧ mc t ≤ N) ∧ (∀ m, 0 ≤ m → wk stM t m = if m < mc t then mc t else m) ∧ AllT (fun s => s.f0 = 13 → s.f5 ≤ mc t) t ∧ CapsIn (mc t + 1) t := by
  refine tree_ind (p := fun t => AllN (GoodC N) t → (0 ≤ mc t ∧ mc t ≤ N) ∧ (∀ m, 0 ≤ m → wk stM t m = if m < mc t then mc t else m) ∧ AllT (fun s => s.f0 = 13 → s.f5 ≤ mc t) t ∧ CapsIn (mc t + 1) t) ?_ t
  intro t ih h
  obtain ⟨⟨o1, o2⟩, hc⟩ := h.self
  have hI := fun s hs => ih s hs (h.sub s hs)
  have h0 : 0 ≤ cap0 t ∧ cap0 t ≤ N := by
    unfold cap0
    split
    · have := hc (by omega); omega
    · omega
  have e : mc t = mcL (cap0 t) t.f7 := mc_eq t
  obtain ⟨g1, g2⟩ := mcL_ge t.f7 (cap0 t)
  have g3 := mcL_le t.f7 (cap0 t) N h0.2 fun s hs => (hI s hs).1.2
  have hw : ∀ (l : List T), (∀ s ∈ l, 0 ≤ mc s ∧ ∀ m, 0 ≤ m → wk stM s m = if m < mc s then mc s else m) → ∀ m, 0 ≤ m → wkL stM l m = mcL m l := by
    intro l
    induction l with
    | nil => intro _ m _; rw [wkL, mcL]
    | cons a l ihl =>
      intro ha m hm
      rw [wkL, mcL, (ha a (by simp)).2 m hm]
      exact ihl (fun s hs => ha s (by simp [hs])) _ (by split <;> omega)
  have hcap : ∀ n : Int, CapsIn n t ↔ ((t.f0 % 256 = 13 → 0 ≤ t.f5 ∧ t.f5 < n) ∧ ∀ s ∈ t.f7, CapsIn n s) := fun n => ⟨fun h => by cases h; exact ⟨by assumption, by assumption⟩, fun h => .mk t h.1 h.2⟩
  have mono1 : ∀ (n m : Int) (_ : n ≤ m) (s : T), CapsIn n s → CapsIn m s := by
    intro n m hnm s
    refine tree_ind (p := fun s => CapsIn n s → CapsIn m s) ?_ s
    intro s ihs hcs
    cases hcs with
    | mk _ a b => exact .mk s (fun e => by have := a e; omega) fun s' h' => ihs s' h' (b s' h')
  have mono2 : ∀ (n m : Int) (_ : n ≤ m) (s : T), AllT (fun s => s.f0 = 13 → s.f5 ≤ n) s → AllT (fun s => s.f0 = 13 → s.f5 ≤ m) s := by
    intro n m hnm s
    refine tree_ind (p := fun s => AllT (fun s => s.f0 = 13 → s.f5 ≤ n) s → AllT (fun s => s.f0 = 13 → s.f5 ≤ m) s) ?_ s
    intro s ihs hcs
    cases hcs with
    | mk _ a b => exact .mk s (fun e => by have := a e; omega) fun s' h' => ihs s' h' (b s' h')
  have hown : t.f0 % 256 = 13 → t.f5 ≤ mc t := fun h13 => by
    rw [e]
    have : cap0 t = t.f5 := by unfold cap0; rw [if_pos h13]
    omega
  refine ⟨by omega, fun m hm => ?_, .mk t (fun h13 => hown (by omega)) fun s hs => ?_, .mk t (fun h13 => ?_) fun s hs => ?_⟩
  · rw [wk_eq, hw t.f7 (fun s hs => ⟨(hI s hs).1.1, (hI s hs).2.1⟩) _ ?_]
    · have hs : stM t m = if m < cap0 t then cap0 t else m := by
        unfold stM
        by_cases h13 : t.f0 = 13
        · have hc0 : cap0 t = t.f5 := by unfold cap0; rw [if_pos (by omega)]
          rw [if_pos h13, hc0]
        · have hc0 : cap0 t = 0 := by unfold cap0; rw [if_neg (by omega)]
          rw [if_neg h13, hc0, if_neg (by omega)]
      rw [hs, mcL_max, ← e]
    · unfold stM
      split
      · have := hc (by assumption); split <;> omega
      · exact hm
  · exact mono2 (mc s) (mc t) (by rw [e]; exact g2 s hs) s (hI s hs).2.2.1
  · have := hc (by omega)
    have := hown h13
    omega
  · exact mono1 (mc s + 1) (mc t + 1) (by have := g2 s hs; omega) s (hI s hs).2.2.2

theorem cn_says (N : Int) (t : T) : AllN (GoodC N) t → ∀ ns, wk stN t ns = cn ns t := by
  refine tree_ind (p := fun t => AllN (GoodC N) t → ∀ ns, wk stN t ns = cn ns t) ?_ t
  intro t ih h ns
  obtain ⟨⟨o1, o2⟩, hc⟩ := h.self
  have hw : ∀ (l : List T), (∀ s ∈ l, ∀ m, wk stN s m = cn m s) → ∀ m, wkL stN l m = cnL m l := by
    intro l
    induction l with
    | nil => intro _ m; rw [wkL, cnL]
    | cons a l ihl =>
      intro ha m
      rw [wkL, cnL, ha a (by simp) m]
      exact ihl (fun s hs => ha s (by simp [hs])) _
  rw [wk_eq, cn_eq, hw t.f7 (fun s hs => ih s hs (h.sub s hs))]
  congr 1
  unfold stN
  by_cases h13 : t.f0 = 13
  · have := hc h13
    rw [if_pos h13, if_pos (by omega), if_pos (by omega)]
  · rw [if_neg h13, if_neg (by omega)]

/-- All that the law of the groups asks of a sound tree. -/
theorem groups (t : T) (x : Int) (hx : x ≤ 2000) (h : Sound x t) : 0 ≤ mc t ∧ mc t ≤ 2000 ∧ wk stM t 0 = mc t ∧ CapsIn (mc t + 1) t ∧ AllT (fun s => s.f0 = 13 → s.f5 < wk stM t 0 + 1) t ∧ ∀ ns, wk stN t ns = cn ns t := by
  have hg : AllN (GoodC 2000) t := AllN.mono (fun s hs => ⟨node_op hs.1, fun e => by have := hs.2 e; have := h.cnt; omega⟩) t (AllN.and t h.node h.caps)
  obtain ⟨⟨a1, a2⟩, a3, a4, a5⟩ := mc_says 2000 (by omega) t hg
  have e := a3 0 (by omega)
  have e2 : wk stM t 0 = mc t := by rw [e]; split <;> omega
  refine ⟨a1, a2, e2, a5, ?_, cn_says 2000 t hg⟩
  rw [e2]
  clear e e2 a3 a5 hg
  generalize mc t = m at *
  revert a4
  refine tree_ind (p := fun t => AllT (fun s => s.f0 = 13 → s.f5 ≤ m) t → AllT (fun s => s.f0 = 13 → s.f5 < m + 1) t) ?_ t
  intro s ihs hcs
  cases hcs with
  | mk _ a b => exact .mk s (fun e => by have := a e; omega) fun s' h' => ihs s' h' (b s' h')

end Go.Proofs.Ytaogbmljadaplaa.TrFnSyCaps
