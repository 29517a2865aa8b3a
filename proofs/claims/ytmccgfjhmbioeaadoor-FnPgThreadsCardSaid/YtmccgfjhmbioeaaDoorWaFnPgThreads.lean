import Derived.Test.YtmccgfjhmbioeaaDoorVxFnPgThreads
import Derived.Test.YtmccgfjhmbioeaaDoorFiFnPgThreads
namespace Go.Proofs.YtmccgfjhmbioeaaDoor.PgFnPgThreads
open Go.RowKit Go.Proofs.YtmccgfjhmbioeaaDoor.EvN Go.Proofs.YtmccgfjhmbioeaaDoor.Row Go.Proofs.YtmccgfjhmbioeaaDoor.PFnPgThreads Go.Proofs.YtmccgfjhmbioeaaDoorW.PrintWords Go.Proofs.YtmccgfjhmbioeaaDoorW.PrintLast Go.Proofs.YtmccgfjhmbioeaaDoorW.PrintMore
def aFl (L : List I) (cond pos : Int) (C : List Int) (A : List Ae) (pcs : List Nat) : List Ae := pcs.foldl (fun A pc => A ++ aF L cond pos (L.length + 1) (A.map Prod.fst) pc C) A
theorem aF_waits (L : List I) (cond pos : Int) : ∀ (n : Nat) (D : List Nat) (pc : Nat) (C : List Int), ∀ a ∈ aF L cond pos n D pc C, a.2.isSome = waitsB (ins L a.1) := by
  intro n
  induction n with
  | zero => intro D pc C a h; simp [aF] at h
  | succ n ih =>
    intro D pc C a h
    rw [aF] at h
    by_cases h0 : pc = 0 ∨ pc ∈ D
    · rw [if_pos h0] at h; cases h
    · rw [if_neg h0] at h
      by_cases g0 : (ins L pc).f0 = 0
      · rw [if_pos g0] at h
        rcases List.mem_cons.1 h with rfl | h
        · simp [waitsB, g0]
        · rcases List.mem_append.1 h with h | h <;> exact ih _ _ _ a h
      · rw [if_neg g0] at h
        by_cases g6 : (ins L pc).f0 = 6
        · rw [if_pos g6] at h
          rcases List.mem_cons.1 h with rfl | h
          · simp [waitsB, g6]
          · exact ih _ _ _ a h
        · rw [if_neg g6] at h
          by_cases g2 : (ins L pc).f0 = 2
          · rw [if_pos g2] at h
            rcases List.mem_cons.1 h with rfl | h
            · simp [waitsB, g2]
            · exact ih _ _ _ a h
          · rw [if_neg g2] at h
            by_cases g3 : (ins L pc).f0 = 3
            · rw [if_pos g3] at h
              rcases List.mem_cons.1 h with rfl | h
              · simp [waitsB, g3]
              · by_cases hh : holds cond (ins L pc).f2 = true
                · rw [if_pos hh] at h; exact ih _ _ _ a h
                · rw [if_neg hh] at h; cases h
            · rw [if_neg g3] at h
              by_cases g5 : (ins L pc).f0 = 5
              · rw [if_pos g5] at h
                rcases List.mem_cons.1 h with rfl | h
                · simp [waitsB, g5]
                · cases h
              · rw [if_neg g5] at h
                rcases List.mem_cons.1 h with rfl | h
                · simp [waitsB, g0, g6, g2, g3, g5]
                · cases h
end Go.Proofs.YtmccgfjhmbioeaaDoor.PgFnPgThreads
