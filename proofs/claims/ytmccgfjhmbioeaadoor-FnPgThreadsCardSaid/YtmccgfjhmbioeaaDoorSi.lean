import Derived.Test.YtmccgfjhmbioeaaDoorSh
namespace Go.Proofs.YtmccgfjhmbioeaaDoor.Sf
open Go Go.RowKit Go.Proofs.YtmccgfjhmbioeaaDoor.Row Go.Proofs.YtmccgfjhmbioeaaDoorW.PrintWords
set_option linter.unusedVariables false
set_option linter.unusedSimpArgs false
def fdF : Nat → Nat → Nat → Int → Bool
  | 0, _, _, _ => false
  | n + 1, a, c, b => if c = a then false else if (c : Int) = b then true else fdF n a (sfN c) b
theorem fdF_succ (n a c : Nat) (b : Int) : fdF (n + 1) a c b = if c = a then false else if (c : Int) = b then true else fdF n a (sfN c) b := rfl
def foldsB (a : Nat) (b : Int) : Bool := if (a : Int) = b then true else fdF 4 a (sfN a) b
set_option maxRecDepth 100000 in
set_option maxHeartbeats 4000000 in
theorem refolds_calls (w : World) (a : Nat) (ha : a ≤ 1114111) (b : Int) (hF : Folds w) :
    Calls Tryd.prog 50 #[.int .i32 (a : Int), .int .i32 b] w fun e w' => e = .returned (.bool (foldsB a b)) ∧ ∃ n, w' = w.drewN n := by
  have HF := Lib.hid hF
  clear hF
  unfold foldsB
  by_cases hab : (a : Int) = b
  · subst hab
    rw [if_pos rfl]
    go_enter Tryd.func50, Tryd.ntmps50
    go_wp2_with fail
    go_ret
    exact ⟨rfl, 0, rfl⟩
  · rw [if_neg hab]
    have hd0 : ((a : Int) == b) = false := by rw [beq_eq_false_iff_ne]; exact hab
    go_enter Tryd.func50, Tryd.ntmps50
    go_wp2_with fail
    refine (fold_calls w a ha HF.out).mono ?_
    rintro e w1 ⟨rfl, n1, rfl⟩
    go_wp2_with fail
    go_loopg [5] 4 (fun gk s5 wr => ∃ (c m : Nat), Hid (c ≤ 1114111 ∧ (∃ q, q + 1 ≤ gk ∧ it q c = a) ∧ fdF 4 a (sfN a) b = fdF gk a c b) ∧ s5 = .int .i32 (c : Int) ∧ wr = w.drewN m)
    case atStart =>
      obtain ⟨m, m1, m2, m3, m4, m5⟩ := orbit a ha
      refine ⟨sfN a, n1, ⟨sfN_le a ha, ⟨m - 1, by omega, ?_⟩, rfl⟩, rfl, rfl⟩
      rw [← it_succ, show m - 1 + 1 = m by omega]; exact m3
    case round =>
      obtain ⟨c, m, HI, rfl, rfl⟩ := hrel
      by_cases hca : c = a
      · have hd1 : ((c : Int) != (a : Int)) = false := by rw [hca]; simp
        have hd2 : (c != a) = false := by rw [hca]; simp
        go_wp2_with fail
        go_ret
        have h := HI.out.2.2
        obtain ⟨q, hq, _⟩ := HI.out.2.1
        obtain ⟨g, rfl⟩ : ∃ g, gk = g + 1 := ⟨gk - 1, by omega⟩
        rw [fdF_succ g, if_pos hca] at h
        exact ⟨by rw [h]; rfl, m, rfl⟩
      · have hd1 : ((c : Int) != (a : Int)) = true := by simpa using fun e : (c : Int) = a => hca (by omega)
        have hd2 : (c != a) = true := by simpa using hca
        by_cases hcb : (c : Int) = b
        · have hd3 : ((c : Int) == b) = true := by simpa using hcb
          go_wp2_with fail
          go_ret
          have h := HI.out.2.2
          obtain ⟨q, hq, _⟩ := HI.out.2.1
          obtain ⟨g, rfl⟩ : ∃ g, gk = g + 1 := ⟨gk - 1, by omega⟩
          rw [fdF_succ g, if_neg hca, if_pos hcb] at h
          exact ⟨by rw [h]; rfl, m, rfl⟩
        · have hd3 : ((c : Int) == b) = false := by simpa using hcb
          go_wp2_with fail
          refine (fold_calls (w.drewN m) c HI.out.1 (HF.out.below (pw_below_drewN (Below.refl _ w) m))).mono ?_
          rintro e w2 ⟨rfl, n2, rfl⟩
          go_wp2_with fail
          go_roundg (gk - 1)
          case measure =>
            obtain ⟨q, hq, _⟩ := HI.out.2.1
            omega
          case rel =>
            obtain ⟨hc, ⟨q, hq, hit⟩, h⟩ := HI.out
            obtain ⟨g, rfl⟩ : ∃ g, gk = g + 1 := ⟨gk - 1, by omega⟩
            have hq1 : q ≠ 0 := fun e => by subst e; exact hca hit
            obtain ⟨q, rfl⟩ : ∃ q', q = q' + 1 := ⟨q - 1, by omega⟩
            rw [it_succ] at hit
            rw [fdF_succ g, if_neg hca, if_neg hcb] at h
            exact ⟨sfN c, m + n2, ⟨sfN_le c hc, ⟨q, by omega, hit⟩, h⟩, rfl, rfl⟩
end Go.Proofs.YtmccgfjhmbioeaaDoor.Sf
