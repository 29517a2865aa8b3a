import Derived.Test.YteoljppcafakpaaDoorNcFnPgSpan
import Derived.WalkMore
import Derived.ScopeJumps
namespace Go.Proofs.YteoljppcafakpaaDoor.PgFnPgSpan
open Go.RowKit Go.Proofs.YteoljppcafakpaaDoor.EvN Go.Proofs.YteoljppcafakpaaDoor.Row Go.Proofs.YteoljppcafakpaaDoor.PFnPgSpan Go.Proofs.YteoljppcafakpaaDoorW.PrintWords Go.Proofs.YteoljppcafakpaaDoorW.PrintLast Go.Proofs.YteoljppcafakpaaDoorW.PrintMore
theorem pinst_at {w : World} {p : Nat} {L : List I} {st nc : Int} (h : ProgAt w p L st nc) (h1 : 1 ≤ L.length) : ∃ ad cap, w.heap[p]? = some (.cells #[.slice (some ad) L.length cap, .int .i64 st, .int .i64 nc] 83 (0, 0)) ∧ L.length ≤ cap ∧ L.length ≤ 9223372036854775807 ∧
    ∀ k, k < L.length → ∃ A3 c3, w.cell? (ad.add (k * 4)) = some (.int .u8 (pin (ins L k)).f0) ∧ w.cell? ⟨(ad.add (k * 4)).block, (ad.add (k * 4)).off + 1, none⟩ = some (.int .u32 (pin (ins L k)).f1) ∧ w.cell? ⟨(ad.add (k * 4)).block, (ad.add (k * 4)).off + 2, none⟩ = some (.int .u32 (pin (ins L k)).f2) ∧ w.cell? ⟨(ad.add (k * 4)).block, (ad.add (k * 4)).off + 3, none⟩ = some (.slice A3 (pin (ins L k)).f3.length c3) ∧
      (pin (ins L k)).f3.length ≤ c3 ∧ Kd.C (Kd.int .i32) w A3 (pin (ins L k)).f3.length (pin (ins L k)).f3 := by
  obtain ⟨A, cap, hb, hc, hK⟩ := h
  have hlen : (L.map pin).length = L.length := by simp
  have hK' : Kd.C k87 w A (L.map pin).length (L.map pin) := by rw [hlen]; exact hK
  obtain ⟨ad, _, _, e, _⟩ := at_T87 hK' 0 (by omega) (by omega)
  subst e
  refine ⟨ad, cap, hb, hc, hK.2.1, fun k hk => ?_⟩
  obtain ⟨ad', A3, c3, e, x0, x1, x2, x3, l3, g3⟩ := at_T87 hK' (k : Int) (by omega) (by omega)
  cases e
  have er : rd_T87 (L.map pin) (k : Int) = pin (ins L k) := by
    unfold rd_T87
    rw [List.getD_eq_getElem?_getD, Int.toNat_natCast, List.getElem?_map, List.getElem?_eq_getElem hk, ins_lt L k hk]; rfl
  rw [er] at x0 x1 x2 x3 l3 g3
  rw [Int.toNat_natCast] at x0 x1 x2 x3
  exact ⟨A3, c3, x0, x1, x2, x3, l3, g3⟩
theorem pin_op (i : I) : (pin i).f0 = i.f0 := by unfold pin; split <;> rfl
theorem pin_out {i : I} (h : ¬ (i.f0 = 4 ∨ i.f0 = 5)) : (pin i).f1 = i.f1 := by unfold pin; rw [if_neg h]
theorem pin_arg {i : I} (h : ¬ (i.f0 = 4 ∨ i.f0 = 5)) : (pin i).f2 = IntKind.u32.wrap i.f2 := by unfold pin; rw [if_neg h]
theorem dF_le (L : List I) : ∀ n pc, dF L n pc ≤ n := by
  intro n
  induction n with
  | zero => intro pc; exact Nat.le_refl _
  | succ n ih => intro pc; have := ih (ins L pc).f1.toNat; rw [dF]; split <;> omega
theorem PSound.arg3 {L : List I} {st nc most : Int} (h : PSound L st nc most) (pc : Nat) (hpc : pc < L.length) (h3 : (ins L pc).f0 = 3) : 0 < (ins L pc).f2 ∧ (ins L pc).f2 < 64 := by
  have h1 := h.inst pc hpc
  have h2 := h.outIn pc hpc (by omega)
  unfold instB at h1
  rw [if_neg (by omega), if_neg (fun e => e h2), if_neg (by omega), if_neg (by omega), if_pos h3, Bool.and_eq_true, decide_eq_true_eq, decide_eq_true_eq] at h1
  exact h1
end Go.Proofs.YteoljppcafakpaaDoor.PgFnPgSpan
