import Derived.Test.YteoljppcafakpaaDoorNaFnPgSpan
namespace Go.Proofs.YteoljppcafakpaaDoor.PgFnPgSpan
open Go.RowKit Go.Proofs.YteoljppcafakpaaDoor.EvN Go.Proofs.YteoljppcafakpaaDoor.Row Go.Proofs.YteoljppcafakpaaDoor.PFnPgSpan Go.Proofs.YteoljppcafakpaaDoorW.PrintWords Go.Proofs.YteoljppcafakpaaDoorW.PrintLast Go.Proofs.YteoljppcafakpaaDoorW.PrintMore
set_option linter.unusedSimpArgs false
set_option linter.unusedVariables false
def wdB (x : Int) : Bool := (decide (97 ≤ x) && decide (x ≤ 122)) || (decide (65 ≤ x) && decide (x ≤ 90)) || (decide (48 ≤ x) && decide (x ≤ 57)) || (x == 95)
theorem reWord_f (x : Int) : spec_reWord.f x = some (wdB x) := by
  unfold spec_reWord.f wdB
  by_cases h1 : 97 ≤ x <;> by_cases h2 : x ≤ 122 <;> by_cases h3 : 65 ≤ x <;> by_cases h4 : x ≤ 90 <;> by_cases h5 : 48 ≤ x <;> by_cases h6 : x ≤ 57 <;> simp [h1, h2, h3, h4, h5, h6] <;> omega
def cP (bm b10 am a10 wb : Bool) : Int :=
  let c0 : Int := if bm then Go.bits .or .i64 0 4 else 0
  let c1 := if bm || b10 then Go.bits .or .i64 c0 1 else c0
  let c2 := if am then Go.bits .or .i64 c1 8 else c1
  let c3 := if am || a10 then Go.bits .or .i64 c2 2 else c2
  if wb then Go.bits .or .i64 c3 16 else Go.bits .or .i64 c3 32
theorem cond_c (k : Nat) (b a : Int) : spec_CondBetween.f (k + 6) b a = some (cP (decide (b = -1)) (b == 10) (decide (a = -1)) (a == 10) (wdB b != wdB a)) := by
  unfold cP
  rw [spec_CondBetween.f]
  simp only [spec_CondBetween.j0, spec_CondBetween.j1, spec_CondBetween.j2, spec_CondBetween.j3, spec_CondBetween.j4, spec_CondBetween.j5, reWord_f, Option.bind_some]
  by_cases h1 : b = -1 <;> by_cases h2 : a = -1 <;> cases h3 : (b == 10) <;> cases h4 : (a == 10) <;> cases h5 : (wdB b != wdB a) <;> simp [h1, h2, h3, h4, h5]
def condZ (b a : Int) : Int := cP (decide (b = -1)) (b == 10) (decide (a = -1)) (a == 10) (wdB b != wdB a)
theorem cond_z (b a : Int) : spec_CondBetween.f 6 b a = some (condZ b a) := cond_c 0 b a
theorem rowAt_kd {α : Type} {enc : α → Value} {h1 : ∀ x, (enc x).oneCell' = true} {w : World} {S : Nat → Prop} {e : TypeId} {vr : Value} {l : List α} (h : RowAt w S e vr (l.map enc)) : ∃ A c, vr = .slice A l.length c ∧ l.length ≤ c ∧ Kd.C (Kd.scalar enc h1) w A l.length l := by
  by_cases hne : l = []
  · subst hne
    rcases h with ⟨rfl, _⟩ | ⟨g, cap, cur, rfl, _, _, h1, h2, _⟩
    · exact ⟨none, 0, rfl, by simp, rfl, by simp, fun h => by simp at h⟩
    · exact ⟨some ⟨g, 0, none⟩, cap, rfl, by simp, rfl, by simp, fun h => by simp at h⟩
  · obtain ⟨g, cap, rfl, _, _, h2, h3, h4⟩ := h.cell (by simpa using hne)
    rw [List.length_map] at h2
    refine ⟨some ⟨g, 0, none⟩, cap, by rw [List.length_map], h2, rfl, by unfold maxLen at h3; omega, fun _ => ⟨_, rfl, fun j p hj => ⟨[enc p], rfl, rfl, fun i u hu => ?_⟩⟩⟩
    match i, hu with
    | 0, hu =>
      simp at hu
      subst hu
      obtain ⟨hj1, hj2⟩ := List.getElem?_eq_some_iff.1 hj
      have := h4 j (by simpa using hj1)
      rw [List.getElem_map, hj2] at this
      have e : (⟨g, 0, none⟩ : Addr).add (j * (Kd.scalar enc h1).sz + 0) = ⟨g, j, none⟩ := by
        have h1 : (Kd.scalar enc h1).sz = 1 := rfl
        rw [h1, Nat.mul_one, Nat.add_zero]
        unfold Addr.add; split <;> simp_all
      rw [e]; exact this
def dI (D : List Nat) : List Int := D.map fun x : Nat => (x : Int)
end Go.Proofs.YteoljppcafakpaaDoor.PgFnPgSpan
