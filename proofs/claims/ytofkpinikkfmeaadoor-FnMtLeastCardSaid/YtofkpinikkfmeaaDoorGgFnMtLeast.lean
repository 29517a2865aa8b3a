/- What is gathered by steps from a set (reGathered): the walk, over any step. -/
import Derived.Test.YtofkpinikkfmeaaDoorGfFnMtLeast
import Derived.Test.YtofkpinikkfmeaaDoorGhFnMtLeast
namespace Go.Proofs.YtofkpinikkfmeaaDoor.TxFnMtLeast
open Go.Proofs.YtofkpinikkfmeaaDoor.Sf hiding T
open Go.RowKit Go.Proofs.YtofkpinikkfmeaaDoor.TrFnMtLeast Go.Proofs.YtofkpinikkfmeaaDoor.PFnMtLeast Go.Proofs.YtofkpinikkfmeaaDoorW.PrintWords Go.Proofs.YtofkpinikkfmeaaDoorW.PrintLast Go.Proofs.YtofkpinikkfmeaaDoorW.PrintMore
set_option linter.unusedSimpArgs false
set_option linter.unusedVariables false

theorem made_b (n : Nat) : madeCells #[Value.bool false] n = (List.replicate n (Value.bool false)).toArray := by
  apply Array.ext
  · simp [madeCells]
  · intro i h1 h2
    simp [madeCells, Nat.mod_one]
theorem make_b (n : Nat) (hn : n ≤ 1000000) (W : World) : (Instr.makeSlice 47 (.int .i64 (n : Int)) (.int .i64 (n : Int))).run Tryd.prog W = .ok (.slice (some ⟨W.heap.size, 0, none⟩) n n) (W.alloc (.cells (List.replicate n (Value.bool false)).toArray 4)) := by
  obtain ⟨i, hi, hz, hsize, hby⟩ := info_parts info4
  have := run_make (P := Tryd.prog) W 47 4 i (.bool false) Tryd.underlying47 hi hz .i64 .i64 (n : Int) (n : Int) (by omega) (by omega) (by rw [hby]; omega) (by omega)
  rw [hsize, Nat.mul_one, Int.toNat_natCast] at this
  rw [this, show (Value.bool false).cells = #[Value.bool false] from rfl, made_b]

/-- A row of bools in memory. -/
def Rw (w : World) (v : Value) (l : List Bool) : Prop := ∃ A c, v = .slice A l.length c ∧ l.length ≤ c ∧ Kd.C Kd.bool w A l.length l
theorem Rw.of_R {e base : Nat} {ok : Nat → Prop} {w : World} {v : Value} {l : List Bool} (h : Kd.R Kd.bool e w base ok v l) : Rw w v l := Kd.R_reads h
theorem Rw.new (w : World) (n : Nat) (hn : n ≤ 1000000) : Rw (w.alloc (.cells (List.replicate n (Value.bool false)).toArray 4)) (.slice (some ⟨w.heap.size, 0, none⟩) n n) (List.replicate n false) := by
  have ho : (w.alloc (.cells (List.replicate n (Value.bool false)).toArray 4)).ownsRow w.heap.size 4 1 (.slice (some ⟨w.heap.size, 0, none⟩) n n) (List.replicate n false).length (encs Value.bool (List.replicate n false)) :=
    ⟨by simp [encs], .inr ⟨w.heap.size, n, (List.replicate n (Value.bool false)).toArray, by simp, Nat.le_refl _, heap_alloc_new w _, by simp, by unfold maxLen; omega, by simp, by simp [encs]⟩⟩
  exact Rw.of_R (Kd.R_of_own (h1 := fun _ => rfl) (ok := fun _ => True) ho fun _ _ => trivial)

/-- How many places of n f leaves out. -/
def cnt (f : Nat → Bool) : Nat → Nat
  | 0 => 0
  | n + 1 => cnt f n + if f n then 0 else 1
theorem cnt_mono {f g : Nat → Bool} (h : ∀ j, f j = true → g j = true) : ∀ n, cnt g n ≤ cnt f n
  | 0 => Nat.le_refl _
  | n + 1 => by
    have h1 := cnt_mono h n
    rw [cnt, cnt]
    by_cases c : f n = true
    · rw [if_pos c, if_pos (h n c)]; omega
    · rw [if_neg c]; split <;> omega
theorem cnt_lt {f g : Nat → Bool} (h : ∀ j, f j = true → g j = true) {j : Nat} (h1 : f j = false) (h2 : g j = true) : ∀ n, j < n → cnt g n < cnt f n
  | 0, hj => by omega
  | n + 1, hj => by
    rw [cnt, cnt]
    by_cases e : j = n
    · subst e
      have := cnt_mono h j
      rw [if_pos h2, h1]
      simp
      omega
    · have := cnt_lt h h1 h2 n (by omega)
      by_cases c : f n = true
      · rw [if_pos c, if_pos (h n c)]; omega
      · rw [if_neg c]; split <;> omega

abbrev StepS (W0 : World) (m : Int) (N : Nat) (p1 p2 : Value) : Prop := ∀ w', Below W0.heap.size W0 w' → ∀ (A : Option Addr) (c : Nat) (l : List Bool), Kd.C Kd.bool w' A l.length l → l.length ≤ c → l.length = N →
    Calls Tryd.prog 33 #[.slice A l.length c, p1, p2] w' fun e w'' => (∃ v r, e = .returned v ∧ Rw w'' v r ∧ r.length = N ∧ Lo m l r) ∧ Below w'.heap.size w' w''

/-- A round of the gathering leaves fewer. -/
def ms (a f : List Bool) (N : Nat) : Nat := 2 * cnt (bd a) N + (if anyB f f.length 0 then 1 else 0)
theorem bd_gen {f : Nat → Bool} {n j : Nat} : bd (gen f n n) j = true ↔ j < n ∧ f j = true := by rw [bd_iff, gen_get]
theorem ms_lt {a f b : List Bool} {N : Nat} (ha : a.length = N) (hf : anyB f f.length 0 = true) : ms (gen (orF a b) N N) (gen (frF a b) N N) N < ms a f N := by
  have hm : ∀ j, bd a j = true → bd (gen (orF a b) N N) j = true := fun j hj => bd_gen.2 ⟨by
    have := bd_iff.1 hj
    obtain ⟨h, _⟩ := List.getElem?_eq_some_iff.1 this
    omega, by unfold orF; rw [hj]; rfl⟩
  unfold ms
  rw [if_pos hf]
  by_cases c : anyB (gen (frF a b) N N) (gen (frF a b) N N).length 0 = true
  · rw [if_pos c]
    obtain ⟨j, _, _, h⟩ := (anyB_iff _ _ _).1 c
    obtain ⟨h1, h2⟩ := gen_get.1 h
    unfold frF at h2
    rw [Bool.and_eq_true, Bool.not_eq_true'] at h2
    have := cnt_lt hm h2.2 (bd_gen.2 ⟨h1, by unfold orF; rw [h2.1, Bool.or_true]⟩) N h1
    omega
  · rw [if_neg c]
    have := cnt_mono hm N
    omega
theorem Lo.nil (m : Int) (l : List Bool) (n : Nat) : Lo m l (List.replicate n false) := Lo.none _ _ _ fun k h => by rw [List.getElem?_replicate] at h; split at h <;> simp at h
end Go.Proofs.YtofkpinikkfmeaaDoor.TxFnMtLeast
