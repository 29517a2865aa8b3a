/- The recursive functions of the reference's soundness. No walk. -/
import Derived.Test.YtofkpinikkfmeaaDoorPsFnMtLeast
namespace Go.Proofs.YtofkpinikkfmeaaDoor.TrFnMtLeast
open Go.RowKit Go.Proofs.YtofkpinikkfmeaaDoor.PFnMtLeast Go.Proofs.YtofkpinikkfmeaaDoorW.PrintWords Go.Proofs.YtofkpinikkfmeaaDoorW.PrintLast Go.Proofs.YtofkpinikkfmeaaDoorW.PrintMore

mutual
def sds : T → Int → Bool
  | ⟨a, b, c, d, e, f, g, l⟩, n => if n < 0 then false else if nodeB ⟨a, b, c, d, e, f, g, l⟩ = true then sdsL l (wrap64 (n - 1)) else false
def sdsL : List T → Int → Bool
  | [], _ => true
  | t :: r, n => if sds t n = true then sdsL r n else false
end
theorem sds_eq (t : T) (n : Int) : sds t n = if n < 0 then false else if nodeB t = true then sdsL t.f7 (wrap64 (n - 1)) else false := by cases t; rw [sds]

mutual
def caps : T → Int → Int
  | ⟨a, _, _, _, _, f, _, l⟩, n => if a = 13 then (if f = n then capsL l (wrap64 (n + 1)) else -1) else capsL l n
def capsL : List T → Int → Int
  | [], n => n
  | t :: r, n => if caps t n < 0 then -1 else capsL r (caps t n)
end
theorem caps_eq (t : T) (n : Int) : caps t n = if t.f0 = 13 then (if t.f5 = n then capsL t.f7 (wrap64 (n + 1)) else -1) else capsL t.f7 n := by cases t; rw [caps]

def sizF (x : Int) (t : T) (s : Int) : Int :=
  if t.f0 = 17 then mn (wrap64 ((mn (wrap64 ((wrap64 (s + 1)) * (mx (mx (wrap64 (t.f3 + 1)) t.f4) 1))) (wrap64 (x + 1))) + 2)) (wrap64 (x + 1))
  else if t.f0 = 3 then mn (wrap64 ((t.f2.length : Int) + 2)) (wrap64 (x + 1))
  else if t.f0 = 19 then mn (wrap64 ((wrap64 (s + (t.f7.length : Int))) + 2)) (wrap64 (x + 1))
  else mn (wrap64 (s + 2)) (wrap64 (x + 1))
mutual
def siz : T → Int → Int
  | ⟨a, b, c, d, e, f, g, l⟩, x => sizF x ⟨a, b, c, d, e, f, g, l⟩ (sizL x 0 l)
def sizL : Int → Int → List T → Int
  | _, s, [] => s
  | x, s, t :: r => sizL x (mn (wrap64 (s + siz t x)) (wrap64 (x + 1))) r
end
theorem siz_eq (t : T) (x : Int) : siz t x = sizF x t (sizL x 0 t.f7) := by cases t; rw [siz]

abbrev fS (t : T) (n : Int) : Nat → Option Bool := fun k => spec_reSounds.f k t.f0 t.f1 t.f2 t.f3 t.f4 t.f5 t.f6 t.f7 n
abbrev fC (t : T) (n : Int) : Nat → Option Int := fun k => spec_reCaps.f k t.f0 t.f1 t.f2 t.f3 t.f4 t.f5 t.f6 t.f7 n
abbrev fZ (t : T) (n : Int) : Nat → Option Int := fun k => spec_ReSize.f k t.f0 t.f1 t.f2 t.f3 t.f4 t.f5 t.f6 t.f7 n

theorem TW.sub {t : T} (h : TW t) : ∀ s ∈ t.f7, TW s := by cases h; assumption
theorem TW.l2 {t : T} (h : TW t) : t.f2.length ≤ 4611686018427387000 := by cases h; omega
theorem TW.l7 {t : T} (h : TW t) : t.f7.length ≤ 4611686018427387000 := by cases h; omega

theorem ev_sdsL (l : List T) (hl : l.length ≤ 4611686018427387000) (ih : ∀ s ∈ l, ∀ n, Ev (fS s n) (sds s n)) (x : Int) : ∀ (n i : Nat), l.length = i + n →
    Ev (fun k => spec_reSounds.l0 k x l (l.length : Int) (i : Int)) (sdsL (l.drop i) (wrap64 (x - 1))) := by
  intro n
  induction n with
  | zero =>
    intro i hi
    refine Ev.succ (Ev.congr (Ev.const _) fun k => ?_)
    simp only [spec_reSounds.l0]
    rw [if_neg (by omega), List.drop_eq_nil_of_le (by omega), sdsL]
  | succ n ihn =>
    intro i hi
    have e1 : wrap64 ((i : Int) + 1) = ((i + 1 : Nat) : Int) := wrap_nat i 1 (by omega)
    have hlt : i < l.length := by omega
    rw [List.drop_eq_getElem_cons hlt, sdsL]
    refine Ev.succ ?_
    have q1 : (i : Int) < (l.length : Int) := by omega
    have q2 : (0 : Int) ≤ (i : Int) := by omega
    simp only [spec_reSounds.l0, e1, rd_eq l i hlt, if_pos q1, if_pos q2]
    refine Ev.bind (g := fun k t116 => if t116 = true then (spec_reSounds.l0 k x l (l.length : Int) ((i + 1 : Nat) : Int)) else (some false)) (ih l[i] (List.getElem_mem hlt) (wrap64 (x - 1))) ?_
    by_cases h : sds l[i] (wrap64 (x - 1)) = true
    · simp only [if_pos h]
      exact ihn (i + 1) (by omega)
    · simp only [if_neg h]; exact Ev.const _

theorem ev_sds (t : T) : TW t → ∀ n, Ev (fS t n) (sds t n) := by
  refine tree_ind (p := fun t => TW t → ∀ n, Ev (fS t n) (sds t n)) ?_ t
  intro t ih hT n
  rw [sds_eq]
  refine Ev.succ ?_
  simp only [spec_reSounds.f]
  by_cases h0 : n < 0
  · simp only [if_pos h0]
    refine Ev.succ (Ev.congr (Ev.const _) fun k => ?_)
    simp only [spec_reSounds.j0, if_true]
  · simp only [if_neg h0]
    refine Ev.bind (g := fun k t113 => (spec_reSounds.j0 k n (!t113) t.f0 t.f1 t.f2 t.f3 t.f4 t.f5 t.f6 t.f7)) (ev_node t hT.l2) ?_
    refine Ev.succ ?_
    simp only [spec_reSounds.j0]
    by_cases hn : nodeB t = true
    · simp only [hn, Bool.not_true, Bool.false_eq_true, if_false, if_true]
      exact ev_sdsL t.f7 hT.l7 (fun s hs => ih s hs (hT.sub s hs)) n t.f7.length 0 (by omega)
    · have hn' : nodeB t = false := by simpa using hn
      simp only [hn', Bool.not_false, if_true, Bool.false_eq_true, if_false]
      exact Ev.const _

theorem ev_capsL (l : List T) (hl : l.length ≤ 4611686018427387000) (ih : ∀ s ∈ l, ∀ n, Ev (fC s n) (caps s n)) : ∀ (n i : Nat) (x : Int), l.length = i + n →
    Ev (fun k => spec_reCaps.l0 k x l (l.length : Int) (i : Int)) (capsL (l.drop i) x) := by
  intro n
  induction n with
  | zero =>
    intro i x hi
    refine Ev.succ (Ev.congr (Ev.const _) fun k => ?_)
    simp only [spec_reCaps.l0]
    rw [if_neg (by omega), List.drop_eq_nil_of_le (by omega), capsL]
  | succ n ihn =>
    intro i x hi
    have e1 : wrap64 ((i : Int) + 1) = ((i + 1 : Nat) : Int) := wrap_nat i 1 (by omega)
    have hlt : i < l.length := by omega
    rw [List.drop_eq_getElem_cons hlt, capsL]
    refine Ev.succ ?_
    have q1 : (i : Int) < (l.length : Int) := by omega
    have q2 : (0 : Int) ≤ (i : Int) := by omega
    simp only [spec_reCaps.l0, e1, rd_eq l i hlt, if_pos q1, if_pos q2]
    refine Ev.bind (g := fun k t120 => if t120 < 0 then (some (-1)) else (spec_reCaps.l0 k t120 l (l.length : Int) ((i + 1 : Nat) : Int))) (ih l[i] (List.getElem_mem hlt) x) ?_
    by_cases h : caps l[i] x < 0
    · simp only [if_pos h]; exact Ev.const _
    · simp only [if_neg h]
      exact ihn (i + 1) _ (by omega)

theorem ev_caps (t : T) : TW t → ∀ n, Ev (fC t n) (caps t n) := by
  refine tree_ind (p := fun t => TW t → ∀ n, Ev (fC t n) (caps t n)) ?_ t
  intro t ih hT n
  rw [caps_eq]
  refine Ev.succ ?_
  simp only [spec_reCaps.f]
  have j : ∀ m, Ev (fun k => spec_reCaps.j0 k m t.f0 t.f1 t.f2 t.f3 t.f4 t.f5 t.f6 t.f7) (capsL t.f7 m) := by
    intro m
    refine Ev.succ ?_
    simp only [spec_reCaps.j0]
    exact ev_capsL t.f7 hT.l7 (fun s hs => ih s hs (hT.sub s hs)) t.f7.length 0 m (by omega)
  by_cases h13 : t.f0 = 13
  · simp only [if_pos h13]
    by_cases h5 : t.f5 = n
    · simp only [if_pos h5]; exact j _
    · simp only [if_neg h5]; exact Ev.const _
  · simp only [if_neg h13]; exact j _

theorem ev_sizL (t : T) (x : Int) (l : List T) (hl : l.length ≤ 4611686018427387000) (ih : ∀ s ∈ l, ∀ n, Ev (fZ s n) (siz s n)) : ∀ (n i : Nat) (s : Int), l.length = i + n →
    Ev (fun k => spec_ReSize.l0 k x s l (l.length : Int) (i : Int) t.f0 t.f1 t.f2 t.f3 t.f4 t.f5 t.f6 t.f7) (sizF x t (sizL x s (l.drop i))) := by
  intro n
  induction n with
  | zero =>
    intro i s hi
    rw [List.drop_eq_nil_of_le (by omega), sizL]
    refine Ev.succ (Ev.congr (Ev.const _) fun k => ?_)
    simp only [spec_ReSize.l0]
    rw [if_neg (by omega)]
    unfold sizF
    repeat' split
    all_goals rfl
  | succ n ihn =>
    intro i s hi
    have e1 : wrap64 ((i : Int) + 1) = ((i + 1 : Nat) : Int) := wrap_nat i 1 (by omega)
    have hlt : i < l.length := by omega
    rw [List.drop_eq_getElem_cons hlt, sizL]
    refine Ev.succ ?_
    have q1 : (i : Int) < (l.length : Int) := by omega
    have q2 : (0 : Int) ≤ (i : Int) := by omega
    simp only [spec_ReSize.l0, e1, rd_eq l i hlt, if_pos q1, if_pos q2]
    refine Ev.bind (g := fun k t124 => spec_ReSize.l0 k x (mn (wrap64 (s + t124)) (wrap64 (x + 1))) l (l.length : Int) ((i + 1 : Nat) : Int) t.f0 t.f1 t.f2 t.f3 t.f4 t.f5 t.f6 t.f7) (ih l[i] (List.getElem_mem hlt) x) ?_
    exact ihn (i + 1) _ (by omega)

theorem ev_siz (t : T) : TW t → ∀ n, Ev (fZ t n) (siz t n) := by
  refine tree_ind (p := fun t => TW t → ∀ n, Ev (fZ t n) (siz t n)) ?_ t
  intro t ih hT n
  rw [siz_eq]
  refine Ev.succ ?_
  simp only [spec_ReSize.f]
  exact ev_sizL t n t.f7 hT.l7 (fun s hs => ih s hs (hT.sub s hs)) t.f7.length 0 0 (by omega)

/-- A tree that the laws speak of. -/
def sound (t : T) (x : Int) : Bool := if sds t 100 = true then (if caps t 1 > 0 then decide (siz t x ≤ x) else false) else false

theorem ev_sound (t : T) (hT : TW t) (x : Int) : Ev (fun k => spec_ReSound.f k t.f0 t.f1 t.f2 t.f3 t.f4 t.f5 t.f6 t.f7 x) (sound t x) := by
  simp only [spec_ReSound.f]
  refine Ev.bind (g := fun k t126 => if t126 = true then ((spec_reCaps.f k t.f0 t.f1 t.f2 t.f3 t.f4 t.f5 t.f6 t.f7 1).bind fun t127 => (if t127 > 0 then ((spec_ReSize.f k t.f0 t.f1 t.f2 t.f3 t.f4 t.f5 t.f6 t.f7 x).bind fun t128 => (some (decide (t128 ≤ x)))) else (some false))) else (some false)) (ev_sds t hT 100) ?_
  unfold sound
  by_cases h1 : sds t 100 = true
  · simp only [if_pos h1]
    refine Ev.bind (g := fun k t127 => if t127 > 0 then ((spec_ReSize.f k t.f0 t.f1 t.f2 t.f3 t.f4 t.f5 t.f6 t.f7 x).bind fun t128 => (some (decide (t128 ≤ x)))) else (some false)) (ev_caps t hT 1) ?_
    by_cases h2 : caps t 1 > 0
    · simp only [if_pos h2]
      exact Ev.bind (g := fun _ t128 => some (decide (t128 ≤ x))) (ev_siz t hT x) (Ev.const _)
    · simp only [if_neg h2]; exact Ev.const _
  · simp only [if_neg h1]; exact Ev.const _

end Go.Proofs.YtofkpinikkfmeaaDoor.TrFnMtLeast
