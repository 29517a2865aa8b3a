/- cleanClass: the ranges sorted and merged; the walk. -/
import Derived.Test.YtkcnodkojllobaaDoorZh
import Derived.Test.YtkcnodkojllobaaDoorZj
namespace Go.Proofs.YtkcnodkojllobaaDoor.Fld
open Go Go.RowKit Go.Proofs.YtkcnodkojllobaaDoor.EvN Go.Proofs.YtkcnodkojllobaaDoor.Row Go.Proofs.YtkcnodkojllobaaDoorW.PrintWords Go.Proofs.YtkcnodkojllobaaDoorW.PrintLast Go.Proofs.YtkcnodkojllobaaDoorW.PrintMore
open Go.Proofs.YtkcnodkojllobaaDoor.Srt (SK SQ Srtd StP Fr RV sort_calls swoP ltP len_calls less_calls swap_calls)
set_option linter.unusedVariables false
set_option linter.unusedSimpArgs false

/-- Sorted ranges, merged. -/
def mgF : List (Int × Int) → Int × Int → List (Int × Int) → List (Int × Int)
  | o, last, [] => o ++ [last]
  | o, last, p :: R => if p.1 ≤ last.2 + 1 then mgF o (last.1, if p.2 > last.2 then p.2 else last.2) R else mgF (o ++ [last]) p R
def Can (P : List (Int × Int)) : Prop := (∀ p ∈ P, okP p) ∧ P.Pairwise fun p q => p.2 + 1 < q.1
theorem canF_of : ∀ (P : List (Int × Int)) (last : Option Int), Can P → (∀ h p, last = some h → p ∈ P → h + 1 < p.1) → canF last P = true
  | [], last, _, _ => rfl
  | p :: P, last, hc, hl => by
    have hp := hc.1 p (by simp)
    have h2 := List.pairwise_cons.1 hc.2
    unfold okP at hp
    rw [canF_cons, decide_eq_true hp.1, decide_eq_true hp.2.1, decide_eq_true hp.2.2, canF_of P (some p.2) ⟨fun q hq => hc.1 q (by simp [hq]), h2.2⟩ (fun h q e hq => by cases e; exact h2.1 q hq)]
    cases last with
    | none => rfl
    | some h => simp only [Bool.true_and, Bool.and_true]; exact decide_eq_true (hl h p rfl (by simp))
theorem mg_says : ∀ (R o : List (Int × Int)) (last : Int × Int), Can (o ++ [last]) → (∀ p ∈ R, okP p) → (∀ p ∈ R, last.1 ≤ p.1) → R.Pairwise (fun p q => p.1 ≤ q.1) →
    Can (mgF o last R) ∧ (∀ c, inB (mgF o last R) c = inB (o ++ last :: R) c) ∧ (mgF o last R).length ≤ o.length + 1 + R.length ∧ mgF o last R ≠ [] := by
  intro R
  induction R with
  | nil => intro o last hc _ _ _; exact ⟨hc, fun c => rfl, by simp [mgF], by simp [mgF]⟩
  | cons p R ih =>
    intro o last hc hok hlo hso
    have hp := hok p (by simp)
    have hlp := hlo p (by simp)
    have hs2 := List.pairwise_cons.1 hso
    have hlast := hc.1 last (by simp)
    have hpw := List.pairwise_append.1 hc.2
    unfold okP at hp hlast
    rw [mgF]
    by_cases ht : p.1 ≤ last.2 + 1
    · rw [if_pos ht]
      obtain ⟨x, hx⟩ : ∃ x : Int × Int, x = (last.1, if p.2 > last.2 then p.2 else last.2) := ⟨_, rfl⟩
      rw [← hx]
      have x1 : x.1 = last.1 := by rw [hx]
      have x2 : last.2 ≤ x.2 ∧ p.2 ≤ x.2 ∧ (x.2 = p.2 ∨ x.2 = last.2) := by rw [hx]; simp only; split <;> omega
      have hcx : Can (o ++ [x]) := by
        refine ⟨fun q hq => ?_, List.pairwise_append.2 ⟨hpw.1, List.pairwise_singleton _ _, fun a ha b hb => ?_⟩⟩
        · rcases List.mem_append.1 hq with h | h
          · exact hc.1 q (by simp [h])
          · rw [List.mem_singleton.1 h]; unfold okP; omega
        · rw [List.mem_singleton.1 hb, x1]; exact hpw.2.2 a ha last (by simp)
      obtain ⟨i1, i2, i3, i4⟩ := ih o x hcx (fun q hq => hok q (by simp [hq])) (fun q hq => by rw [x1]; exact hlo q (by simp [hq])) hs2.2
      refine ⟨i1, fun c => ?_, by simp; omega, i4⟩
      rw [i2]
      unfold inB
      rw [List.any_append, List.any_append, List.any_cons, List.any_cons, List.any_cons]
      have : (decide (x.1 ≤ c) && decide (c ≤ x.2)) = ((decide (last.1 ≤ c) && decide (c ≤ last.2)) || (decide (p.1 ≤ c) && decide (c ≤ p.2))) := by
        rw [Bool.eq_iff_iff]
        simp only [Bool.and_eq_true, Bool.or_eq_true, decide_eq_true_eq]
        omega
      rw [this, Bool.or_assoc]
    · rw [if_neg ht]
      have hcx : Can (o ++ [last] ++ [p]) := by
        refine ⟨fun q hq => ?_, List.pairwise_append.2 ⟨hc.2, List.pairwise_singleton _ _, fun a ha b hb => ?_⟩⟩
        · rcases List.mem_append.1 hq with h | h
          · exact hc.1 q h
          · rw [List.mem_singleton.1 h]; exact hp
        · rw [List.mem_singleton.1 hb]
          rcases List.mem_append.1 ha with h | h
          · have := hpw.2.2 a h last (by simp); omega
          · rw [List.mem_singleton.1 h]; omega
      obtain ⟨i1, i2, i3, i4⟩ := ih (o ++ [last]) p hcx (fun q hq => hok q (by simp [hq])) hs2.1 hs2.2
      refine ⟨i1, fun c => ?_, by simp at i3 ⊢; omega, i4⟩
      rw [i2, List.append_assoc]
      rfl
theorem inB_perm {P Q : List (Int × Int)} (h : P.Perm Q) (c : Int) : inB P c = inB Q c := by
  rw [Bool.eq_iff_iff]
  unfold inB
  rw [List.any_eq_true, List.any_eq_true]
  exact ⟨fun ⟨p, h1, h2⟩ => ⟨p, h.mem_iff.1 h1, h2⟩, fun ⟨p, h1, h2⟩ => ⟨p, h.mem_iff.2 h1, h2⟩⟩
/-- What is known of the pairs while they are sorted. -/
def StB (w0 : World) (B hb blk cap N : Nat) (d : Array (Int × Int)) (w : World) : Prop := StP B hb blk cap N d w ∧ Below w0.heap.size w0 w
theorem sk (w0 : World) (B hb blk cap N : Nat) (hN : N ≤ 100000000) (hcap : N * 2 ≤ cap) (h0 : w0.heap.size ≤ blk ∧ w0.heap.size ≤ B) : SK N B hb ltP (StB w0 B hb blk cap N) where
  small := by omega
  swo := swoP
  low := fun h => h.1.lt.2.2
  keep := fun h hf => ⟨h.1.keep hf, by
    have hz := h.2.size
    exact ⟨hf.os.trans h.2.os, hf.tape.trans h.2.tape, hf.output.trans h.2.output, Nat.le_trans hz hf.size, fun k hk => (hf.block k (by omega) (by omega)).trans (h.2.block k hk)⟩⟩
  less := fun h hd i j hi hj => less_calls (by omega) hcap h.1 i j hi hj
  swap := fun h hd i j hi hj => (swap_calls (by omega) hcap hd h.1 i j hi hj).mono fun e w' ⟨h1, h2, h3⟩ => ⟨h1, ⟨h2, by
    have hz := h.2.size
    exact ⟨h3.os.trans h.2.os, h3.tape.trans h.2.tape, h3.output.trans h.2.output, Nat.le_trans hz h3.size, fun k hk => (h3.block k (by omega) (by omega)).trans (h.2.block k hk)⟩⟩, h3.mono fun i _ e => by rw [e]; exact h.1.lt.2.1⟩
/-- The numbers of a row, by place. -/
def CS (w : World) (blk cap n : Nat) (f : Nat → Int) : Prop := ∃ cs : Array Value, w.heap[blk]? = some (.cells cs 21 (0, 0)) ∧ cs.size = cap ∧ ∀ x, x < n → cs[x]? = some (.int .i32 (f x))
theorem CS.cell {w : World} {blk cap n : Nat} {f : Nat → Int} (h : CS w blk cap n f) {x : Nat} (hx : x < n) : w.cell? ⟨blk, x, none⟩ = some (.int .i32 (f x)) ∧ w.frozen? ⟨blk, x, none⟩ = false := by
  obtain ⟨cs, h1, _, h3⟩ := h
  exact ⟨(blk_cell h1 x).trans (h3 x hx), blk_frozen h1 x⟩
theorem CS.set {w : World} {blk cap n : Nat} {f : Nat → Int} (h : CS w blk cap n f) {x : Nat} (hx : x < n) (hn : n ≤ cap) (v : Int) : CS (w.setCell ⟨blk, x, none⟩ (.int .i32 v)) blk cap n (fun y => if y = x then v else f y) := by
  obtain ⟨cs, h1, h2, h3⟩ := h
  refine ⟨_, blk_set h1 x _, by simpa using h2, fun y hy => ?_⟩
  show _ = some (Value.int .i32 (if y = x then v else f y))
  by_cases e : y = x
  · subst e; rw [Array.getElem?_setIfInBounds_self_of_lt (by omega), if_pos rfl]
  · rw [Array.getElem?_setIfInBounds_ne (fun e2 => e e2.symm), if_neg e]; exact h3 y hy
theorem CS.drewN {w : World} {blk cap n : Nat} {f : Nat → Int} (h : CS w blk cap n f) (m : Nat) : CS (w.drewN m) blk cap n f := h
/-- The pairs stand in the row from a place on. -/
def At (f : Nat → Int) (k : Nat) (P : List (Int × Int)) : Prop := ∀ j (h : j < P.length), f (2 * (k + j)) = P[j].1 ∧ f (2 * (k + j) + 1) = P[j].2
theorem At.cons {f : Nat → Int} {k : Nat} {p : Int × Int} {P : List (Int × Int)} (h : At f k (p :: P)) : (f (2 * k) = p.1 ∧ f (2 * k + 1) = p.2) ∧ At f (k + 1) P :=
  ⟨h 0 (by simp), fun j hj => by have := h (j + 1) (by simp; omega); rw [show k + (j + 1) = k + 1 + j by omega] at this; simpa using this⟩
theorem At.upd {f : Nat → Int} {k : Nat} {P : List (Int × Int)} (h : At f k P) {x : Nat} {v : Int} (hx : x < 2 * k ∨ 2 * (k + P.length) ≤ x) : At (fun y => if y = x then v else f y) k P := fun j hj => by
  simp only
  rw [if_neg (by omega), if_neg (by omega)]
  exact h j hj
theorem At.snoc {f : Nat → Int} {P : List (Int × Int)} {p : Int × Int} (h : At f 0 P) (h1 : f (2 * P.length) = p.1) (h2 : f (2 * P.length + 1) = p.2) : At f 0 (P ++ [p]) := fun j hj => by
  by_cases e : j < P.length
  · rw [List.getElem_append_left e]; exact h j e
  · have hj2 : j = P.length := by simp at hj; omega
    subst hj2
    rw [List.getElem_append_right (by omega)]
    simp only [Nat.zero_add, Nat.sub_self, List.getElem_cons_zero]
    exact ⟨h1, h2⟩
theorem At.last {f : Nat → Int} {o : List (Int × Int)} {last : Int × Int} (h : At f 0 (o ++ [last])) : f (2 * o.length) = last.1 ∧ f (2 * o.length + 1) = last.2 := by
  have := h o.length (by simp)
  rw [Nat.zero_add] at this
  simpa using this
theorem At.setl {f : Nat → Int} {o : List (Int × Int)} {last : Int × Int} (h : At f 0 (o ++ [last])) (v : Int) : At (fun y => if y = 2 * o.length + 1 then v else f y) 0 (o ++ [(last.1, v)]) := by
  have h1 : At f 0 o := fun j hj => by
    have := h j (by simp; omega)
    rwa [List.getElem_append_left hj] at this
  refine At.snoc (h1.upd (by omega)) ?_ ?_
  · show (if 2 * o.length = 2 * o.length + 1 then v else f (2 * o.length)) = last.1
    rw [if_neg (by omega)]; exact h.last.1
  · show (if 2 * o.length + 1 = 2 * o.length + 1 then v else f (2 * o.length + 1)) = v
    rw [if_pos rfl]
/-- The merging under way. -/
structure MW (w0 wr : World) (blk cap N : Nat) (R : List (Int × Int)) (f : Nat → Int) (o : List (Int × Int)) (last : Int × Int) (k : Nat) (T : List (Int × Int)) : Prop where
  cs : CS wr blk cap (2 * N) f
  a0 : At f 0 (o ++ [last])
  ak : At f k T
  len : T.length + k = N
  le : o.length + 1 ≤ k
  mg : mgF o last T = R
  bl : Below w0.heap.size w0 wr
  ok : (∀ p ∈ T, okP p) ∧ okP last
theorem MW.drewN {w0 wr : World} {blk cap N k : Nat} {R o T : List (Int × Int)} {f : Nat → Int} {last : Int × Int} (h : MW w0 wr blk cap N R f o last k T) (m : Nat) : MW w0 (wr.drewN m) blk cap N R f o last k T := ⟨h.cs, h.a0, h.ak, h.len, h.le, h.mg, pw_below_drewN h.bl m, h.ok⟩
/-- The range lies in the last one. -/
theorem MW.in_ {w0 wr : World} {blk cap N k : Nat} {R o T : List (Int × Int)} {f : Nat → Int} {last p : Int × Int} (h : MW w0 wr blk cap N R f o last k (p :: T)) (h1 : p.1 ≤ last.2 + 1) (h2 : ¬ p.2 > last.2) : MW w0 wr blk cap N R f o last (k + 1) T :=
  ⟨h.cs, h.a0, h.ak.cons.2, by have := h.len; simp at this; omega, by have := h.le; omega, by have := h.mg; rw [mgF, if_pos h1, if_neg h2] at this; exact this, h.bl, fun q hq => h.ok.1 q (by simp [hq]), h.ok.2⟩
/-- The last one grows. -/
theorem MW.grow {w0 wr : World} {blk cap N k : Nat} {R o T : List (Int × Int)} {f : Nat → Int} {last p : Int × Int} (h : MW w0 wr blk cap N R f o last k (p :: T)) (h1 : p.1 ≤ last.2 + 1) (h2 : p.2 > last.2) (hc : 2 * N ≤ cap) (h0 : w0.heap.size ≤ blk) :
    MW w0 (wr.setCell ⟨blk, 2 * o.length + 1, none⟩ (.int .i32 p.2)) blk cap N R (fun y => if y = 2 * o.length + 1 then p.2 else f y) o (last.1, p.2) (k + 1) T := by
  have hl := h.len
  have hle := h.le
  simp at hl
  have hok := h.ok.2
  have hp := h.ok.1 p (by simp)
  unfold okP at hok hp
  exact ⟨h.cs.set (by omega) hc _, h.a0.setl _, h.ak.cons.2.upd (.inl (by omega)), by omega, by omega, by have := h.mg; rw [mgF, if_pos h1, if_pos h2] at this; exact this, below_set h.bl h0, fun q hq => h.ok.1 q (by simp [hq]), by unfold okP; simp only; omega⟩
/-- A range of its own. -/
theorem MW.new {w0 wr : World} {blk cap N k : Nat} {R o T : List (Int × Int)} {f : Nat → Int} {last p : Int × Int} (h : MW w0 wr blk cap N R f o last k (p :: T)) (h1 : ¬ p.1 ≤ last.2 + 1) (hc : 2 * N ≤ cap) (h0 : w0.heap.size ≤ blk) :
    MW w0 ((wr.setCell ⟨blk, 2 * (o.length + 1), none⟩ (.int .i32 p.1)).setCell ⟨blk, 2 * (o.length + 1) + 1, none⟩ (.int .i32 p.2)) blk cap N R (fun y => if y = 2 * (o.length + 1) + 1 then p.2 else if y = 2 * (o.length + 1) then p.1 else f y) (o ++ [last]) p (k + 1) T := by
  have hl := h.len
  have hle := h.le
  simp at hl
  refine ⟨(h.cs.set (by omega) hc _).set (by omega) hc _, ?_, (h.ak.cons.2.upd (.inl (by omega))).upd (.inl (by omega)), by omega, by simp; omega, by have := h.mg; rw [mgF, if_neg h1] at this; exact this, below_set (below_set h.bl h0) h0, fun q hq => h.ok.1 q (by simp [hq]), h.ok.1 p (by simp)⟩
  refine At.snoc ((h.a0.upd (.inr (by simp only [List.length_append, List.length_cons, List.length_nil]; omega))).upd (.inr (by simp only [List.length_append, List.length_cons, List.length_nil]; omega))) ?_ ?_
  · simp
  · simp
def CPost (w0 : World) (blk cap : Nat) (D : List (Int × Int)) (e : Ending) (w' : World) : Prop :=
  ∃ R, e = .returned (.slice (some ⟨blk, 0, none⟩) (2 * R.length) cap) ∧ Can R ∧ (∀ c, inB R c = inB D c) ∧ R.length ≤ D.length ∧ R ≠ [] ∧ RI w' w0.heap.size (.slice (some ⟨blk, 0, none⟩) (2 * R.length) cap) R ∧ Below w0.heap.size w0 w'
theorem ri_of {w w0 : World} {blk cap n : Nat} {f : Nat → Int} {R : List (Int × Int)} (h : CS w blk cap n f) (ha : At f 0 R) (hR : 2 * R.length ≤ n) (hn : n ≤ cap) (hcap : cap ≤ maxLen) (h0 : w0.heap.size ≤ blk) : RI w w0.heap.size (.slice (some ⟨blk, 0, none⟩) (2 * R.length) cap) R := by
  obtain ⟨cs, h1, h2, h3⟩ := h
  refine own_mk h1 h0 (by omega) hcap h2 (List.ext_getElem? fun x => ?_)
  by_cases hx : x < 2 * R.length
  · rw [List.getElem?_take_of_lt hx, Array.getElem?_toList, h3 x (by omega)]
    obtain ⟨j, hj⟩ : ∃ j, x = 2 * j ∨ x = 2 * j + 1 := ⟨x / 2, by omega⟩
    have hjl : j < R.length := by omega
    obtain ⟨g1, g2⟩ := fl_get R j hjl
    have h4 := ha j hjl
    rw [Nat.zero_add] at h4
    rcases hj with rfl | rfl
    · rw [g1, h4.1]
    · rw [g2, h4.2]
  · rw [List.getElem?_eq_none (by rw [List.length_take]; omega), List.getElem?_eq_none (by rw [List.length_map, flat_len]; omega)]

set_option maxRecDepth 100000 in
set_option maxHeartbeats 8000000 in
theorem cleanClass_calls (w0 : World) (B hb blk cap N : Nat) (d : Array (Int × Int)) (w : World) (hN : N ≤ 100000000) (hN1 : 1 ≤ N) (hcap : N * 2 ≤ cap) (hcm : cap ≤ maxLen) (hd : d.size = N) (hok : ∀ p ∈ d.toList, okP p) (h0 : w0.heap.size ≤ blk ∧ w0.heap.size ≤ B) (hS : StB w0 B hb blk cap N d w) :
    Calls Tryd.prog 15 #[.pointer (some ⟨hb, 0, none⟩)] w (CPost w0 blk cap d.toList) := by
  have HC := Lib.hid (sort_calls (sk w0 B hb blk cap N hN hcap h0) (fun h => len_calls (by omega) h.1) d w hS hd)
  have HD := Lib.hid hd
  have HOK := Lib.hid hok
  clear hS hd hok
  go_enter Tryd.func15, Tryd.ntmps15
  go_wp2_with fail
  refine HC.out.mono ?_
  rintro e w1 ⟨rfl, d', hp, hs, hq⟩
  have hz := hq.1.1.cells.1
  have hnb := hq.1.1.ne
  obtain ⟨D, hDD⟩ : ∃ D, D = d'.toList := ⟨_, rfl⟩
  have hz2 : d'.size = N := hp.1.trans HD.out
  have hDl : D.length = N := by rw [hDD]; simpa using hz2
  have hget : ∀ i (h : i < D.length), d'[i]! = D[i] := fun i h => by
    subst hDD
    rw [getElem!_pos d' i (by simpa using h)]
    rfl
  have hperm : D.Perm d.toList := by
    have h2 := hp.2.2
    have e1 : d'.extract 0 N = d' := by rw [← hz2]; simp
    have e2 : d.extract 0 N = d := by rw [← HD.out]; simp
    rw [e1, e2] at h2
    rw [hDD]; exact h2
  have hsort : D.Pairwise fun p q => p.1 ≤ q.1 := List.pairwise_iff_getElem.2 fun i j hi hj hij => by
    have := hs i j (Nat.zero_le _) hij (by omega)
    rw [hget i hi, hget j hj] at this
    unfold ltP at this
    simp only [Bool.or_eq_false_iff, decide_eq_false_iff_not] at this
    omega
  have hok : ∀ p ∈ D, okP p := fun p hp => HOK.out p (hperm.mem_iff.1 hp)
  obtain ⟨p0, T0, hDc⟩ : ∃ p0 T0, D = p0 :: T0 := by
    cases D with
    | nil => simp at hDl; omega
    | cons p0 T0 => exact ⟨p0, T0, rfl⟩
  obtain ⟨R, hR⟩ : ∃ R, R = mgF [] p0 T0 := ⟨_, rfl⟩
  have hsp := List.pairwise_cons.1 (hDc ▸ hsort)
  obtain ⟨m1, m2, m3, m4⟩ := mg_says T0 [] p0 ⟨fun p hp => by rw [List.mem_singleton.1 hp]; exact hok p0 (by rw [hDc]; simp), List.pairwise_singleton _ _⟩ (fun p hp => hok p (by rw [hDc]; simp [hp])) hsp.1 hsp.2
  have HM : Hid (Can R ∧ (∀ c, inB R c = inB d.toList c) ∧ R.length ≤ d.toList.length ∧ R ≠ []) := by
    rw [hR]
    exact ⟨m1, fun c => by rw [m2 c, List.nil_append, ← hDc, inB_perm hperm], by have := hperm.length_eq; rw [hDc] at this; simp at m3 this ⊢; omega, m4⟩
  have H0 : Hid (∃ f, MW w0 w1 blk cap N R f [] p0 1 T0) := by
    obtain ⟨cs, c1, c2, c3⟩ := hq.1.1.row
    refine ⟨fun x => if x % 2 = 0 then (D.getD (x / 2) (0, 0)).1 else (D.getD (x / 2) (0, 0)).2, ?_, ?_, ?_, by rw [hDc] at hDl; simp at hDl; omega, by simp, hR.symm, hq.1.2, fun p hp => hok p (by rw [hDc]; simp [hp]), hok p0 (by rw [hDc]; simp)⟩
    · refine ⟨cs, c1, c2, fun x hx => ?_⟩
      obtain ⟨c4, c5⟩ := c3 (x / 2) (by omega)
      have hl : x / 2 < D.length := by omega
      rw [hget _ hl] at c4 c5
      simp only [List.getD_eq_getElem?_getD, List.getElem?_eq_getElem hl, Option.getD_some]
      by_cases e : x % 2 = 0
      · rw [if_pos e]; rw [show x / 2 * 2 = x by omega] at c4; exact c4
      · rw [if_neg e]; rw [show x / 2 * 2 + 1 = x by omega] at c5; exact c5
    · intro j hj
      obtain rfl : j = 0 := by simp at hj; omega
      rw [hDc]; exact ⟨rfl, rfl⟩
    · intro j hj
      rw [hDc]
      simp only
      rw [if_pos (by omega), if_neg (by omega), show 2 * (1 + j) / 2 = j + 1 by omega, show (2 * (1 + j) + 1) / 2 = j + 1 by omega]
      simp [List.getD_eq_getElem?_getD, hj]
  obtain ⟨n, hn⟩ : ∃ n, n = N * 2 := ⟨_, rfl⟩
  rw [← hn] at hz hcap
  have HN := Lib.hid hn
  have hn2 : 2 ≤ n ∧ n ≤ 200000000 := by omega
  have d2 : decide ((n : Int) < 2) = false := decide_eq_false (by omega)
  clear hp hs hq HC hDD hz2 hget hperm hsort hok hDc hsp m1 m2 m3 m4 hR hn hDl hN hN1
  go_wp2_with fail
  go_loopg [4, 5] n (fun gk s4 s5 wr => ∃ (f : Nat → Int) (o : List (Int × Int)) (last : Int × Int) (k : Nat) (T : List (Int × Int)) (I J : Nat), Hid (gk + I = n + 2 ∧ MW w0 wr blk cap N R f o last k T ∧ I = 2 * k ∧ J = 2 * (o.length + 1)) ∧ (J ≤ I ∧ I ≤ n ∧ 2 ≤ J) ∧ s4 = .int .i64 (J : Int) ∧ s5 = .int .i64 (I : Int))
  case atStart =>
    obtain ⟨f, hf⟩ := H0.out
    exact ⟨f, [], p0, 1, T0, 2, 2, ⟨by omega, hf, rfl, rfl⟩, ⟨Nat.le_refl _, hn2.1, Nat.le_refl _⟩, rfl, rfl⟩
  case round =>
    obtain ⟨f, o, last, k, T, I, J, HI, hIJ, rfl, rfl⟩ := hrel
    clear H0
    have hMW := HI.out.2.1
    by_cases hlt : I < n
    · have d1 : decide (I < n) = true := decide_eq_true hlt
      obtain ⟨p, T', rfl⟩ : ∃ p T', T = p :: T' := by
        cases T with
        | nil => have h1 := hMW.len; rw [List.length_nil] at h1; have := HI.out.2.2.1; have := HN.out; omega
        | cons p T' => exact ⟨p, T', rfl⟩
      obtain ⟨K, hK⟩ : ∃ K, K = J - 1 := ⟨_, rfl⟩
      have hlen := hMW.len
      simp at hlen
      have hIn : I + 1 < n := by have := HI.out.2.2.1; have := HN.out; omega
      obtain ⟨a1, a2⟩ := hMW.ak.cons.1
      obtain ⟨l1, l2⟩ := hMW.a0.last
      have x1 := hMW.cs.cell (x := I) (by have := HN.out; omega)
      have x2 := hMW.cs.cell (x := I + 1) (by have := HN.out; omega)
      have x3 := hMW.cs.cell (x := K) (by have := HN.out; omega)
      have x4 := hMW.cs.cell (x := J) (by have := HN.out; omega)
      have x5 := hMW.cs.cell (x := J + 1) (by have := HN.out; omega)
      rw [show f I = p.1 by rw [HI.out.2.2.1]; exact a1] at x1
      rw [show f (I + 1) = p.2 by rw [HI.out.2.2.1]; exact a2] at x2
      rw [show f K = last.2 by rw [hK, HI.out.2.2.2, show 2 * (o.length + 1) - 1 = 2 * o.length + 1 by omega]; exact l2] at x3
      obtain ⟨z1, y1⟩ := x1
      obtain ⟨z2, y2⟩ := x2
      obtain ⟨z3, y3⟩ := x3
      obtain ⟨z4, y4⟩ := x4
      obtain ⟨z5, y5⟩ := x5
      have hop := hMW.ok.1 p (by simp)
      have hol := hMW.ok.2
      unfold okP at hop hol
      have eK : (J : Int) - 1 = (K : Int) := by omega
      have HK := Lib.hid (show K = 2 * o.length + 1 by have := HI.out.2.2.2; omega)
      have hKn : K < n ∧ J + 1 < n ∧ n ≤ cap := by omega
      obtain ⟨pl, ph⟩ := p
      obtain ⟨ll, lh⟩ := last
      simp only at z1 z2 z3 hop hol
      have HMW := Lib.hid hMW
      generalize f J = v4 at z4
      generalize f (J + 1) = v5 at z5
      clear hMW a1 a2 l1 l2 hK hlen y1 y2
      go_wp2_with fail
      go_quiet (fail)
      by_cases t1 : pl ≤ lh + 1
      · have k1 : decide (pl ≤ lh + 1) = true := decide_eq_true t1
        by_cases t2 : ph > lh
        · have k2 : decide (lh < ph) = true := decide_eq_true t2
          have HG := Lib.hid ((HMW.out.drewN nq).grow t1 t2 (by have := HN.out; omega) h0.1)
          rw [← HK.out] at HG
          go_wp2_with fail
          go_roundg (gk - 2)
          case measure => have := HI.out.1; omega
          case rel => exact ⟨_, o, (ll, ph), k + 1, T', I + 2, J, ⟨by have := HI.out.1; omega, HG.out, by have := HI.out.2.2.1; omega, HI.out.2.2.2⟩, ⟨by omega, by omega, by omega⟩, rfl, by go_num⟩
        · have k2 : decide (lh < ph) = false := decide_eq_false t2
          have HG := Lib.hid ((HMW.out.drewN nq).in_ t1 t2)
          go_wp2_with fail
          go_roundg (gk - 2)
          case measure => have := HI.out.1; omega
          case rel => exact ⟨_, o, (ll, lh), k + 1, T', I + 2, J, ⟨by have := HI.out.1; omega, HG.out, by have := HI.out.2.2.1; omega, HI.out.2.2.2⟩, ⟨by omega, by omega, by omega⟩, rfl, by go_num⟩
      · have k1 : decide (pl ≤ lh + 1) = false := decide_eq_false t1
        have HG := Lib.hid ((HMW.out.drewN nq).new t1 (by have := HN.out; omega) h0.1)
        rw [← HI.out.2.2.2] at HG
        go_wp2_with fail
        go_roundg (gk - 2)
        case measure => have := HI.out.1; omega
        case rel => exact ⟨_, o ++ [(ll, lh)], (pl, ph), k + 1, T', I + 2, J + 2, ⟨by have := HI.out.1; omega, HG.out, by have := HI.out.2.2.1; omega, by rw [List.length_append]; have := HI.out.2.2.2; simp; omega⟩, ⟨by omega, by omega, by omega⟩, by go_num, by go_num⟩
    · have d1 : decide (I < n) = false := decide_eq_false hlt
      have hT : T = [] := List.length_eq_zero_iff.1 (by have := hMW.len; have := HI.out.2.2.1; have := HN.out; omega)
      subst hT
      have hR : o ++ [last] = R := hMW.mg
      have hRl : J = 2 * R.length := by rw [← hR, HI.out.2.2.2]; simp
      have HFin := Lib.hid (show CPost w0 blk cap d.toList (.returned (.slice (some ⟨blk, 0, none⟩) J cap)) wr from ⟨R, by rw [hRl], HM.out.1, HM.out.2.1, HM.out.2.2.1, HM.out.2.2.2, ri_of hMW.cs (by rw [← hR]; exact hMW.a0) (by have := HN.out; omega) (by have := HN.out; omega) hcm h0.1, hMW.bl⟩)
      have hJc : J ≤ cap := by omega
      clear hMW hR hRl
      go_wp2_with fail
      go_ret
      exact HFin.out
end Go.Proofs.YtkcnodkojllobaaDoor.Fld
