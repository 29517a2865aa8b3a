/- sort.Sort over pairs of characters (type ranges of regexp/syntax): the walks of Len, Less, Swap; sorted, a permutation. -/
import Derived.Test.YtkcnodkojllobaaDoorZg
namespace Go.Proofs.YtkcnodkojllobaaDoor.Srt
open Go Go.RowKit Go.Sort Go.Proofs.YtkcnodkojllobaaDoor.Row Go.Proofs.YtkcnodkojllobaaDoorW.PrintWords Go.Proofs.YtkcnodkojllobaaDoorW.PrintLast Go.Proofs.YtkcnodkojllobaaDoorW.PrintMore
set_option linter.unusedVariables false
set_option linter.unusedSimpArgs false

section
variable {α : Type} [Inhabited α] {N B hb : Nat} {lt : α → α → Bool} {St : Array α → World → Prop}
set_option maxRecDepth 100000 in
set_option maxHeartbeats 4000000 in
theorem sort_calls (h : SK N B hb lt St) (hlen : ∀ {d w}, St d w → Calls Tryd.prog 54 #[RV hb] w fun e w' => e = .returned (.int .i64 (N : Int)) ∧ Fr (fun _ => False) w w') (d : Array α) (w : World) (hs : St d w) (hd : d.size = N) :
    Calls Tryd.prog 19 #[.iface 44 (RV hb)] w fun e w' => e = .returned (.tuple #[]) ∧ Srtd lt B St 0 N d w w' := by
  have hNs := h.small
  have mN := method_len hb
  have HK := Lib.hid h
  have HL := Lib.hid (hlen hs)
  have HS := Lib.hid hs
  have HD := Lib.hid hd
  have hwr : IntKind.u64.wrap (N : Int) = (N : Int) := by simp [IntKind.wrap, IntKind.bits, IntKind.signed]; omega
  have hbl : Lib.bitLen N ≤ 62 := Lib.bitLen_le N 62 (by omega) (by omega)
  have HBL := Lib.hid (fun w => Go.Proofs.Tryd.bits_Len (N : Int) w (by omega) (by omega))
  clear h hlen hs hd
  go_enter Tryd.func19, Tryd.ntmps19
  go_wp2_with fail
  refine HL.out.mono ?_
  rintro e w1 ⟨rfl, hf1⟩
  have HS1 := Lib.hid (HK.out.quiet HS.out hf1)
  have HF1 := Lib.hid hf1
  clear hf1 HL
  by_cases hn : N ≤ 1
  · have d1 : decide ((N : Int) ≤ 1) = true := decide_eq_true (by omega)
    go_wp2_with fail
    (try simp only [Exit.inBlock, Exit.then]); refine bodyPost_ret (results_none rfl _ _ _) rfl ?_
    exact ⟨rfl, d, permIn_refl _ _ _, fun i j _ h1 h2 => by omega, HS1.out, HF1.out.quiet⟩
  · have d1 : decide ((N : Int) ≤ 1) = false := decide_eq_false (by omega)
    go_wp2_with fail
    refine (HBL.out w1).mono ?_
    rintro e w2 ⟨rfl, rfl⟩
    have HP := Lib.hid (pdqsort_calls HK.out (N + 1) 0 N (Lib.bitLen N) d w2 (by omega) HS1.out HD.out (Nat.zero_le _) (Nat.le_refl _) (by omega) (.inl rfl))
    rw [Int.toNat_natCast]
    generalize Lib.bitLen N = bl at *
    go_wp2_with fail
    refine HP.out.mono ?_
    rintro e w3 ⟨rfl, d', p1, p2, p3⟩
    have HR := Lib.hid (show Srtd lt B St 0 N d w w3 from ⟨d', p1, p2, p3.1, HF1.out.quiet.trans p3.2⟩)
    clear p1 p2 p3 HP
    go_wp2_with fail
    go_end0
    exact ⟨rfl, HR.out⟩
end

/-- The order of pairs: by the first, then the greater second one first. -/
def ltP (p q : Int × Int) : Bool := decide (p.1 < q.1) || (p.1 == q.1 && decide (p.2 > q.2))
theorem swoP : SWO ltP where
  irrefl := fun x => by unfold ltP; simp
  trans := fun x y z h1 h2 => by
    unfold ltP at *
    simp only [Bool.or_eq_true, Bool.and_eq_true, decide_eq_true_eq, beq_iff_eq] at *
    omega
  ntrans := fun x y z h1 h2 => by
    unfold ltP at *
    simp only [Bool.or_eq_false_iff, Bool.and_eq_false_iff, decide_eq_false_iff_not, beq_eq_false_iff_ne] at *
    omega
/-- Pairs in memory, behind a boxed slice. -/
structure StP (B hb blk cap N : Nat) (d : Array (Int × Int)) (w : World) : Prop where
  box : w.heap[hb]? = some (.cells #[.slice (some ⟨blk, 0, none⟩) (N * 2) cap] 22 (0, 0))
  row : ∃ cs : Array Value, w.heap[blk]? = some (.cells cs 21 (0, 0)) ∧ cs.size = cap ∧ ∀ i, i < N → cs[i * 2]? = some (.int .i32 (d[i]!).1) ∧ cs[i * 2 + 1]? = some (.int .i32 (d[i]!).2)
  lt : hb < B ∧ blk < B ∧ B ≤ w.heap.size
section
variable {B hb blk cap N : Nat} {d : Array (Int × Int)} {w w' : World}
theorem StP.ne (h : StP B hb blk cap N d w) : hb ≠ blk := by
  obtain ⟨cs, h1, _⟩ := h.row
  exact blk_ne h.box h1 (by decide)
theorem StP.keep (h : StP B hb blk cap N d w) (hf : Fr (fun x => B ≤ x) w w') : StP B hb blk cap N d w' := by
  obtain ⟨cs, h1, h2⟩ := h.row
  exact ⟨(hf.block hb (blk_lt h.box) (by have := h.lt; omega)).trans h.box, ⟨cs, (hf.block blk (blk_lt h1) (by have := h.lt; omega)).trans h1, h2⟩, h.lt.1, h.lt.2.1, Nat.le_trans h.lt.2.2 hf.size⟩
theorem StP.cells (h : StP B hb blk cap N d w) : w.cell? ⟨hb, 0, none⟩ = some (.slice (some ⟨blk, 0, none⟩) (N * 2) cap) ∧ ∀ i, i < N → w.cell? ⟨blk, i * 2, none⟩ = some (.int .i32 (d[i]!).1) ∧ w.cell? ⟨blk, i * 2 + 1, none⟩ = some (.int .i32 (d[i]!).2) := by
  obtain ⟨cs, h1, h2, h3⟩ := h.row
  exact ⟨(blk_cell h.box 0).trans rfl, fun i hi => ⟨(blk_cell h1 _).trans (h3 i hi).1, (blk_cell h1 _).trans (h3 i hi).2⟩⟩

theorem set4_get {cs : Array Value} {x0 x1 x2 x3 : Nat} {v0 v1 v2 v3 : Value} (h0 : x0 < cs.size) (h1 : x1 < cs.size) (h2 : x2 < cs.size) (h3 : x3 < cs.size) (x : Nat) :
    ((((cs.setIfInBounds x0 v0).setIfInBounds x1 v1).setIfInBounds x2 v2).setIfInBounds x3 v3)[x]? = if x = x3 then some v3 else if x = x2 then some v2 else if x = x1 then some v1 else if x = x0 then some v0 else cs[x]? := by
  by_cases e3 : x = x3
  · subst e3; rw [if_pos rfl, Array.getElem?_setIfInBounds_self_of_lt (by simpa using h3)]
  · rw [if_neg e3, Array.getElem?_setIfInBounds_ne (fun e => e3 e.symm)]
    by_cases e2 : x = x2
    · subst e2; rw [if_pos rfl, Array.getElem?_setIfInBounds_self_of_lt (by simpa using h2)]
    · rw [if_neg e2, Array.getElem?_setIfInBounds_ne (fun e => e2 e.symm)]
      by_cases e1 : x = x1
      · subst e1; rw [if_pos rfl, Array.getElem?_setIfInBounds_self_of_lt (by simpa using h1)]
      · rw [if_neg e1, Array.getElem?_setIfInBounds_ne (fun e => e1 e.symm)]
        by_cases e0 : x = x0
        · subst e0; rw [if_pos rfl, Array.getElem?_setIfInBounds_self_of_lt (by simpa using h0)]
        · rw [if_neg e0, Array.getElem?_setIfInBounds_ne (fun e => e0 e.symm)]
theorem swp_get {α : Type} [Inhabited α] (d : Array α) (i j k : Nat) (hi : i < d.size) (hj : j < d.size) : (swp d i j)[k]! = if k = j then d[i]! else if k = i then d[j]! else d[k]! := by
  by_cases e : k = j
  · subst e; rw [if_pos rfl, swp_right d i k hj]
  · rw [if_neg e]
    by_cases e2 : k = i
    · subst e2; rw [if_pos rfl, swp_left d k j hi (fun h => e h)]
    · rw [if_neg e2, swp_other d i j k e2 e]
/-- Two pairs change places. -/
theorem StP.turn (h : StP B hb blk cap N d w) (hcap : N * 2 ≤ cap) (hd : d.size = N) {i j : Nat} (hi : i < N) (hj : j < N) {pl ph ql qh : Int} (hp : (pl, ph) = d[i]!) (hq : (ql, qh) = d[j]!) :
    StP B hb blk cap N (swp d i j) ((((w.setCell ⟨blk, i * 2, none⟩ (.int .i32 ql)).setCell ⟨blk, i * 2 + 1, none⟩ (.int .i32 qh)).setCell ⟨blk, j * 2, none⟩ (.int .i32 pl)).setCell ⟨blk, j * 2 + 1, none⟩ (.int .i32 ph)) := by
  obtain ⟨cs, h1, h2, h3⟩ := h.row
  have hne := h.ne
  have r1 := blk_set (blk_set (blk_set (blk_set h1 (i * 2) (.int .i32 ql)) (i * 2 + 1) (.int .i32 qh)) (j * 2) (.int .i32 pl)) (j * 2 + 1) (.int .i32 ph)
  refine ⟨?_, ⟨_, r1, by simp [h2], fun k hk => ?_⟩, h.lt.1, h.lt.2.1, by have := h.lt.2.2; simp [World.setCell]; exact this⟩
  · exact (Below.heap_setCell _ _ _ _ hne).trans ((Below.heap_setCell _ _ _ _ hne).trans ((Below.heap_setCell _ _ _ _ hne).trans ((Below.heap_setCell _ _ _ _ hne).trans h.box)))
  · rw [set4_get (by omega) (by omega) (by omega) (by omega), set4_get (by omega) (by omega) (by omega) (by omega), swp_get d i j k (by omega) (by omega)]
    by_cases e : k = j
    · subst e
      rw [if_neg (by omega), if_pos rfl, if_pos rfl, if_pos rfl, ← hp]
      exact ⟨rfl, rfl⟩
    · rw [if_neg (by omega), if_neg (by omega), if_neg (show ¬ k * 2 + 1 = j * 2 + 1 by omega), if_neg (show ¬ k * 2 + 1 = j * 2 by omega), if_neg e]
      by_cases e2 : k = i
      · subst e2
        rw [if_neg (by omega), if_pos rfl, if_pos rfl, if_pos rfl, ← hq]
        exact ⟨rfl, rfl⟩
      · rw [if_neg (by omega), if_neg (by omega), if_neg (show ¬ k * 2 + 1 = i * 2 + 1 by omega), if_neg (show ¬ k * 2 + 1 = i * 2 by omega), if_neg e2]
        exact h3 k hk
theorem Fr.set4 {S : Nat → Prop} {w0 w : World} (h : Fr S w0 w) (hb : S blk) (x0 x1 x2 x3 : Nat) (v0 v1 v2 v3 : Value) : Fr S w0 ((((w.setCell ⟨blk, x0, none⟩ v0).setCell ⟨blk, x1, none⟩ v1).setCell ⟨blk, x2, none⟩ v2).setCell ⟨blk, x3, none⟩ v3) :=
  (((h.set v0 (.inl hb)).set v1 (.inl hb)).set v2 (.inl hb)).set v3 (.inl hb)
theorem StP.drewN (h : StP B hb blk cap N d w) (m : Nat) : StP B hb blk cap N d (w.drewN m) := h.keep ((Fr.refl _ _).drewN m)

set_option maxRecDepth 100000 in
set_option maxHeartbeats 4000000 in
theorem len_calls (hN : N ≤ 1000000000) (h : StP B hb blk cap N d w) : Calls Tryd.prog 54 #[RV hb] w fun e w' => e = .returned (.int .i64 (N : Int)) ∧ Fr (fun _ => False) w w' := by
  have hz := h.cells.1
  have hlt := blk_lt h.box
  have hz1 : ∀ o, (w.alloc o).cell? ⟨hb, 0, none⟩ = some (.slice (some ⟨blk, 0, none⟩) (N * 2) cap) := fun o => ((below_alloc (Below.refl _ w) o).cell (World.block_lt_of_cell? w _ hz)).trans hz
  have e2 : ((N * 2 : Nat) : Int) / 2 = (N : Int) := by omega
  clear h hz
  go_enter Tryd.func54, Tryd.ntmps54
  go_wp2_with fail
  go_ret
  exact ⟨by first | rfl | (congr 2; omega), (Fr.refl _ _).alloc _⟩

set_option maxRecDepth 100000 in
set_option maxHeartbeats 4000000 in
theorem less_calls (hN : N ≤ 1000000000) (hcap : N * 2 ≤ cap) (h : StP B hb blk cap N d w) (i j : Nat) (hi : i < N) (hj : j < N) : Calls Tryd.prog 55 #[RV hb, .int .i64 (i : Int), .int .i64 (j : Int)] w fun e w' => e = .returned (.bool (ltP d[i]! d[j]!)) ∧ Fr (fun _ => False) w w' := by
  obtain ⟨hz, hcs⟩ := h.cells
  obtain ⟨ci0, ci1⟩ := hcs i hi
  obtain ⟨cj0, cj1⟩ := hcs j hj
  generalize d[i]! = p at *
  generalize d[j]! = q at *
  obtain ⟨pl, ph⟩ := p
  obtain ⟨ql, qh⟩ := q
  have k : ∀ {a : Addr} {v : Value}, w.cell? a = some v → ∀ o, (w.alloc o).cell? a = some v := fun hc o => ((below_alloc (Below.refl _ w) o).cell (World.block_lt_of_cell? w _ hc)).trans hc
  have hz1 := k hz
  have hi0 := k ci0
  have hi1 := k ci1
  have hj0 := k cj0
  have hj1 := k cj1
  have HF := Lib.hid (fun o => (Fr.refl (fun _ => False) w).alloc o)
  clear h hz hcs ci0 ci1 cj0 cj1 k
  simp only at hi0 hi1 hj0 hj1
  go_enter Tryd.func55, Tryd.ntmps55
  go_upto_region 4 with (fail)
  have HF1 := Lib.hid (HF.out (.cells #[.pointer (some ⟨hb, 0, none⟩)] 44))
  have gi0 := hi0 (.cells #[.pointer (some ⟨hb, 0, none⟩)] 44)
  have gi1 := hi1 (.cells #[.pointer (some ⟨hb, 0, none⟩)] 44)
  have gj0 := hj0 (.cells #[.pointer (some ⟨hb, 0, none⟩)] 44)
  have gj1 := hj1 (.cells #[.pointer (some ⟨hb, 0, none⟩)] 44)
  clear hi0 hi1 hj0 hj1 hz1 HF
  generalize w.alloc (.cells #[.pointer (some ⟨hb, 0, none⟩)] 44) = w1 at *
  have b1 : i * 2 + 1 < N * 2 := by omega
  have b2 : j * 2 + 1 < N * 2 := by omega
  by_cases h1 : pl < ql
  · have d1 : decide (pl < ql) = true := decide_eq_true h1
    go_quiet (fail)
    go_wp2_with fail
    go_ret
    exact ⟨by simp [ltP, h1], HF1.out.drewN _⟩
  · have d1 : decide (pl < ql) = false := decide_eq_false h1
    by_cases h2 : pl = ql
    · have d2 : (pl == ql) = true := beq_iff_eq.2 h2
      have d3 : decide (pl = ql) = true := decide_eq_true h2
      go_quiet (fail)
      go_wp2_with fail
      go_ret
      exact ⟨by simp [ltP, h2], HF1.out.drewN _⟩
    · have d2 : (pl == ql) = false := beq_eq_false_iff_ne.2 h2
      have d3 : decide (pl = ql) = false := decide_eq_false h2
      go_quiet (fail)
      go_wp2_with fail
      go_ret
      exact ⟨by simp [ltP, h1, h2], HF1.out.drewN _⟩

set_option maxRecDepth 100000 in
set_option maxHeartbeats 4000000 in
theorem swap_calls (hN : N ≤ 1000000000) (hcap : N * 2 ≤ cap) (hd : d.size = N) (h : StP B hb blk cap N d w) (i j : Nat) (hi : i < N) (hj : j < N) : Calls Tryd.prog 56 #[RV hb, .int .i64 (i : Int), .int .i64 (j : Int)] w fun e w' => e = .returned (.tuple #[]) ∧ StP B hb blk cap N (swp d i j) w' ∧ Fr (fun x => x = blk) w w' := by
  obtain ⟨hz, hcs⟩ := h.cells
  obtain ⟨ci0, ci1⟩ := hcs i hi
  obtain ⟨cj0, cj1⟩ := hcs j hj
  obtain ⟨cs, hrow, hrz, hrc⟩ := h.row
  have HH := Lib.hid h
  have HRW := Lib.hid hrow
  obtain ⟨p, hp⟩ : ∃ p, p = d[i]! := ⟨_, rfl⟩
  obtain ⟨q, hq⟩ : ∃ q, q = d[j]! := ⟨_, rfl⟩
  rw [← hp] at ci0 ci1
  rw [← hq] at cj0 cj1
  have HPQ := Lib.hid (And.intro hp hq)
  obtain ⟨pl, ph⟩ := p
  obtain ⟨ql, qh⟩ := q
  have k : ∀ {a : Addr} {v : Value}, w.cell? a = some v → ∀ o, (w.alloc o).cell? a = some v := fun hc o => ((below_alloc (Below.refl _ w) o).cell (World.block_lt_of_cell? w _ hc)).trans hc
  have hz1 := k hz
  have hi0 := k ci0
  have hi1 := k ci1
  have hj0 := k cj0
  have hj1 := k cj1
  clear h hz hcs ci0 ci1 cj0 cj1 k hp hq hrow
  simp only at hi0 hi1 hj0 hj1
  go_enter Tryd.func56, Tryd.ntmps56
  go_upto_region 4 with (fail)
  have gi0 := hi0 (.cells #[.pointer (some ⟨hb, 0, none⟩)] 44)
  have gi1 := hi1 (.cells #[.pointer (some ⟨hb, 0, none⟩)] 44)
  have gj0 := hj0 (.cells #[.pointer (some ⟨hb, 0, none⟩)] 44)
  have gj1 := hj1 (.cells #[.pointer (some ⟨hb, 0, none⟩)] 44)
  have HF1 := Lib.hid ((Fr.refl (fun _ => False) w).alloc (.cells #[.pointer (some ⟨hb, 0, none⟩)] 44))
  clear hi0 hi1 hj0 hj1 hz1
  generalize w.alloc (.cells #[.pointer (some ⟨hb, 0, none⟩)] 44) = w1 at *
  have gf : ∀ x, w1.frozen? ⟨blk, x, none⟩ = false := blk_frozen ((HF1.out.block blk (blk_lt HRW.out) (fun e => e)).trans HRW.out)
  have b1 : i * 2 + 1 < N * 2 := by omega
  have b2 : j * 2 + 1 < N * 2 := by omega
  have HS1 := Lib.hid (HH.out.keep HF1.out.quiet)
  by_cases hij : i = j
  · subst hij
    go_region
    all_goals
      go_wp2_with fail
      go_end0
      obtain ⟨e1, e2⟩ : pl = ql ∧ ph = qh := by have := HPQ.out.1.trans HPQ.out.2.symm; simpa using this
      subst e1; subst e2
      exact ⟨rfl, (HS1.out.turn hcap hd hi hj HPQ.out.1 HPQ.out.2).drewN 1, ((Fr.set4 (S := fun x => x = blk) HF1.out.quiet rfl _ _ _ _ _ _ _ _).drewN 1)⟩
  · have n1 : i * 2 ≠ j * 2 := by omega
    have n2 : i * 2 ≠ j * 2 + 1 := by omega
    have n3 : i * 2 + 1 ≠ j * 2 := by omega
    have n4 : i * 2 + 1 ≠ j * 2 + 1 := by omega
    go_region
    all_goals
      go_wp2_with fail
      go_end0
      exact ⟨rfl, (HS1.out.turn hcap hd hi hj HPQ.out.1 HPQ.out.2).drewN 1, ((Fr.set4 (S := fun x => x = blk) HF1.out.quiet rfl _ _ _ _ _ _ _ _).drewN 1)⟩
end
end Go.Proofs.YtkcnodkojllobaaDoor.Srt
