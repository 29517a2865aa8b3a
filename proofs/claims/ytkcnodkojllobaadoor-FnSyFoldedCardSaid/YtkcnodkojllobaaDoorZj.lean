/- appendRange: the walk; a row that the call owns. -/
import Derived.Test.YtkcnodkojllobaaDoorZi
import Derived.Test.YtkcnodkojllobaaDoorRow
import Derived.Test.YtkcnodkojllobaaDoorProg
import Derived.Laws.AppendOwnNone
namespace Go.Proofs.YtkcnodkojllobaaDoor.Fld
open Go Go.RowKit Go.Proofs.YtkcnodkojllobaaDoor.EvN Go.Proofs.YtkcnodkojllobaaDoor.Row Go.Proofs.YtkcnodkojllobaaDoorW.PrintWords Go.Proofs.YtkcnodkojllobaaDoorW.PrintLast Go.Proofs.YtkcnodkojllobaaDoorW.PrintMore
set_option linter.unusedVariables false
set_option linter.unusedSimpArgs false

/-- append(v, xs...): a row to a slice that the call owns; it is nil only where it was. -/
theorem appmn {P : Program} {w : World} {ops : Array Oper} {rest : List Oper} {o : Oper} {a : Act} {Q : Exit → Act → World → Prop} (hgd : o.guard = none) (s x : Operand) (t : TypeId)
    (ho : o.op = .call { callee := .builtin .append, args := #[s, x], argTypes := #[t, t] })
    (e : TypeId) (z : Value) (bytes : Nat) (ht : P.underlying t = some (.slice e)) (hinfo : (P.info? e).map (fun i => (i.zero, i.size, i.bytes)) = some (some z, 1, bytes)) (hz1 : z.cells.size = 1)
    (v : Value) (n : Nat) (xs : List Value) (hs : a.eval s = v) (B : Nat) (w0 : World) (hown : w.ownsRow B e 1 v n xs) (hB : Below B w0 w) (hBw : B ≤ w0.heap.size)
    (vx : Value) (S : Nat → Prop) (news : List Value) (hx : a.eval x = vx) (hrow : RowAt w S e vx news) (h1 : ∀ u ∈ news, u.oneCell' = true)
    (hbytes : (n + news.length) * bytes ≤ 140737488355328) (hn : n + news.length ≤ maxLen)
    (h : ∀ v' w', Hid (w'.ownsRow B e 1 v' (n + news.length) (xs ++ news)) → Hid (Below B w0 w') → Hid (w.grownBy w' v.ownBlock) → Hid (v ≠ .slice none 0 0 → v' ≠ .slice none 0 0) → wpList P ops Q rest (a.put o.dst v') w') : wpList P ops Q (o :: rest) a w := by
  obtain ⟨i, hi, hz, hsize, hby⟩ := info_parts hinfo
  rcases hrow with ⟨rfl, rfl⟩ | ⟨g, cap, cur, rfl, _, hg, k1, k2, k3, k4⟩
  · refine wpList_append_own_none hgd s x t ho B e i 1 ht hi v n xs hs hown hx ?_
    exact h v w (Lib.hid (by simpa using hown)) (Lib.hid hB) (Lib.hid (grown_refl w _)) (Lib.hid id)
  · refine wpList_append_own w hgd s x t ho B e i z 1 bytes ht hi hz hsize hby hz1 (by decide) v n xs hs hown ⟨g, 0, none⟩ news.length cap news hx (by omega) ?_ h1 hn hbytes (Nat.le_trans hBw hB.size) ?_
    · intro j u hj
      have e1 : (⟨g, 0, none⟩ : Addr).add j = ⟨g, j, none⟩ := by unfold Addr.add; split <;> simp_all
      rw [e1, blk_cell hg j, ← Array.getElem?_toList]
      have hjl : j < news.length := (List.getElem?_eq_some_iff.1 hj).1
      rw [← hj, ← k4, List.getElem?_take_of_lt hjl]
    · intro v' w' hown' hgrow hnil
      exact h v' w' hown' (hB.grown hgrow (Nat.le_trans hBw hB.size) (fun k hk => (hown.lt k hk).1)) hgrow (Lib.hid fun hv e => hv (hnil.1 e).1)

theorem own_at {w : World} {B n cap g : Nat} {e : TypeId} {xs : List Value} (h : w.ownsRow B e 1 (.slice (some ⟨g, 0, none⟩) n cap) n xs) : ∃ cur, w.heap[g]? = some (.cells cur e (0, 0)) ∧ B ≤ g ∧ n ≤ cap ∧ cap ≤ maxLen ∧ cur.size = cap ∧ cur.toList.take n = xs := by
  rcases h.2 with ⟨e1, _⟩ | ⟨g', cap', cur, e1, hb, hg, h1, h2, h3, h4⟩
  · cases e1
  · cases e1
    exact ⟨cur, hg, hb, h1, h2, by omega, by rw [Nat.mul_one] at h4; exact h4⟩
theorem own_mk {w : World} {B n cap g : Nat} {e : TypeId} {xs : List Value} {cur : Array Value} (hg : w.heap[g]? = some (.cells cur e (0, 0))) (hB : B ≤ g) (h1 : n ≤ cap) (h2 : cap ≤ maxLen) (h3 : cur.size = cap) (h4 : cur.toList.take n = xs) : w.ownsRow B e 1 (.slice (some ⟨g, 0, none⟩) n cap) n xs :=
  ⟨by rw [← h4, List.length_take]; have : cur.toList.length = cur.size := (by simp); omega, .inr ⟨g, cap, cur, rfl, hB, hg, h1, h2, by omega, by rw [Nat.mul_one]; exact h4⟩⟩
theorem own_cell {w : World} {B n cap g : Nat} {e : TypeId} {xs : List Value} (h : w.ownsRow B e 1 (.slice (some ⟨g, 0, none⟩) n cap) n xs) {j : Nat} {u : Value} (hj : xs[j]? = some u) : w.cell? ⟨g, j, none⟩ = some u ∧ w.frozen? ⟨g, j, none⟩ = false := by
  obtain ⟨cur, hg, _, h1, _, h3, h4⟩ := own_at h
  refine ⟨?_, blk_frozen hg j⟩
  have hlt : j < n := by have := (List.getElem?_eq_some_iff.1 hj).1; rw [← h4, List.length_take] at this; omega
  rw [blk_cell hg j, ← Array.getElem?_toList, ← hj, ← h4, List.getElem?_take_of_lt hlt]
theorem own_set {w : World} {B n cap g : Nat} {e : TypeId} {xs : List Value} (h : w.ownsRow B e 1 (.slice (some ⟨g, 0, none⟩) n cap) n xs) (j : Nat) (u : Value) : (w.setCell ⟨g, j, none⟩ u).ownsRow B e 1 (.slice (some ⟨g, 0, none⟩) n cap) n (xs.set j u) := by
  obtain ⟨cur, hg, hB, h1, h2, h3, h4⟩ := own_at h
  refine own_mk (blk_set hg j u) hB h1 h2 (by simpa using h3) ?_
  rw [← h4, Array.toList_setIfInBounds, List.take_set]
/-- Pairs in a row of the call's own. -/
def RI (w : World) (B : Nat) (v : Value) (P : List (Int × Int)) : Prop := w.ownsRow B 21 1 v (2 * P.length) ((flat P).map (Value.int .i32))
theorem RI.below {w w' : World} {B : Nat} {v : Value} {P : List (Int × Int)} (h : RI w B v P) (hb : Below w.heap.size w w') : RI w' B v P := pw_own_below h hb
theorem RI.drewN {w : World} {B : Nat} {v : Value} {P : List (Int × Int)} (h : RI w B v P) (n : Nat) : RI (w.drewN n) B v P := h
theorem ii32 : (Tryd.prog.info? 21).map (fun i => (i.zero, i.size, i.bytes)) = some (some (.int .i32 0), 1, 4) := by kernel_rfl
theorem fl_get (P : List (Int × Int)) (q : Nat) (hq : q < P.length) : ((flat P).map (Value.int .i32))[2 * q]? = some (.int .i32 P[q].1) ∧ ((flat P).map (Value.int .i32))[2 * q + 1]? = some (.int .i32 P[q].2) := by
  obtain ⟨g1, g2⟩ := flat_get P q hq
  exact ⟨by rw [List.getElem?_map, g1]; rfl, by rw [List.getElem?_map, g2]; rfl⟩
theorem set_same {α : Type} {l : List α} {i : Nat} {v : α} (h : l[i]? = some v) : l.set i v = l := by
  obtain ⟨h1, h2⟩ := List.getElem?_eq_some_iff.1 h
  rw [← h2, List.set_getElem_self]
theorem RI.set1 {w : World} {B g cap : Nat} {P : List (Int × Int)} (h : RI w B (.slice (some ⟨g, 0, none⟩) (2 * P.length) cap) P) (q : Nat) (x y : Int) : RI ((w.setCell ⟨g, 2 * q, none⟩ (.int .i32 x)).setCell ⟨g, 2 * q + 1, none⟩ (.int .i32 y)) B (.slice (some ⟨g, 0, none⟩) (2 * P.length) cap) (P.set q (x, y)) := by
  have h2 := own_set (own_set h (2 * q) (.int .i32 x)) (2 * q + 1) (.int .i32 y)
  unfold RI
  rw [List.length_set, flat_set, List.map_set, List.map_set]
  exact h2
theorem RI.setL {w : World} {B g cap : Nat} {P : List (Int × Int)} (h : RI w B (.slice (some ⟨g, 0, none⟩) (2 * P.length) cap) P) (q : Nat) (hq : q < P.length) (x : Int) : RI (w.setCell ⟨g, 2 * q, none⟩ (.int .i32 x)) B (.slice (some ⟨g, 0, none⟩) (2 * P.length) cap) (P.set q (x, P[q].2)) := by
  have h2 := own_set h (2 * q) (.int .i32 x)
  unfold RI
  rw [List.length_set, flat_set, List.map_set, List.map_set, set_same (i := 2 * q + 1) (by rw [List.getElem?_set_ne (by omega)]; exact (fl_get P q hq).2)]
  exact h2
theorem RI.setH {w : World} {B g cap : Nat} {P : List (Int × Int)} (h : RI w B (.slice (some ⟨g, 0, none⟩) (2 * P.length) cap) P) (q : Nat) (hq : q < P.length) (y : Int) : RI (w.setCell ⟨g, 2 * q + 1, none⟩ (.int .i32 y)) B (.slice (some ⟨g, 0, none⟩) (2 * P.length) cap) (P.set q (P[q].1, y)) := by
  have h2 := own_set h (2 * q + 1) (.int .i32 y)
  unfold RI
  rw [List.length_set, flat_set, List.map_set, List.map_set, set_same (i := 2 * q) (fl_get P q hq).1]
  exact h2
theorem RI.form {w : World} {B : Nat} {v : Value} {P : List (Int × Int)} (h : RI w B v P) (hne : 0 < P.length) : ∃ g cap, v = .slice (some ⟨g, 0, none⟩) (2 * P.length) cap ∧ B ≤ g ∧ 2 * P.length ≤ cap := by
  rcases h.2 with ⟨e1, e2⟩ | ⟨g', cap', cur, e1, hb, hg, h1, h2, h3, h4⟩
  · have := h.1
    rw [e2] at this
    simp at this
    omega
  · exact ⟨g', cap', e1, hb, h1⟩

/-- What a range added leaves, in memory. -/
def APost (w0 : World) (P : List (Int × Int)) (lo hi : Int) (e : Ending) (w' : World) : Prop := ∃ v' Q, e = .returned v' ∧ Added P lo hi Q ∧ RI w' w0.heap.size v' Q ∧ Below w0.heap.size w0 w'
set_option maxRecDepth 100000 in
set_option maxHeartbeats 8000000 in
theorem appendRange_calls (P : List (Int × Int)) (hl : P.length ≤ 1000000000) (hP : ∀ p ∈ P, okP p) (lo hi : Int) (hr : okP (lo, hi)) (v : Value) (w0 w : World) (hB : Below w0.heap.size w0 w) (ho : RI w w0.heap.size v P) :
    Calls Tryd.prog 18 #[v, .int .i32 lo, .int .i32 hi] w (APost w0 P lo hi) := by
  obtain ⟨A, c, rfl⟩ := owns_slice ho
  have hr1 := hr
  unfold okP at hr1
  simp only at hr1
  have HP := Lib.hid hP
  have HR := Lib.hid hr
  have HB := Lib.hid hB
  have HO := Lib.hid ho
  obtain ⟨n, hn⟩ : ∃ n, n = 2 * P.length := ⟨_, rfl⟩
  rw [← hn]
  have HN := Lib.hid hn
  clear hP hr hB ho hn
  go_enter Tryd.func18, Tryd.ntmps18
  go_wp2_with fail
  go_loopg [8] 3 (fun gk s8 wr => ∃ i : Nat, Hid (2 * gk + i = 8 ∧ 2 ≤ i ∧ i % 2 = 0 ∧ Below w0.heap.size w0 wr ∧ RI wr w0.heap.size (.slice A (2 * P.length) c) P) ∧ i ≤ 6 ∧ s8 = .int .i64 (i : Int))
  case atStart => exact ⟨2, ⟨by omega, by omega, rfl, HB.out, HO.out⟩, by omega, rfl⟩
  case round =>
    obtain ⟨i, HI, hi6, rfl⟩ := hrel
    by_cases hi4 : i ≤ 4
    · have d4 : decide ((i : Int) ≤ 4) = true := decide_eq_true (by omega)
      by_cases hni : i ≤ n
      · have dn : decide (i ≤ n) = true := decide_eq_true hni
        have h2i := HI.out.2.1
        have hei := HI.out.2.2.1
        obtain ⟨g, cap, hv, hBg, hcap⟩ := HI.out.2.2.2.2.form (by have := HN.out; omega)
        cases hv
        obtain ⟨q, hq⟩ : ∃ q, q = P.length - i / 2 := ⟨_, rfl⟩
        have hq1 : q < P.length := by have := HN.out; omega
        have e1 : (n : Int) - (i : Int) = ((2 * q : Nat) : Int) := by have := HN.out; omega
        obtain ⟨f1, f2⟩ := fl_get P q hq1
        have z1 := (own_cell HI.out.2.2.2.2 f1).1
        have z2 := (own_cell HI.out.2.2.2.2 f2).1
        have y1 := (own_cell HI.out.2.2.2.2 f1).2
        have y2 := (own_cell HI.out.2.2.2.2 f2).2
        have hok := HP.out P[q] (List.getElem_mem _)
        unfold okP at hok
        obtain ⟨rl, hrl⟩ : ∃ rl, rl = P[q].1 := ⟨_, rfl⟩
        obtain ⟨rh, hrh⟩ : ∃ rh, rh = P[q].2 := ⟨_, rfl⟩
        rw [← hrl] at z1 hok
        rw [← hrh] at z2 hok
        have HPQ := Lib.hid (And.intro hrl hrh)
        have b1 : 2 * q + 1 < n := by have := HN.out; omega
        have b2 : n ≤ c := by have := HN.out; omega
        have hB2 := HI.out.2.2.2.1
        have hRI := HI.out.2.2.2.2
        have HB2 := Lib.hid hB2
        have HRI := Lib.hid hRI
        clear f1 f2 hq hrl hrh hB2 hRI HO hcap
        go_wp2_with fail
        go_quiet (fail)
        by_cases t1 : lo ≤ rh + 1
        · have d1 : decide (lo ≤ rh + 1) = true := decide_eq_true t1
          by_cases t2 : rl ≤ hi + 1
          · have d2 : decide (rl ≤ hi + 1) = true := decide_eq_true t2
            have HT := Lib.hid (show tou P[q] lo hi = true by unfold tou; rw [← HPQ.out.1, ← HPQ.out.2, d1, d2]; rfl)
            by_cases a1 : lo < rl
            · have k1 : decide (lo < rl) = true := decide_eq_true a1
              by_cases a2 : hi > rh
              · have k2 : decide (rh < hi) = true := decide_eq_true a2
                go_wp2_with fail
                go_ret
                obtain rfl := HN.out
                have hm : mrg P[q] lo hi = (lo, hi) := by unfold mrg; rw [← HPQ.out.1, ← HPQ.out.2]; exact Prod.ext (by simp only; split <;> omega) (by simp only; split <;> omega)
                exact ⟨_, P.set q (mrg P[q] lo hi), rfl, added_set P HP.out lo hi HR.out q hq1 HT.out, by rw [hm]; exact (HRI.out.drewN _).set1 q lo hi, below_set (below_set (pw_below_drewN HB2.out _) hBg) hBg⟩
              · have k2 : decide (rh < hi) = false := decide_eq_false a2
                go_wp2_with fail
                go_ret
                obtain rfl := HN.out
                have hm : mrg P[q] lo hi = (lo, rh) := by unfold mrg; rw [← HPQ.out.1, ← HPQ.out.2]; exact Prod.ext (by simp only; split <;> omega) (by simp only; split <;> omega)
                exact ⟨_, P.set q (mrg P[q] lo hi), rfl, added_set P HP.out lo hi HR.out q hq1 HT.out, by rw [hm]; exact (by rw [HPQ.out.2]; exact (HRI.out.drewN _).setL q hq1 lo), below_set (pw_below_drewN HB2.out _) hBg⟩
            · have k1 : decide (lo < rl) = false := decide_eq_false a1
              by_cases a2 : hi > rh
              · have k2 : decide (rh < hi) = true := decide_eq_true a2
                go_wp2_with fail
                go_ret
                obtain rfl := HN.out
                have hm : mrg P[q] lo hi = (rl, hi) := by unfold mrg; rw [← HPQ.out.1, ← HPQ.out.2]; exact Prod.ext (by simp only; split <;> omega) (by simp only; split <;> omega)
                exact ⟨_, P.set q (mrg P[q] lo hi), rfl, added_set P HP.out lo hi HR.out q hq1 HT.out, by rw [hm]; exact (by rw [HPQ.out.1]; exact (HRI.out.drewN _).setH q hq1 hi), below_set (pw_below_drewN HB2.out _) hBg⟩
              · have k2 : decide (rh < hi) = false := decide_eq_false a2
                go_wp2_with fail
                go_ret
                obtain rfl := HN.out
                have hm : mrg P[q] lo hi = (rl, rh) := by unfold mrg; rw [← HPQ.out.1, ← HPQ.out.2]; exact Prod.ext (by simp only; split <;> omega) (by simp only; split <;> omega)
                exact ⟨_, P.set q (mrg P[q] lo hi), rfl, added_set P HP.out lo hi HR.out q hq1 HT.out, by rw [hm]; exact (by rw [HPQ.out.1, HPQ.out.2, show (P[q].1, P[q].2) = P[q] from rfl, List.set_getElem_self]; exact HRI.out.drewN _), pw_below_drewN HB2.out _⟩
          · have d2 : decide (rl ≤ hi + 1) = false := decide_eq_false t2
            go_wp2_with fail
            go_roundg (gk - 1)
            case measure => have := HI.out.1; omega
            case rel => exact ⟨i + 2, ⟨by have := HI.out.1; omega, by omega, by omega, pw_below_drewN HB2.out _, HRI.out.drewN _⟩, by omega, by go_num⟩
        · have d1 : decide (lo ≤ rh + 1) = false := decide_eq_false t1
          go_wp2_with fail
          go_roundg (gk - 1)
          case measure => have := HI.out.1; omega
          case rel => exact ⟨i + 2, ⟨by have := HI.out.1; omega, by omega, by omega, pw_below_drewN HB2.out _, HRI.out.drewN _⟩, by omega, by go_num⟩
      · have dn : decide (i ≤ n) = false := decide_eq_false hni
        go_wp2_with fail
        go_roundg (gk - 1)
        case measure => have := HI.out.1; omega
        case rel => exact ⟨i + 2, ⟨by have := HI.out.1; omega, by omega, by have := HI.out.2.2.1; omega, HI.out.2.2.2⟩, by omega, by go_num⟩
    · have d4 : decide ((i : Int) ≤ 4) = false := decide_eq_false (by omega)
      have HRI := Lib.hid HI.out.2.2.2.2
      have HB2 := Lib.hid HI.out.2.2.2.1
      have HRA := Lib.hid (show ∀ o, RI (wr.alloc o) w0.heap.size (.slice A (2 * P.length) c) P from fun o => HI.out.2.2.2.2.below (below_alloc (Below.refl _ wr) o))
      have HBA := Lib.hid (show ∀ o, Below w0.heap.size w0 (wr.alloc o) from fun o => below_alloc HI.out.2.2.2.1 o)
      have HROW := Lib.hid (show RowAt (wr.alloc (.cells #[.int .i32 lo, .int .i32 hi] 21)) (fun _ => True) 21 (.slice (some ⟨wr.heap.size, 0, none⟩) 2 2) [.int .i32 lo, .int .i32 hi] from
        .inr ⟨wr.heap.size, 2, _, rfl, trivial, heap_alloc_new wr _, by simp, by unfold maxLen; omega, by simp, by simp⟩)
      have hn2 : n ≤ 2000000000 := by have := HN.out; omega
      go_wp2_with (at_builtin; refine appmn rfl (.tmp 63) (.tmp 66) 22 rfl 21 (.int .i32 0) 4 Tryd.underlying22 ii32 rfl (.slice A n c) n ((flat P).map (Value.int .i32)) rfl w0.heap.size w0 (by have := HRA.out (.cells #[.int .i32 lo, .int .i32 hi] 21); unfold RI at this; rw [← HN.out] at this; exact this) (HBA.out _) (Nat.le_refl _) (.slice (some ⟨wr.heap.size, 0, none⟩) 2 2) (fun _ => True) [.int .i32 lo, .int .i32 hi] rfl HROW.out (by intro u hu; simp at hu; rcases hu with rfl | rfl <;> rfl) (by simp; omega) (by simp; unfold maxLen; omega) ?_; intro v1 w5 hown1 hbel1 hg1 hnn1)
      go_ret
      refine ⟨v1, P ++ [(lo, hi)], rfl, added_new P HP.out lo hi HR.out, ?_, hbel1.out⟩
      have := hown1.out
      unfold RI
      rw [flat_append, List.map_append, List.length_append, show 2 * (P.length + [(lo, hi)].length) = n + 2 by have := HN.out; simp; omega]
      exact this
end Go.Proofs.YtkcnodkojllobaaDoor.Fld
