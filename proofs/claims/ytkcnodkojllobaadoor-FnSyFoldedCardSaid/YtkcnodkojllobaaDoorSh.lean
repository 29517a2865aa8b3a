/- Simple folding: the walks of unicode.SimpleFold and what it calls, over the tables as they lie in memory. -/
import Derived.Test.YtkcnodkojllobaaDoorSg
import Derived.Test.YtkcnodkojllobaaDoorProg
import Derived.Test.YtkcnodkojllobaaDoorRow
import Derived.Laws.DeepBits32
namespace Go.Proofs.YtkcnodkojllobaaDoor.Sf
open Go Go.RowKit Go.Proofs.YtkcnodkojllobaaDoor.Row Go.Proofs.YtkcnodkojllobaaDoorW.PrintWords
set_option linter.unusedVariables false
set_option linter.unusedSimpArgs false

def crow (i : Nat) : Row := Pinned.caseRows.getD i (0, 0, 0, 0, 0)
def orow (i : Nat) : Nat × Nat := orbZ.getD i (0, 0)
theorem case_len : Pinned.caseRows.length = 336 := by kernel_rfl
theorem orb_len : orbZ.length = 94 := by kernel_rfl
theorem crow_get (i : Nat) (h : i < 336) : crow i = Pinned.caseRows[i]'(by rw [case_len]; exact h) := by
  unfold crow
  rw [List.getD_eq_getElem?_getD, List.getElem?_eq_getElem (by rw [case_len]; exact h)]; rfl
theorem crow_mem (i : Nat) (h : i < 336) : crow i ∈ Pinned.caseRows := by rw [crow_get i h]; exact List.getElem_mem _
theorem crow_lt {i j : Nat} (hj : j < 336) (hij : i < j) : (crow i).2.1 < (crow j).1 := by
  have h := case_sort
  rw [case_list] at h
  have := sortB_lt h i j (by rw [case_len]; exact hj) hij
  rw [crow_get i (by omega), crow_get j hj]; exact this
def smallB (l : List Row) : Bool := l.all fun x => Nat.ble x.2.1 1114111
theorem case_small : smallB Pinned.caseRows = true := by kernel_rfl
theorem crow_le (i : Nat) (h : i < 336) : (crow i).1 ≤ (crow i).2.1 ∧ (crow i).2.1 ≤ 1114111 := by
  have h1 := case_sort
  rw [case_list] at h1
  exact ⟨(sortB_lo h1 _ (crow_mem i h)).2, Nat.le_of_ble_eq_true (List.all_eq_true.1 case_small _ (crow_mem i h))⟩
theorem orow_get (i : Nat) (h : i < 94) : orow i = orbZ[i]'(by rw [orb_len]; exact h) := by
  unfold orow
  rw [List.getD_eq_getElem?_getD, List.getElem?_eq_getElem (by rw [orb_len]; exact h)]; rfl
theorem orow_lt {i j : Nat} (hj : j < 94) (hij : i < j) : (orow i).1 < (orow j).1 := by
  have h := orb_sort
  rw [orb_list] at h
  have := sortB_lt h i j (by rw [List.length_map, orb_len]; exact hj) hij
  rw [List.getElem_map, List.getElem_map] at this
  rw [orow_get i (by omega), orow_get j hj]; exact this

/-- The rows of unicode.CaseRanges at an address. -/
def Cas (w : World) (a : Addr) : Prop :=
  ∀ i, i < 336 → w.cell? (a.add (i * 5)) = some (.int .u32 ((crow i).1 : Int)) ∧ w.cell? ⟨(a.add (i * 5)).block, (a.add (i * 5)).off + 1, none⟩ = some (.int .u32 ((crow i).2.1 : Int)) ∧
    w.cell? ⟨(a.add (i * 5)).block, (a.add (i * 5)).off + 2, none⟩ = some (.int .i32 (crow i).2.2.1) ∧ w.cell? ⟨(a.add (i * 5)).block, (a.add (i * 5)).off + 3, none⟩ = some (.int .i32 (crow i).2.2.2.1) ∧ w.cell? ⟨(a.add (i * 5)).block, (a.add (i * 5)).off + 4, none⟩ = some (.int .i32 (crow i).2.2.2.2)
/-- The pairs of unicode.caseOrbit at an address. -/
def Orb (w : World) (a : Addr) : Prop :=
  ∀ i, i < 94 → w.cell? (a.add (i * 2)) = some (.int .u16 ((orow i).1 : Int)) ∧ w.cell? ⟨(a.add (i * 2)).block, (a.add (i * 2)).off + 1, none⟩ = some (.int .u16 ((orow i).2 : Int))

set_option maxRecDepth 100000 in
set_option maxHeartbeats 4000000 in
theorem lookup_calls (w : World) (a : Addr) (c r : Nat) (hr : r ≤ 1114111) (hC : Cas w a) :
    Calls Tryd.prog 16 #[.int .i32 (r : Int), .slice (some a) 336 c] w fun e w' => w' = w ∧ ((∃ i, i < 336 ∧ e = .returned (.pointer (some (a.add (i * 5)))) ∧ (crow i).1 ≤ r ∧ r ≤ (crow i).2.1) ∨ (e = .returned (.pointer none) ∧ ∀ i, i < 336 → ¬ ((crow i).1 ≤ r ∧ r ≤ (crow i).2.1))) := by
  have HC := Lib.hid hC
  clear hC
  go_enter Tryd.func16, Tryd.ntmps16
  go_wp2_with fail
  go_loopg [5, 6] 336 (fun gk s5 s6 wr => ∃ (lo hi : Nat), Hid ((∀ i, i < lo → (crow i).2.1 < r) ∧ (∀ i, hi ≤ i → i < 336 → r < (crow i).1)) ∧ lo ≤ hi ∧ hi ≤ 336 ∧ gk = hi - lo ∧ s5 = .int .i64 lo ∧ s6 = .int .i64 hi ∧ wr = w)
  case atStart => exact ⟨0, 336, ⟨fun i hi => by omega, fun i h1 h2 => by omega⟩, by omega, by omega, rfl, rfl, rfl, rfl⟩
  case round =>
    obtain ⟨lo, hi, HI, hle, h336, rfl, rfl, rfl, rfl⟩ := hrel
    by_cases hlt : lo < hi
    · have hm : (lo + hi) / 2 < 336 := by omega
      obtain ⟨c0, c1, -, -, -⟩ := HC.out ((lo + hi) / 2) hm
      obtain ⟨cl, cm⟩ := crow_le ((lo + hi) / 2) hm
      by_cases a1 : (crow ((lo + hi) / 2)).1 ≤ r
      · by_cases a2 : r ≤ (crow ((lo + hi) / 2)).2.1
        · have d2 : decide (r ≤ (crow ((lo + hi) / 2)).2.1) = true := decide_eq_true a2
          go_wp2_with fail
          go_ret
          exact ⟨rfl, .inl ⟨(lo + hi) / 2, hm, rfl, a1, a2⟩⟩
        · have d2 : decide (r ≤ (crow ((lo + hi) / 2)).2.1) = false := decide_eq_false a2
          go_wp2_with fail
          go_roundg (hi - ((lo + hi) / 2 + 1))
          case measure => omega
          case rel =>
            refine ⟨(lo + hi) / 2 + 1, hi, ⟨fun i hi1 => ?_, HI.out.2⟩, by omega, h336, rfl, congrArg (Value.int .i64) (by omega), rfl, rfl⟩
            by_cases e : i = (lo + hi) / 2
            · rw [e]; omega
            · have := crow_lt hm (show i < (lo + hi) / 2 by omega)
              omega
      · go_wp2_with fail
        go_roundg ((lo + hi) / 2 - lo)
        case measure => omega
        case rel =>
          refine ⟨lo, (lo + hi) / 2, ⟨HI.out.1, fun i h1 h2 => ?_⟩, by omega, by omega, rfl, rfl, congrArg (Value.int .i64) (by omega), rfl⟩
          by_cases e : i = (lo + hi) / 2
          · rw [e]; omega
          · have := crow_lt h2 (show (lo + hi) / 2 < i by omega)
            omega
    · go_wp2_with fail
      go_ret
      refine ⟨rfl, .inr ⟨rfl, fun i h1 ⟨h2, h3⟩ => ?_⟩⟩
      by_cases e : i < lo
      · have := HI.out.1 i e; omega
      · have := HI.out.2 i (by omega) h1; omega

theorem and_one (k : Nat) (hk : k ≤ 1) : bits .and .i64 (k : Int) 1 = (k : Int) := by
  have h : k = 0 ∨ k = 1 := by omega
  rcases h with rfl | rfl
  · decide
  · decide
set_option maxRecDepth 100000 in
theorem convert_calls (w : World) (a : Addr) (i k r : Nat) (hr : r ≤ 1114111) (hi : i < 336) (hk : k ≤ 1) (hC : Cas w a) (h1 : (crow i).1 ≤ r) (h2 : r ≤ (crow i).2.1) (hb : 0 ≤ conv k r (crow i) ∧ conv k r (crow i) ≤ 1114111) :
    Calls Tryd.prog 17 #[.int .i64 (k : Int), .int .i32 (r : Int), .pointer (some (a.add (i * 5)))] w fun e w' => e = .returned (.int .i32 (conv k r (crow i))) ∧ ∃ n, w' = w.drewN n := by
  obtain ⟨c0, c1, c2, c3, c4⟩ := hC i hi
  obtain ⟨hl1, hl2⟩ := crow_le i hi
  have hd : ∀ j, j < 2 → w.cell? ⟨(a.add (i * 5)).block, (a.add (i * 5)).off + 2 + j, none⟩ = some (.int .i32 (del j (crow i))) := by
    intro j hj
    match j, hj with
    | 0, _ => exact c2
    | 1, _ => exact c3
  have hdk := hd k (by omega)
  unfold conv at hb ⊢
  obtain ⟨d, hde⟩ : ∃ d, d = del k (crow i) := ⟨_, rfl⟩
  obtain ⟨lo, hlo⟩ : ∃ lo, lo = (crow i).1 := ⟨_, rfl⟩
  rw [← hde] at hdk hb ⊢
  rw [← hlo] at hb h1 hl1 c0 ⊢
  clear hd c1 c2 c3 c4 hC hde hlo
  by_cases hg : d > 1114111
  · have hgd : decide (d > 1114111) = true := decide_eq_true hg
    rw [if_pos hg] at hb ⊢
    go_enter Tryd.func17, Tryd.ntmps17
    go_wp2_with fail
    go_quiet (fail)
    go_wp2_with fail
    go_ret
    have hk1 := and_one k hk
    have hk2 : wrap32 (k : Int) = (k : Int) := by unfold wrap32; omega
    have hx : (r : Int) - (lo : Int) = ((r - lo : Nat) : Int) := by omega
    rw [hx, i32_andNot1 (r - lo) (by omega), hk1, hk2, i32_or_bit (r - lo - (r - lo) % 2) k (by omega) hk (by omega)]
    have e : wrap32 ((lo : Int) + ((r - lo - (r - lo) % 2 + k : Nat) : Int)) = (lo : Int) + (((r - lo) / 2 * 2 + k : Nat) : Int) := by unfold wrap32; omega
    rw [e]
    exact ⟨rfl, nq, rfl⟩
  · have hgd : decide (d > 1114111) = false := decide_eq_false hg
    rw [if_neg hg] at hb ⊢
    go_enter Tryd.func17, Tryd.ntmps17
    go_wp2_with fail
    go_ret
    exact ⟨rfl, 0, rfl⟩
theorem okB_says : ∀ {z : Int}, okB z = true → 0 ≤ z ∧ z ≤ 1114111
  | .ofNat n, h => by
    have := Nat.le_of_ble_eq_true (show Nat.ble n 1114111 = true from h)
    exact ⟨Int.natCast_nonneg n, by show (n : Int) ≤ 1114111; omega⟩
  | .negSucc n, h => by cases h
theorem convB_get (row : Row) : ∀ (n lo : Nat), convB row n lo = true → ∀ r, lo ≤ r → r < lo + n → okB (conv 1 r row) = true ∧ okB (conv 0 r row) = true
  | 0, lo, _, r, h1, h2 => by omega
  | n + 1, lo, h, r, h1, h2 => by
    rw [convB, Bool.and_eq_true, Bool.and_eq_true] at h
    by_cases e : r = lo
    · subst e; exact h.1
    · exact convB_get row n (lo + 1) h.2 r (by omega) (by omega)
theorem conv_ok (i r : Nat) (hi : i < 336) (h1 : (crow i).1 ≤ r) (h2 : r ≤ (crow i).2.1) : (0 ≤ conv 1 r (crow i) ∧ conv 1 r (crow i) ≤ 1114111) ∧ (0 ≤ conv 0 r (crow i) ∧ conv 0 r (crow i) ≤ 1114111) := by
  have h := List.all_eq_true.1 chk_conv (crow i) (by rw [case_list]; exact crow_mem i hi)
  obtain ⟨a, b⟩ := convB_get (crow i) _ _ h r h1 (by omega)
  exact ⟨okB_says a, okB_says b⟩
theorem asc_le (r : Nat) : ascZ.getD r 0 ≤ 65535 := by
  by_cases h : r < ascZ.length
  · rw [List.getD_eq_getElem?_getD, List.getElem?_eq_getElem h]
    exact Nat.le_of_ble_eq_true (List.all_eq_true.1 chk_asc2 _ (List.getElem_mem h))
  · rw [List.getD_eq_getElem?_getD, List.getElem?_eq_none (by omega)]; simp
theorem orow_le (i : Nat) (h : i < 94) : (orow i).1 ≤ 65535 ∧ (orow i).2 ≤ 65535 := by
  rw [orow_get i h]
  have := List.all_eq_true.1 chk_orb2 _ (List.getElem_mem (l := orbZ) (n := i) (by rw [orb_len]; exact h))
  rw [Bool.and_eq_true] at this
  exact ⟨Nat.le_of_ble_eq_true this.1, Nat.le_of_ble_eq_true this.2⟩
theorem orb_found (i r : Nat) (hi : i < 94) (h : (orow i).1 = r) : orbT.get r = some (r, r, ((orow i).2 : Int), 0, 0) := by
  refine T.get_mem _ 0 r _ orb_sort ?_ (Nat.le_refl _) (Nat.le_refl _)
  rw [orb_list]
  refine List.mem_map.2 ⟨orow i, ?_, by rw [h]⟩
  rw [orow_get i hi]; exact List.getElem_mem _
theorem orb_none (lo r : Nat) (h1 : ∀ i, i < lo → i < 94 → (orow i).1 < r) (h2 : ∀ i, lo ≤ i → i < 94 → r ≤ (orow i).1) (h3 : lo < 94 → (orow lo).1 ≠ r) : orbT.get r = none := by
  cases h : orbT.get r with
  | none => rfl
  | some x =>
    exfalso
    obtain ⟨hx, k1, k2⟩ := T.get_some _ _ _ h
    rw [orb_list] at hx
    obtain ⟨p, hp, rfl⟩ := List.mem_map.1 hx
    obtain ⟨i, hi, he⟩ := List.mem_iff_getElem.1 hp
    rw [orb_len] at hi
    have e : orow i = p := by rw [orow_get i hi]; exact he
    have e2 : (orow i).1 = r := by rw [e]; simp only at k1 k2; omega
    by_cases c1 : i < lo
    · have := h1 i c1 hi; omega
    · by_cases c2 : i = lo
      · subst c2; exact h3 hi e2
      · have a := orow_lt hi (show lo < i by omega)
        have b := h2 lo (Nat.le_refl _) (by omega)
        omega
theorem case_found (i r : Nat) (hi : i < 336) (h1 : (crow i).1 ≤ r) (h2 : r ≤ (crow i).2.1) : caseT.get r = some (crow i) :=
  T.get_mem _ 0 r _ case_sort (by rw [case_list]; exact crow_mem i hi) h1 h2
theorem case_none (r : Nat) (h : ∀ i, i < 336 → ¬ ((crow i).1 ≤ r ∧ r ≤ (crow i).2.1)) : caseT.get r = none := by
  cases e : caseT.get r with
  | none => rfl
  | some x =>
    exfalso
    obtain ⟨hx, k1, k2⟩ := T.get_some _ _ _ e
    rw [case_list] at hx
    obtain ⟨i, hi, he⟩ := List.mem_iff_getElem.1 hx
    rw [case_len] at hi
    have e2 : crow i = x := by rw [crow_get i hi]; exact he
    exact h i hi (by rw [e2]; exact ⟨k1, k2⟩)

theorem Cas.below {w w' : World} {a : Addr} (h : Cas w a) (hb : Below w.heap.size w w') : Cas w' a := by
  have k : ∀ {a : Addr} {v : Value}, w.cell? a = some v → w'.cell? a = some v := fun hc => (hb.cell (World.block_lt_of_cell? w _ hc)).trans hc
  exact fun i hi => ⟨k (h i hi).1, k (h i hi).2.1, k (h i hi).2.2.1, k (h i hi).2.2.2.1, k (h i hi).2.2.2.2⟩
/-- The folding tables in memory. -/
structure Folds (w : World) : Prop where
  asc : ∀ r, r < 128 → w.cell? ⟨0, r, none⟩ = some (.int .u16 ((ascZ.getD r 0 : Nat) : Int))
  orb : ∃ (a : Addr) (c : Nat), w.cell? ⟨1, 0, none⟩ = some (.slice (some a) 94 c) ∧ Orb w a
  cas : ∃ (a : Addr) (c : Nat), w.cell? ⟨2, 0, none⟩ = some (.slice (some a) 336 c) ∧ Cas w a
theorem Folds.below {w w' : World} (h : Folds w) (hb : Below w.heap.size w w') : Folds w' := by
  have k : ∀ {a : Addr} {v : Value}, w.cell? a = some v → w'.cell? a = some v := fun hc => (hb.cell (World.block_lt_of_cell? w _ hc)).trans hc
  obtain ⟨a, c, o1, o2⟩ := h.orb
  obtain ⟨b, d, c1, c2⟩ := h.cas
  exact ⟨fun r hr => k (h.asc r hr), ⟨a, c, k o1, fun i hi => ⟨k (o2 i hi).1, k (o2 i hi).2⟩⟩, ⟨b, d, k c1, fun i hi => ⟨k (c2 i hi).1, k (c2 i hi).2.1, k (c2 i hi).2.2.1, k (c2 i hi).2.2.2.1, k (c2 i hi).2.2.2.2⟩⟩⟩

set_option maxRecDepth 100000 in
set_option maxHeartbeats 4000000 in
theorem fold_calls (w : World) (r : Nat) (hr : r ≤ 1114111) (hF : Folds w) :
    Calls Tryd.prog 13 #[.int .i32 (r : Int)] w fun e w' => e = .returned (.int .i32 (sfN r : Int)) ∧ ∃ n, w' = w.drewN n := by
  obtain ⟨a, c, o1, o2⟩ := hF.orb
  obtain ⟨b, d, c1, c2⟩ := hF.cas
  have HO := Lib.hid o2
  have HC := Lib.hid c2
  by_cases h128 : r < 128
  · have ha := hF.asc r h128
    have hl := asc_le r
    have hs : sfN r = ascZ.getD r 0 := by unfold sfN; rw [blt_iff.2 h128, cond_true]
    have hd0 : decide (r < 128) = true := decide_eq_true h128
    clear hF o2 c2
    rw [hs]
    generalize ascZ.getD r 0 = v at *
    go_enter Tryd.func13, Tryd.ntmps13
    go_wp2_with fail
    go_ret
    exact ⟨rfl, 0, rfl⟩
  · have hd0 : decide (r < 128) = false := decide_eq_false h128
    have hb0 : Nat.blt r 128 = false := by cases e : Nat.blt r 128 with | false => rfl | true => have := blt_iff.1 e; omega
    clear hF o2 c2
    go_enter Tryd.func13, Tryd.ntmps13
    go_wp2_with fail
    go_loopg [3, 4] 94 (fun gk s3 s4 wr => ∃ (lo hi : Nat), Hid ((∀ i, i < lo → i < 94 → (orow i).1 < r) ∧ (∀ i, hi ≤ i → i < 94 → r ≤ (orow i).1)) ∧ lo ≤ hi ∧ hi ≤ 94 ∧ gk = hi - lo ∧ s3 = .int .i64 lo ∧ s4 = .int .i64 hi ∧ wr = w)
    case atStart => exact ⟨0, 94, ⟨fun i hi => by omega, fun i h1 h2 => by omega⟩, by omega, by omega, rfl, rfl, rfl, rfl⟩
    case round =>
      obtain ⟨lo, hi, HI, hle, h94, rfl, rfl, rfl, rfl⟩ := hrel
      by_cases hlt : lo < hi
      · have hm : (lo + hi) / 2 < 94 := by omega
        obtain ⟨c3, -⟩ := HO.out ((lo + hi) / 2) hm
        obtain ⟨cl, cm⟩ := orow_le ((lo + hi) / 2) hm
        by_cases a1 : (orow ((lo + hi) / 2)).1 < r
        · have d2 : decide ((orow ((lo + hi) / 2)).1 < r) = true := decide_eq_true a1
          go_wp2_with fail
          go_roundg (hi - ((lo + hi) / 2 + 1))
          case measure => omega
          case rel =>
            refine ⟨(lo + hi) / 2 + 1, hi, ⟨fun i hi1 hi2 => ?_, HI.out.2⟩, by omega, h94, rfl, congrArg (Value.int .i64) (by omega), rfl, rfl⟩
            by_cases e : i = (lo + hi) / 2
            · rw [e]; omega
            · have := orow_lt hm (show i < (lo + hi) / 2 by omega)
              omega
        · have d2 : decide ((orow ((lo + hi) / 2)).1 < r) = false := decide_eq_false a1
          go_wp2_with fail
          go_roundg ((lo + hi) / 2 - lo)
          case measure => omega
          case rel =>
            refine ⟨lo, (lo + hi) / 2, ⟨HI.out.1, fun i h1 h2 => ?_⟩, by omega, by omega, rfl, rfl, congrArg (Value.int .i64) (by omega), rfl⟩
            by_cases e : i = (lo + hi) / 2
            · rw [e]; omega
            · have := orow_lt h2 (show (lo + hi) / 2 < i by omega)
              omega
      · have hle2 : hi = lo := by omega
        subst hle2
        by_cases hf : hi < 94 ∧ (orow hi).1 = r
        · obtain ⟨hf1, hf2⟩ := hf
          obtain ⟨c3, c4⟩ := HO.out hi hf1
          obtain ⟨cl, cm⟩ := orow_le hi hf1
          have hs : sfN r = (orow hi).2 := by unfold sfN; rw [hb0, cond_false, orb_found hi r hf1 hf2]; simp
          rw [hf2] at c3
          go_wp2_with fail
          go_ret
          exact ⟨by rw [hs]; rfl, 0, rfl⟩
        · have hon : orbT.get r = none := orb_none hi r HI.out.1 HI.out.2 (fun h1 h2 => hf ⟨h1, h2⟩)
          have hs : sfN r = match caseT.get r with | some row => if conv 1 r row = (r : Int) then (conv 0 r row).toNat else (conv 1 r row).toNat | none => r := by unfold sfN; rw [hb0, cond_false, hon]; rfl
          by_cases hf1 : hi < 94
          · obtain ⟨c3, c4⟩ := HO.out hi hf1
            obtain ⟨cl, cm⟩ := orow_le hi hf1
            have hne : ((orow hi).1 == r) = false := by rw [beq_eq_false_iff_ne]; exact fun e => hf ⟨hf1, e⟩
            have hne2 : (((orow hi).1 : Int) == (r : Int)) = false := by rw [beq_eq_false_iff_ne]; exact fun e => hf ⟨hf1, by omega⟩
            go_wp2_with fail
            refine (lookup_calls wr b d r hr HC.out).mono ?_
            rintro e w1 ⟨hw, ⟨i, hi1, rfl, k1, k2⟩ | ⟨rfl, hno⟩⟩
            · subst hw
              obtain ⟨⟨v1, v2⟩, ⟨v3, v4⟩⟩ := conv_ok i r hi1 k1 k2
              rw [case_found i r hi1 k1 k2] at hs
              replace hs : sfN r = if conv 1 r (crow i) = (r : Int) then (conv 0 r (crow i)).toNat else (conv 1 r (crow i)).toNat := hs
              go_wp2_with fail
              refine (convert_calls w1 b i 1 r hr hi1 (Nat.le_refl _) HC.out k1 k2 ⟨v1, v2⟩).mono ?_
              rintro e w2 ⟨rfl, n, rfl⟩
              by_cases he : conv 1 r (crow i) = (r : Int)
              · have heb : (conv 1 r (crow i) != (r : Int)) = false := by rw [he]; simp
                rw [if_pos he] at hs
                go_wp2_with fail
                refine (convert_calls (w1.drewN n) b i 0 r hr hi1 (by omega) (HC.out.below (pw_below_drewN (Below.refl _ w1) n)) k1 k2 ⟨v3, v4⟩).mono ?_
                rintro e w3 ⟨rfl, m, rfl⟩
                go_wp2_with fail
                go_ret
                exact ⟨by rw [hs, Int.toNat_of_nonneg v3]; rfl, n + m, rfl⟩
              · have heb : (conv 1 r (crow i) != (r : Int)) = true := by simpa using he
                rw [if_neg he] at hs
                go_wp2_with fail
                go_ret
                exact ⟨by rw [hs, Int.toNat_of_nonneg v1]; rfl, n, rfl⟩
            · subst hw
              rw [case_none r hno] at hs
              replace hs : sfN r = r := hs
              go_wp2_with fail
              go_ret
              exact ⟨by rw [hs]; rfl, 0, rfl⟩
          · go_wp2_with fail
            refine (lookup_calls wr b d r hr HC.out).mono ?_
            rintro e w1 ⟨hw, ⟨i, hi1, rfl, k1, k2⟩ | ⟨rfl, hno⟩⟩
            · subst hw
              obtain ⟨⟨v1, v2⟩, ⟨v3, v4⟩⟩ := conv_ok i r hi1 k1 k2
              rw [case_found i r hi1 k1 k2] at hs
              replace hs : sfN r = if conv 1 r (crow i) = (r : Int) then (conv 0 r (crow i)).toNat else (conv 1 r (crow i)).toNat := hs
              go_wp2_with fail
              refine (convert_calls w1 b i 1 r hr hi1 (Nat.le_refl _) HC.out k1 k2 ⟨v1, v2⟩).mono ?_
              rintro e w2 ⟨rfl, n, rfl⟩
              by_cases he : conv 1 r (crow i) = (r : Int)
              · have heb : (conv 1 r (crow i) != (r : Int)) = false := by rw [he]; simp
                rw [if_pos he] at hs
                go_wp2_with fail
                refine (convert_calls (w1.drewN n) b i 0 r hr hi1 (by omega) (HC.out.below (pw_below_drewN (Below.refl _ w1) n)) k1 k2 ⟨v3, v4⟩).mono ?_
                rintro e w3 ⟨rfl, m, rfl⟩
                go_wp2_with fail
                go_ret
                exact ⟨by rw [hs, Int.toNat_of_nonneg v3]; rfl, n + m, rfl⟩
              · have heb : (conv 1 r (crow i) != (r : Int)) = true := by simpa using he
                rw [if_neg he] at hs
                go_wp2_with fail
                go_ret
                exact ⟨by rw [hs, Int.toNat_of_nonneg v1]; rfl, n, rfl⟩
            · subst hw
              rw [case_none r hno] at hs
              replace hs : sfN r = r := hs
              go_wp2_with fail
              go_ret
              exact ⟨by rw [hs]; rfl, 0, rfl⟩
end Go.Proofs.YtkcnodkojllobaaDoor.Sf
