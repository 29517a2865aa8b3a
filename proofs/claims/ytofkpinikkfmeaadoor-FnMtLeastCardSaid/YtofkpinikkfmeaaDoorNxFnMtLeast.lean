/- Characters of a text and its places (reNext, reLast, CondAt, ReBorders): the walks, beside trees. -/
import Derived.Test.YtofkpinikkfmeaaDoorPimFnMtLeast
import Derived.Test.YtofkpinikkfmeaaDoorSi
import Derived.Test.YtofkpinikkfmeaaDoorShelf
import Derived.Lib.TrimU
import Derived.Lib.RuneCountTail
import Derived.Shelf.Unicode.DecodeLastEight
import Derived.Deep.AppendLies
namespace Go.Proofs.YtofkpinikkfmeaaDoor.TxFnMtLeast
open Go.RowKit Go.Proofs.YtofkpinikkfmeaaDoor.Row Go.Proofs.YtofkpinikkfmeaaDoor.Sf Go.Proofs.YtofkpinikkfmeaaDoor.PFnMtLeast Go.Proofs.YtofkpinikkfmeaaDoorW.PrintWords Go.Proofs.YtofkpinikkfmeaaDoorW.PrintLast Go.Proofs.YtofkpinikkfmeaaDoorW.PrintMore
set_option linter.unusedSimpArgs false
set_option linter.unusedVariables false

/-- A character of a word. -/
def wdB (x : Int) : Bool := (decide (97 ≤ x) && decide (x ≤ 122)) || (decide (65 ≤ x) && decide (x ≤ 90)) || (decide (48 ≤ x) && decide (x ≤ 57)) || (x == 95)
theorem reWord_f (x : Int) : spec_reWord.f x = some (wdB x) := by
  unfold spec_reWord.f wdB
  by_cases h1 : 97 ≤ x <;> by_cases h2 : x ≤ 122 <;> by_cases h3 : 65 ≤ x <;> by_cases h4 : x ≤ 90 <;> by_cases h5 : 48 ≤ x <;> by_cases h6 : x ≤ 57 <;> simp [h1, h2, h3, h4, h5, h6] <;> omega
/-- The reference's conditions. -/
def cP (bm b10 am a10 wb : Bool) : Int :=
  let c0 : Int := if bm then Go.bits .or .i64 0 4 else 0
  let c1 := if bm || b10 then Go.bits .or .i64 c0 1 else c0
  let c2 := if am then Go.bits .or .i64 c1 8 else c1
  let c3 := if am || a10 then Go.bits .or .i64 c2 2 else c2
  if wb then Go.bits .or .i64 c3 16 else Go.bits .or .i64 c3 32
theorem cond_c (k : Nat) (b a : Int) : spec_CondBetween.f (k + 6) b a = some (cP (decide (b = -1)) (b == 10) (decide (a = -1)) (a == 10) (wdB b != wdB a)) := by
  unfold cP
  rw [spec_CondBetween.f]
  simp only [spec_CondBetween.j0, spec_CondBetween.j1, spec_CondBetween.j2, spec_CondBetween.j3, spec_CondBetween.j4, spec_CondBetween.j5, reWord_f, Option.bind_some]
  by_cases h1 : b = -1 <;> by_cases h2 : a = -1 <;> cases h3 : (b == 10) <;> cases h4 : (a == 10) <;> cases h5 : (wdB b != wdB a) <;> simp [h1, h2, h3, h4, h5]
def condZ (b a : Int) : Int := cP (decide (b = -1)) (b == 10) (decide (a = -1)) (a == 10) (wdB b != wdB a)
theorem cond_z (b a : Int) : spec_CondBetween.f 6 b a = some (condZ b a) := cond_c 0 b a
/-- A row of scalars as the print's words have it. -/
theorem rowAt_kd {α : Type} {enc : α → Value} {h1 : ∀ x, (enc x).oneCell' = true} {w : World} {S : Nat → Prop} {e : TypeId} {vr : Value} {l : List α} (h : RowAt w S e vr (l.map enc)) : ∃ A c, vr = .slice A l.length c ∧ l.length ≤ c ∧ Kd.C (Kd.scalar enc h1) w A l.length l := by
  by_cases hne : l = []
  · subst hne
    rcases h with ⟨rfl, _⟩ | ⟨g, cap, cur, rfl, _, _, h1, h2, _⟩
    · exact ⟨none, 0, rfl, by simp, rfl, by simp, fun h => by simp at h⟩
    · exact ⟨some ⟨g, 0, none⟩, cap, rfl, by simp, rfl, by simp, fun h => by simp at h⟩
  · obtain ⟨g, cap, rfl, _, _, h2, h3, h4⟩ := h.cell (by simpa using hne)
    rw [List.length_map] at h2
    refine ⟨some ⟨g, 0, none⟩, cap, by rw [List.length_map], h2, rfl, by unfold maxLen at h3; omega, fun _ => ⟨_, rfl, fun j p hj => ⟨[enc p], rfl, rfl, fun i u hu => ?_⟩⟩⟩
    match i, hu with
    | 0, hu =>
      simp at hu
      subst hu
      obtain ⟨hj1, hj2⟩ := List.getElem?_eq_some_iff.1 hj
      have := h4 j (by simpa using hj1)
      rw [List.getElem_map, hj2] at this
      have e : (⟨g, 0, none⟩ : Addr).add (j * (Kd.scalar enc h1).sz + 0) = ⟨g, j, none⟩ := by
        have h1 : (Kd.scalar enc h1).sz = 1 := rfl
        rw [h1, Nat.mul_one, Nat.add_zero]
        unfold Addr.add; split <;> simp_all
      rw [e]; exact this

theorem decode_tail (s : ByteArray) (pos : Nat) (h : pos < s.size) : Lib.decodeGo (s.extract pos s.size) = Utf8.decode s pos := by
  unfold Lib.decodeGo
  rw [if_neg (by rw [Lib.tail_size]; omega), Lib.tail_decode, Nat.add_zero]
/-- The character at a place, and its bytes. -/
def dec (s : ByteArray) (i : Nat) : Int × Nat := if s.size ≤ i then (-1, 0) else (((Utf8.decode s i).1 : Int), (Utf8.decode s i).2)
/-- The character ahead of a place. -/
def lastR (s : ByteArray) (i : Nat) : Int := if i = 0 then -1 else ((Lib.decodeLastL (s.data.toList.take i)).1 : Int)
theorem dec_w (s : ByteArray) (i : Nat) : (dec s i).2 = 0 ↔ s.size ≤ i := by
  unfold dec
  by_cases h : s.size ≤ i
  · rw [if_pos h]; simp [h]
  · rw [if_neg h]
    have := Lib.width_pos s i
    simp only; omega
theorem dec_le (s : ByteArray) (i : Nat) (h : i ≤ s.size) : i + (dec s i).2 ≤ s.size := by
  unfold dec
  by_cases h1 : s.size ≤ i
  · rw [if_pos h1]; exact h
  · rw [if_neg h1]
    have h2 := Lib.decodeGo_le_size (s.extract i s.size)
    rw [decode_tail s i (by omega)] at h2
    have h3 : (s.extract i s.size).size = s.size - i := by simp
    simp only; omega
theorem dec_rng (s : ByteArray) (i : Nat) : -1 ≤ (dec s i).1 ∧ (dec s i).1 ≤ 1114111 := by
  unfold dec
  split
  · simp
  · have := Lib.rune_le s i
    simp only
    omega
/-- The places of a text, its characters. -/
def bordF (s : ByteArray) : Nat → Nat → List Nat
  | 0, i => [i]
  | n + 1, i => if s.size ≤ i then [i] else i :: bordF s n (i + (dec s i).2)
theorem dec_pos (s : ByteArray) (i : Nat) (h : i < s.size) : 0 < (dec s i).2 := by
  have := dec_w s i
  omega
abbrev Tabs (w : World) : Prop := Lib.Utf8Tabs 3 4 w

set_option maxRecDepth 100000 in
theorem next_calls (s : ByteArray) (i : Nat) (w : World) (hi : i ≤ s.size) (hs : s.size ≤ 4611686018427387904) (hT : Tabs w) :
    Calls Tryd.prog 22 #[.string s, .int .i64 (i : Int)] w fun e w' => e = .returned (.tuple #[.int .i32 (dec s i).1, .int .i64 ((dec s i).2 : Nat)]) ∧ Below w.heap.size w w' := by
  unfold dec
  by_cases h : s.size ≤ i
  · rw [if_pos h]
    have hd : decide (s.size ≤ i) = true := decide_eq_true h
    go_enter Tryd.func22, Tryd.ntmps22
    go_wp2_with fail
    go_ret2
    exact ⟨rfl, Below.refl _ w⟩
  · rw [if_neg h]
    have hd : decide (s.size ≤ i) = false := decide_eq_false h
    have hc := Tryd.utf8_DecodeRuneInString (s.extract i s.size) w hT
    rw [decode_tail s i (by omega)] at hc
    go_enter Tryd.func22, Tryd.ntmps22
    go_wp2_with fail
    refine hc.mono ?_
    rintro e w1 ⟨rfl, hb⟩
    go_wp2_with fail
    go_ret2
    exact ⟨rfl, hb⟩

set_option maxRecDepth 100000 in
theorem last_calls (s : ByteArray) (i : Nat) (w : World) (hi : i ≤ s.size) (hs : s.size ≤ 4611686018427387904) (hT : Tabs w) :
    Calls Tryd.prog 54 #[.string s, .int .i64 (i : Int)] w fun e w' => e = .returned (.int .i32 (lastR s i)) ∧ Below w.heap.size w w' := by
  unfold lastR
  by_cases h : i = 0
  · subst h
    rw [if_pos rfl]
    go_enter Tryd.func54, Tryd.ntmps54
    go_wp2_with fail
    go_ret
    exact ⟨rfl, Below.refl _ w⟩
  · rw [if_neg h]
    have hd : decide (i ≤ 0) = false := decide_eq_false (by omega)
    have hz : (s.extract 0 i).size ≤ 9223372036854775807 := by have : (s.extract 0 i).size = min i s.size := by simp
                                                               omega
    have hc := Tryd.utf8_DecodeLastRuneInString (s.extract 0 i) w hz hT
    rw [show (s.extract 0 i).data.toList = s.data.toList.take i by simp] at hc
    go_enter Tryd.func54, Tryd.ntmps54
    go_wp2_with fail
    refine hc.mono ?_
    rintro e w1 ⟨rfl, hb⟩
    go_wp2_with fail
    go_ret
    exact ⟨rfl, hb⟩

set_option maxRecDepth 100000 in
set_option maxHeartbeats 4000000 in
theorem condat_calls (s : ByteArray) (i : Nat) (w : World) (hi : i ≤ s.size) (hs : s.size ≤ 100000) (hT : Tabs w) :
    Calls Tryd.prog 49 #[.string s, .int .i64 (i : Int)] w fun e w' => e = .returned (.int .i64 (condZ (lastR s i) (dec s i).1)) ∧ Below w.heap.size w w' := by
  have HT := Lib.hid hT
  clear hT
  go_enter Tryd.func49, Tryd.ntmps49
  go_wp2_with fail
  refine (next_calls s i w hi (by omega) HT.out).mono ?_
  rintro e w1 ⟨rfl, hb1⟩
  have HB1 := Lib.hid hb1
  clear hb1
  go_wp2_with fail
  refine (last_calls s i w1 hi (by omega) (Utf8Tabs_below HT.out HB1.out)).mono ?_
  rintro e w2 ⟨rfl, hb2⟩
  have HB2 := Lib.hid (below_step HB1.out hb2)
  clear hb2
  go_wp2_with fail
  refine (spec_CondBetween.calls 6 (lastR s i) (dec s i).1 (condZ (lastR s i) (dec s i).1) w2 (cond_z _ _)).mono ?_
  rintro e w3 ⟨rfl, hd⟩
  go_wp2_with fail
  go_ret
  exact ⟨rfl, below_step HB2.out hd.below⟩
theorem iint : (Tryd.prog.info? 3).map (fun i => (i.zero, i.size, i.bytes)) = some (some (.int .i64 0), 1, 8) := by kernel_rfl
theorem own_one {w : World} {B g : Nat} {e : TypeId} {v : Value} (hg : w.heap[g]? = some (.cells #[v] e (0, 0))) (hB : B ≤ g) : w.ownsRow B e 1 (.slice (some ⟨g, 0, none⟩) 1 1) 1 [v] :=
  ⟨by simp, .inr ⟨g, 1, #[v], rfl, hB, hg, by omega, by unfold maxLen; omega, by simp, by simp⟩⟩
theorem bordF_len (s : ByteArray) : ∀ (n i : Nat), (bordF s n i).length ≤ n + 1 := by
  intro n
  induction n with
  | zero => intro i; simp [bordF]
  | succ n ih => intro i; rw [bordF]; split <;> simp; exact ih _

set_option maxRecDepth 100000 in
set_option maxHeartbeats 4000000 in
theorem borders_calls (s : ByteArray) (w : World) (hs : s.size ≤ 100000) (hT : Tabs w) :
    Calls Tryd.prog 13 #[.string s] w fun e w' => ∃ lv, e = .returned lv ∧ RowAt w' (fun i => w.heap.size ≤ i ∧ i < w'.heap.size) 3 lv ((bordF s (s.size + 1) 0).map fun x : Nat => Value.int .i64 (x : Int)) ∧ Below w.heap.size w w' := by
  have HT := Lib.hid hT
  clear hT
  go_enter Tryd.func13, Tryd.ntmps13
  go_wp2_with fail
  have HB0 := Lib.hid (below_alloc (Below.refl w.heap.size w) (.cells #[.int .i64 0] 3))
  have HO0 := Lib.hid (own_one (B := w.heap.size) (heap_alloc_new w (.cells #[.int .i64 0] 3)) (Nat.le_refl _))
  generalize w.alloc (.cells #[.int .i64 0] 3) = w0 at *
  go_loopg [3, 4] s.size (fun gk s3 s4 wr => ∃ (i m : Nat) (l : List Nat), Hid (gk + i = s.size ∧ s.size < i + m ∧ wr.ownsRow w.heap.size 3 1 s3 (l.length + 1) ((l ++ [i]).map fun x : Nat => Value.int .i64 (x : Int)) ∧ bordF s (s.size + 1) 0 = l ++ bordF s m i ∧ Below w.heap.size w wr) ∧ i ≤ s.size ∧ l.length ≤ i ∧ s4 = .int .i64 i)
  case atStart => exact ⟨0, s.size + 1, [], ⟨by omega, by omega, HO0.out, rfl, HB0.out⟩, by omega, by simp, rfl⟩
  case round =>
    obtain ⟨i, m, l, HI, hi, hl, rfl⟩ := hrel
    by_cases hlt : i < s.size
    · have hd1 : decide (i < s.size) = true := decide_eq_true hlt
      have hp := dec_pos s i hlt
      have hle := dec_le s i hi
      go_wp2_with fail
      refine (next_calls s i wr hi (by omega) (Utf8Tabs_below HT.out HI.out.2.2.2.2)).mono ?_
      rintro e w1 ⟨rfl, hb1⟩
      have HB1 := Lib.hid (below_step HI.out.2.2.2.2 hb1)
      have HO1 := Lib.hid (HI.out.2.2.1.kept (Row.grown_of_below hb1 none) (by cases u3.ownBlock <;> simp))
      obtain ⟨m, rfl⟩ : ∃ m', m = m' + 1 := ⟨m - 1, by have := HI.out.2.1; omega⟩
      have HN := Lib.hid (show bordF s (m + 1) i = i :: bordF s m (i + (dec s i).2) by rw [bordF, if_neg (by omega)])
      clear hb1
      generalize hdn : (dec s i).2 = d at *
      generalize (dec s i).1 = c at *
      clear hdn
      go_wp2_with (at_builtin; refine My.app1 rfl (.tmp 21) (.tmp 23) 37 rfl 3 (.int .i64 0) 8 Tryd.underlying37 iint rfl _ (l.length + 1) _ rfl w.heap.size w (HO1.out.alloc _) (below_alloc HB1.out _) (Nat.le_refl _) w1.heap.size rfl (.int .i64 ((i : Int) + (d : Int))) (by simp) rfl (by omega) (by unfold maxLen; omega) ?_; intro v1 w3 hown1 hbel1 hg1)
      go_roundg (gk - d)
      case measure => have := HI.out.1; omega
      case rel =>
        refine ⟨i + d, m, l ++ [i], ⟨by have := HI.out.1; omega, by have := HI.out.2.1; omega, ?_, by rw [HI.out.2.2.2.1, HN.out]; simp, hbel1.out⟩, hle, by simp; omega, by first | rfl | go_num⟩
        have := hown1.out
        simpa using this
    · have hd1 : decide (i < s.size) = false := decide_eq_false hlt
      have HN := Lib.hid (show bordF s m i = [i] by cases m with | zero => rfl | succ m => rw [bordF, if_pos (by omega)])
      go_wp2_with fail
      go_ret
      refine ⟨_, rfl, ?_, HI.out.2.2.2.2⟩
      rw [HI.out.2.2.2.1, HN.out]
      have ho : wr.ownsRow w.heap.size 3 1 u3 (l ++ [i]).length ((l ++ [i]).map fun x : Nat => Value.int .i64 (x : Int)) := by rw [List.length_append, List.length_singleton]; exact HI.out.2.2.1
      exact RowAt.of_owns ho fun g hg => ho.lt g hg

end Go.Proofs.YtofkpinikkfmeaaDoor.TxFnMtLeast
