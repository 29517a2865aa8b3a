/- sort.Sort over a state that is known by what Less and Swap do to it: the frame; insertionSort, reverseRange. -/
import Derived.Test.YtkcnodkojllobaaDoorRow
import Derived.Test.YtkcnodkojllobaaDoorProg
import Derived.Sort.WalkA
import Derived.Sort.LotB
import Derived.Sort.LotC
namespace Go.Proofs.YtkcnodkojllobaaDoor.Srt
open Go Go.RowKit Go.Sort Go.Proofs.YtkcnodkojllobaaDoor.Row Go.Proofs.YtkcnodkojllobaaDoorW.PrintWords
set_option linter.unusedVariables false
set_option linter.unusedSimpArgs false

/-- What a step leaves as it was, but for the blocks of S. -/
structure Fr (S : Nat → Prop) (w w' : World) : Prop where
  os : w'.os = w.os
  tape : w'.tape = w.tape
  output : w'.output = w.output
  size : w.heap.size ≤ w'.heap.size
  block : ∀ b, b < w.heap.size → ¬ S b → w'.heap[b]? = w.heap[b]?
theorem Fr.refl (S : Nat → Prop) (w : World) : Fr S w w := ⟨rfl, rfl, rfl, Nat.le_refl _, fun _ _ _ => rfl⟩
theorem Fr.trans {S : Nat → Prop} {a b c : World} (h : Fr S a b) (k : Fr S b c) : Fr S a c :=
  ⟨k.os.trans h.os, k.tape.trans h.tape, k.output.trans h.output, Nat.le_trans h.size k.size, fun i hi hne => (k.block i (Nat.lt_of_lt_of_le hi h.size) hne).trans (h.block i hi hne)⟩
theorem Fr.mono {S T : Nat → Prop} {a b : World} (h : Fr S a b) (hT : ∀ i, i < a.heap.size → S i → T i) : Fr T a b :=
  ⟨h.os, h.tape, h.output, h.size, fun i hi hne => h.block i hi (fun e => hne (hT i hi e))⟩
theorem Fr.quiet {S : Nat → Prop} {a b : World} (h : Fr (fun _ => False) a b) : Fr S a b := h.mono fun _ _ e => e.elim
theorem Fr.drewN {S : Nat → Prop} {a b : World} (h : Fr S a b) (n : Nat) : Fr S a (b.drewN n) := ⟨h.os, h.tape, h.output, h.size, h.block⟩
theorem Fr.alloc {S : Nat → Prop} {a b : World} (h : Fr S a b) (o : Obj) : Fr S a (b.alloc o) :=
  ⟨h.os, h.tape, h.output, by have := h.size; simp; omega, fun i hi hne => (Below.heap_alloc _ _ _ (Nat.lt_of_lt_of_le hi h.size)).trans (h.block i hi hne)⟩
theorem Fr.set {S : Nat → Prop} {a b : World} (h : Fr S a b) {g j : Nat} (v : Value) (hg : S g ∨ a.heap.size ≤ g) : Fr S a (b.setCell ⟨g, j, none⟩ v) :=
  ⟨h.os, h.tape, h.output, by have := h.size; simp [World.setCell]; omega, fun i hi hne => (Below.heap_setCell _ _ _ _ (fun e => by rcases hg with hg | hg; exact hne (by rw [show i = g from e]; exact hg); have : i = g := e; omega)).trans (h.block i hi hne)⟩
theorem Fr.to_below {S : Nat → Prop} {a b : World} (h : Fr S a b) {B : Nat} (hB : B ≤ a.heap.size) (hS : ∀ i, S i → B ≤ i) : Below B a b :=
  ⟨h.os, h.tape, h.output, h.size, fun k hk => h.block k (by omega) (fun e => by have := hS k e; omega)⟩
theorem Fr.of_below {S : Nat → Prop} {a b : World} (h : Below a.heap.size a b) : Fr S a b := ⟨h.os, h.tape, h.output, h.size, fun i hi _ => h.block i hi⟩
theorem Fr.cell {S : Nat → Prop} {a b : World} (h : Fr S a b) {g j : Nat} {v : Value} (hS : ¬ S g) (hc : a.cell? ⟨g, j, none⟩ = some v) : b.cell? ⟨g, j, none⟩ = some v := by
  have hlt : g < a.heap.size := World.block_lt_of_cell? a _ hc
  have hb := h.block g hlt hS
  have e : b.cell? ⟨g, j, none⟩ = a.cell? ⟨g, j, none⟩ := by unfold World.cell?; rw [show (⟨g, j, none⟩ : Addr).block = g from rfl, hb]
  exact e.trans hc

/-- The value with the methods. -/
abbrev RV (hb : Nat) : Value := .agg #[.pointer (some ⟨hb, 0, none⟩)]
theorem method_less (hb : Nat) (w : World) : (method 192 44 (.agg #[.pointer (some ⟨hb, 0, none⟩)]) "Less").run Tryd.prog w = .ok (55, .agg #[.pointer (some ⟨hb, 0, none⟩)]) w := by kernel_rfl
theorem method_swap (hb : Nat) (w : World) : (method 192 44 (.agg #[.pointer (some ⟨hb, 0, none⟩)]) "Swap").run Tryd.prog w = .ok (56, .agg #[.pointer (some ⟨hb, 0, none⟩)]) w := by kernel_rfl
theorem method_len (hb : Nat) (w : World) : (method 192 44 (.agg #[.pointer (some ⟨hb, 0, none⟩)]) "Len").run Tryd.prog w = .ok (54, .agg #[.pointer (some ⟨hb, 0, none⟩)]) w := by kernel_rfl

section
variable {α : Type} {B : Nat} {St : Array α → World → Prop}
/-- The state behind a step that only reads it. -/
def SQ (B : Nat) (St : Array α → World → Prop) (w : World) (d : Array α) (w' : World) : Prop := St d w' ∧ Fr (fun x => x < B) w w'
theorem SQ.refl {d : Array α} {w : World} (hs : St d w) : SQ B St w d w := ⟨hs, Fr.refl _ _⟩
theorem SQ.turn {d d' : Array α} {w w1 w2 : World} (hs : SQ B St w d w1) (hf : SQ B St w1 d' w2) : SQ B St w d' w2 := ⟨hf.1, hs.2.trans hf.2⟩
end
section
variable {α : Type} [Inhabited α]
/-- What is known of a state: it lies in blocks below B; Less reads it, Swap turns it. -/
structure SK (N B hb : Nat) (lt : α → α → Bool) (St : Array α → World → Prop) : Prop where
  small : N ≤ 1000000000
  swo : SWO lt
  low : ∀ {d w}, St d w → B ≤ w.heap.size
  keep : ∀ {d w w'}, St d w → Fr (fun x => B ≤ x) w w' → St d w'
  less : ∀ {d w}, St d w → d.size = N → ∀ i j : Nat, i < N → j < N → Calls Tryd.prog 55 #[RV hb, .int .i64 (i : Int), .int .i64 (j : Int)] w fun e w' => e = .returned (.bool (lt d[i]! d[j]!)) ∧ Fr (fun _ => False) w w'
  swap : ∀ {d w}, St d w → d.size = N → ∀ i j : Nat, i < N → j < N → Calls Tryd.prog 56 #[RV hb, .int .i64 (i : Int), .int .i64 (j : Int)] w fun e w' => e = .returned (.tuple #[]) ∧ St (swp d i j) w' ∧ Fr (fun x => x < B) w w'
variable {N B hb : Nat} {lt : α → α → Bool} {St : Array α → World → Prop}
theorem SK.quiet (h : SK N B hb lt St) {d : Array α} {w w' : World} (hs : St d w) (hf : Fr (fun _ => False) w w') : St d w' := h.keep hs hf.quiet
theorem SQ.read (h : SK N B hb lt St) {d : Array α} {w w1 w2 : World} (hs : SQ B St w d w1) (hf : Fr (fun _ => False) w1 w2) : SQ B St w d w2 := ⟨h.quiet hs.1 hf, hs.2.trans hf.quiet⟩

set_option maxRecDepth 100000 in
set_option maxHeartbeats 4000000 in
theorem insertionSort_calls (h : SK N B hb lt St) (a b : Nat) (d : Array α) (w : World) (hs : St d w) (hd : d.size = N) (hab : a ≤ b) (hbN : b ≤ N) :
    Calls Tryd.prog 24 #[.iface 44 (RV hb), .int .i64 (a : Int), .int .i64 (b : Int)] w fun e w' => e = .returned (.tuple #[]) ∧ SQ B St w (Sort.insertionSort lt d a b) w' := by
  have hNs := h.small
  have HK := Lib.hid h
  have HS := Lib.hid hs
  have HD := Lib.hid hd
  have mL := method_less hb
  have mS := method_swap hb
  clear h hs hd
  go_enter Tryd.func24, Tryd.ntmps24
  go_wp2_with fail
  go_loopg [6] (b - a) (fun gk s6 wr => ∃ (i : Nat) (dk : Array α), Hid (gk + i = b + 1 ∧ a < i ∧ SQ B St w dk wr ∧ dk.size = N ∧ insOuter lt a b i dk = insOuter lt a b (a + 1) d) ∧ i ≤ b + 1 ∧ s6 = .int .i64 (i : Int))
  case atStart => exact ⟨a + 1, d, ⟨by omega, by omega, SQ.refl HS.out, HD.out, rfl⟩, by omega, by go_num⟩
  case round =>
    obtain ⟨i, dk, HI, hi, rfl⟩ := hrel
    by_cases hlt : i < b
    · have hd1 : decide (i < b) = true := decide_eq_true hlt
      obtain ⟨ga, hga⟩ : ∃ ga, ga = gk := ⟨_, rfl⟩
      rw [← hga] at HI
      have HGA := Lib.hid hga
      clear hga
      go_wp2_with fail
      go_loopg [7] i (fun gj s7 wr2 => ∃ (j : Nat) (dj : Array α), Hid (gj = j ∧ a ≤ j ∧ SQ B St w dj wr2 ∧ dj.size = N ∧ insInner lt a j dj = insInner lt a i dk) ∧ j ≤ i ∧ s7 = .int .i64 (j : Int))
      case atStart => exact ⟨i, dk, ⟨rfl, by have := HI.out.2.1; omega, HI.out.2.2.1, HI.out.2.2.2.1, rfl⟩, Nat.le_refl _, rfl⟩
      case round =>
        obtain ⟨j, dj, HJ, hj, rfl⟩ := hrel
        have out : (j ≤ a ∨ lt dj[j]! dj[j - 1]! = false) → insOuter lt a b (i + 1) dj = insOuter lt a b (a + 1) d := fun hs => by
          rw [← HI.out.2.2.2.2, insOuter_go _ _ _ _ _ hlt, ← HJ.out.2.2.2.2, insInner_stop _ _ _ _ hs]
        have OUT := Lib.hid out
        clear out
        by_cases hja : a < j
        · have hd2 : decide (a < j) = true := decide_eq_true hja
          have hl := HK.out.less HJ.out.2.2.1.1 HJ.out.2.2.2.1 j (j - 1) (by omega) (by omega)
          rw [show (((j - 1 : Nat) : Int)) = (j : Int) - 1 by omega] at hl
          have HL := Lib.hid hl
          clear hl
          go_wp2_with fail
          refine HL.out.mono ?_
          rintro e w1 ⟨rfl, hf1⟩
          have HQ1 := Lib.hid (HJ.out.2.2.1.read HK.out hf1)
          clear hf1 HL
          cases hlv : lt dj[j]! dj[j - 1]! with
          | true =>
            have hsw := HK.out.swap HQ1.out.1 HJ.out.2.2.2.1 j (j - 1) (by omega) (by omega)
            rw [show (((j - 1 : Nat) : Int)) = (j : Int) - 1 by omega] at hsw
            have HSW := Lib.hid hsw
            clear hsw
            go_wp2_with fail
            refine HSW.out.mono ?_
            rintro e w2 ⟨rfl, hs2, hf2⟩
            have HQ2 := Lib.hid (HQ1.out.turn ⟨hs2, hf2⟩)
            clear hs2 hf2 HSW
            have HG := Lib.hid (show insInner lt a (j - 1) (swp dj j (j - 1)) = insInner lt a i dk by rw [← HJ.out.2.2.2.2, insInner_go lt a j dj hja hlv])
            clear hlv
            go_wp2_with fail
            go_roundg (gk - 1)
            case measure => have := HJ.out.1; omega
            case rel => exact ⟨j - 1, swp dj j (j - 1), ⟨by have := HJ.out.1; omega, by omega, HQ2.out, by rw [size_swp]; exact HJ.out.2.2.2.1, HG.out⟩, by omega, by congr 1; omega⟩
          | false =>
            have HO := Lib.hid (OUT.out (.inr hlv))
            clear hlv
            go_wp2_with fail
            go_roundg (ga - 1)
            case measure => have := HI.out.1; have := HGA.out; omega
            case rel => exact ⟨i + 1, dj, ⟨by have := HI.out.1; omega, by have := HI.out.2.1; omega, HQ1.out, HJ.out.2.2.2.1, HO.out⟩, by omega, by go_num⟩
        · have hd2 : decide (a < j) = false := decide_eq_false hja
          have HO := Lib.hid (OUT.out (.inl (by omega)))
          go_wp2_with fail
          go_roundg (ga - 1)
          case measure => have := HI.out.1; have := HGA.out; omega
          case rel => exact ⟨i + 1, dj, ⟨by have := HI.out.1; omega, by have := HI.out.2.1; omega, HJ.out.2.2.1, HJ.out.2.2.2.1, HO.out⟩, by omega, by go_num⟩
    · have hd1 : decide (i < b) = false := decide_eq_false hlt
      go_wp2_with fail
      go_end0
      exact ⟨rfl, by unfold Sort.insertionSort; rw [← HI.out.2.2.2.2, insOuter_stop _ _ _ _ _ hlt]; exact HI.out.2.2.1⟩
end
end Go.Proofs.YtkcnodkojllobaaDoor.Srt
