/- The walk of QuoteMeta. -/
import Derived.Test.YtaogbmljadaplaaQb
import Derived.Deep.OwnRows
import Derived.Lib.BufferWrite
import Derived.Lib.SlBytesRow
import Derived.LoopTactic
namespace Go.Proofs.Ytaogbmljadaplaa.Qm
open Go.RowKit Go.Deep

def quoteL (l : List UInt8) : List UInt8 := l.flatMap fun c => if spb c then [92, c] else [c]

theorem quoteL_plain (l : List UInt8) (h : ∀ c ∈ l, spb c = false) : quoteL l = l := by
  induction l with
  | nil => rfl
  | cons c l ih =>
    have h0 := h c (by simp)
    have := ih (fun d hd => h d (by simp [hd]))
    simp [quoteL, h0] at this ⊢
    exact this

theorem quoteL_append (a b : List UInt8) : quoteL (a ++ b) = quoteL a ++ quoteL b := by simp [quoteL]

theorem quoteL_take (s : List UInt8) (k : Nat) (h : k < s.length) : quoteL (s.take (k + 1)) = quoteL (s.take k) ++ (if spb s[k] then [92, s[k]] else [s[k]]) := by
  rw [List.take_succ_eq_append_getElem h, quoteL_append]
  simp [quoteL]

theorem quoteL_len (l : List UInt8) : l.length ≤ (quoteL l).length ∧ (quoteL l).length ≤ 2 * l.length := by
  induction l with
  | nil => simp [quoteL]
  | cons c l ih =>
    have : quoteL (c :: l) = (if spb c then [92, c] else [c]) ++ quoteL l := by simp [quoteL]
    rw [this]
    split <;> simp <;> omega

/-- Cell i holds byte l[i], for all bytes of l. -/
def Told (f : Nat → Value) (l : List UInt8) : Prop := ∀ i (h : i < l.length), f i = .int .u8 (l[i].toNat : Int)

theorem Told.snoc {f : Nat → Value} {l : List UInt8} (h : Told f l) (c : UInt8) : Told (fun j => if j = l.length then .int .u8 (c.toNat : Int) else f j) (l ++ [c]) := by
  intro i hi
  by_cases e : i = l.length
  · subst e; simp
  · have hi' : i < l.length := by simp at hi; omega
    simp only [if_neg e]
    rw [h i hi', List.getElem_append_left hi']

theorem info_u8 : (Try.prog.info? 5).map (fun i => (i.zero, i.size, i.bytes)) = some (some (.int .u8 0), 1, 1) := by kernel_rfl

/-- copy(dst, s') of a string into a new row that holds zeros. -/
theorem copy_new (w1 : World) (t : ByteArray) (m : Nat) (h : t.size ≤ m) :
    ∃ w2 f, Sem.run Try.prog (Builtin.copy_ #[58, 9] 3 #[.slice (some ⟨w1.heap.size, 0, none⟩) m m, .string t]) (w1.alloc (.cells (madeCells #[.int .u8 0] m) 5)) = .ok (.int .i64 t.size) w2 ∧
      w2.rowIs w1.heap.size 5 m f ∧ Told f t.data.toList ∧ Below w1.heap.size w1 w2 ∧ w2.heap.size = w1.heap.size + 1 := by
  have hb : (w1.alloc (.cells (madeCells #[.int .u8 0] m) 5)).heap[w1.heap.size]? = some (.cells (madeCells #[.int .u8 0] m) 5 (0, 0)) := blk_alloc_new _ _
  have hsz : (madeCells #[Value.int .u8 0] m).size = m := size_madeCells _ _
  have hl : (Lib.byteCells t.data.toList).length = t.size := by rw [Lib.byteCells_length]; simp
  have hr := Lib.run_copy_row_string (P := Try.prog) (w1.alloc (.cells (madeCells #[.int .u8 0] m) 5)) 58 9 3 5 w1.heap.size 0 m m t _ _ Try.underlying58 (by kernel_rfl) hb h (by rw [hsz]; omega)
  refine ⟨_, fun i => ((Lib.byteCells t.data.toList ++ (madeCells #[Value.int .u8 0] m).toList.drop t.size).toArray)[i]?.getD undef, hr, ?_, ?_, ?_, ?_⟩
  · refine ⟨_, setRow_heap _ _ _ _ _ _ hb, ?_, ?_⟩
    · simp only [List.take_zero, List.nil_append, Nat.zero_add, List.size_toArray, List.length_append, hl, List.length_drop, Array.length_toList, hsz]
      omega
    · intro i hi
      have hlen : i < (Lib.byteCells t.data.toList ++ (madeCells #[Value.int .u8 0] m).toList.drop t.size).length := by
        simp only [List.length_append, hl, List.length_drop, Array.length_toList, hsz]; omega
      simp only [List.take_zero, List.nil_append, Nat.zero_add]
      rw [List.getElem?_toArray, List.getElem?_eq_getElem hlen]; rfl
  · intro i hi
    have hi' : i < (Lib.byteCells t.data.toList).length := by rw [hl]; simpa using hi
    simp only [List.getElem?_toArray]
    rw [List.getElem?_append_left hi', List.getElem?_eq_getElem hi']
    simp [Lib.byteCells]
  · exact ((Below.refl _ _).alloc (Nat.le_refl _) _).trans ⟨rfl, rfl, rfl, by simp [World.setRow], fun k hk => setRow_other _ _ _ _ (by omega)⟩
  · simp [World.setRow]

/-- Where the first loop of QuoteMeta stands. -/
def Plain (s : ByteArray) (k : Nat) : Prop := k ≤ s.size ∧ ∀ p (h : p < s.size), p < k → spb s[p] = false


/-- What is written of the first k bytes. -/
def q (s : ByteArray) (k : Nat) : List UInt8 := quoteL (s.data.toList.take k)

theorem q_plain {s : ByteArray} {k : Nat} (h : Plain s k) : q s k = s.data.toList.take k := by
  refine quoteL_plain _ fun c hc => ?_
  obtain ⟨p, hp, rfl⟩ := List.getElem_of_mem hc
  have hp' : p < k := by simp at hp; omega
  have hps : p < s.size := by have := h.1; omega
  have := h.2 p hps hp'
  rw [List.getElem_take, Array.getElem_toList]
  exact this

theorem q_len0 {s : ByteArray} {k : Nat} (h : Plain s k) : (q s k).length = k := by
  rw [q_plain h]; have := h.1; simp; omega

theorem q_succ (s : ByteArray) (k : Nat) (h : k < s.size) : q s (k + 1) = q s k ++ (if spb s[k] then [92, s[k]] else [s[k]]) :=
  quoteL_take _ _ (by simpa using h)

theorem q_all (s : ByteArray) : q s s.size = quoteL s.data.toList := by
  unfold q; rw [List.take_of_length_le (by simp)]

/-- b[:j] as a string. -/
theorem conv_out (w : World) (R m cap : Nat) (f : Nat → Value) (l : List UInt8) (hr : w.rowIs R 5 m f) (ht : Told f l) (hm : l.length ≤ m) :
    (convert 58 9 (.slice (some ⟨R, 0, none⟩) l.length cap)).run Try.prog w = .ok (.string ⟨l.toArray⟩) w := by
  have hb : Lib.Bytes w R 0 ⟨l.toArray⟩ := by
    intro i hi
    have hi' : i < l.length := by simpa [ByteArray.size] using hi
    rw [Nat.zero_add, hr.cell (by omega), ht i hi']
    rfl
  have := Lib.run_convert_whole (P := Try.prog) w 58 5 9 Try.underlying58 Try.underlying5 Try.underlying9 R 0 ⟨l.toArray⟩ hb cap
  rwa [show (⟨l.toArray⟩ : ByteArray).size = l.length from by simp [ByteArray.size]] at this

set_option maxRecDepth 100000 in
set_option maxHeartbeats 2000000 in
theorem quote_calls (s : ByteArray) (hs : s.size ≤ 2147483647) (w : World) :
    Calls Try.prog 33 #[.string s] w fun e w' => e = .returned (.string ⟨(quoteL s.data.toList).toArray⟩) ∧ Below w.heap.size w w' := by
  go_enter Try.func33, Try.ntmps33
  go_wp2_with fail
  go_loopw [3] (fun i wr => ∃ k : Nat, Hid (Plain s k) ∧ k ≤ s.size ∧ i = .int .i64 k ∧ Below w.heap.size w wr) (fun i _ => s.size - (intOf i).toNat)
  case atStart => exact ⟨0, ⟨Nat.zero_le _, fun p _ h => absurd h (by omega)⟩, Nat.zero_le _, rfl, Below.refl _ _⟩
  case round =>
    obtain ⟨k, hpl, hk, rfl, hbel⟩ := hrel
    by_cases hlt : k < s.size
    · have H0 := Lib.hid hlt
      go_wp2_with fail
      refine (special_calls _ _).mono ?_
      rintro e w1 ⟨rfl, hb1⟩
      cases hsp : spb s[k]
      · have HS := Lib.hid hsp
        clear hsp
        go_wp2_with fail
        go_roundw
        case rel => exact ⟨k + 1, ⟨by omega, fun p hp hpk => by
          by_cases e : p = k
          · subst e; exact HS.out
          · exact hpl.out.2 p hp (by omega)⟩, by omega, by go_num, hbel.trans (hb1.mono hbel.size)⟩
        case measure => simp [intOf]; omega
      · have HS := Lib.hid hsp
        clear hsp
        have hmk : ∀ w : World, (Instr.makeSlice 58 (.int .i64 (2 * (s.size : Int) - (k : Int))) (.int .i64 (2 * (s.size : Int) - (k : Int)))).run Try.prog w = .ok (.slice (some ⟨w.heap.size, 0, none⟩) (2 * s.size - k) (2 * s.size - k)) (w.alloc (.cells (madeCells #[.int .u8 0] (2 * s.size - k)) 5)) := fun w => by
          have := run_make_row' (P := Try.prog) 58 5 (.int .u8 0) 1 Try.underlying58 info_u8 rfl .i64 .i64 (2 * s.size - k) (by omega) (by omega) w
          rw [show ((2 * s.size - k : Nat) : Int) = 2 * (s.size : Int) - (k : Int) from by omega] at this
          exact this
        go_wp2_with fail
        have hxs : (s.extract 0 k).size = k := by simp; omega
        obtain ⟨w2, f0, hcp, hrow, htold, hb2, hz2⟩ := copy_new w1 (s.extract 0 k) (2 * s.size - k) (by rw [hxs]; omega)
        rw [hcp]
        rw [hxs]
        have T0 : Hid (Told f0 (q s k)) := by
          rw [q_plain hpl.out]
          have : (s.extract 0 k).data.toList = s.data.toList.take k := by rw [Lib.extract_data]; simp
          rw [this] at htold
          exact htold
        have L0 : Hid ((q s k).length = k) := q_len0 hpl.out
        have B2 : Below w.heap.size w w2 := (hbel.trans (hb1.mono hbel.size)).trans (hb2.mono (by have := hb1.size; have := hbel.size; omega))
        have hR : w.heap.size ≤ w1.heap.size := by have := hb1.size; have := hbel.size; omega
        have hR2 : w1.heap.size < w2.heap.size := by omega
        generalize w1.heap.size = R at *
        clear hcp hmk hxs htold hb2 hb1 hbel hpl HS H0 hz2
        go_wp2_with fail
        go_loopw [3, 5] (fun i j wr => ∃ k' jn : Nat, ∃ f, Hid (jn = (q s k').length ∧ Told f (q s k')) ∧ k ≤ k' ∧ k' ≤ s.size ∧ jn + k ≤ 2 * k' ∧ i = .int .i64 k' ∧ j = .int .i64 jn ∧ Hid (wr.rowIs R 5 (2 * s.size - k) f) ∧ Hid (Below w.heap.size w wr)) (fun i _ _ => s.size - (intOf i).toNat)
        case atStart => exact ⟨k, k, f0, ⟨L0.out.symm, T0.out⟩, Nat.le_refl _, hk, by omega, rfl, rfl, hrow, B2⟩
        case round =>
          obtain ⟨k', jn, f, HT, h1, h2, h3, rfl, rfl, HR, HB⟩ := hrel
          have hRr := HR.out.lt
          clear hrow B2 T0 L0
          by_cases hk' : k' < s.size
          · go_wp2_with fail
            refine (special_calls _ _).mono ?_
            rintro e w3 ⟨rfl, hb3⟩
            have HR3 : Hid (w3.rowIs R 5 (2 * s.size - k) f) := HR.out.of_block (hb3.block _ hRr)
            have HB3 : Hid (Below w.heap.size w w3) := HB.out.trans (hb3.mono HB.out.size)
            have c1 := HR3.out.cell (i := jn) (by omega)
            have c2 := HR3.out.frozen jn
            have Q1 := Lib.hid (q_succ s k' hk')
            cases hsp : spb s[k']
            · have HS := Lib.hid hsp
              clear hsp hb3
              go_wp2_with fail
              go_roundw
              case rel =>
                have e1 : q s (k' + 1) = q s k' ++ [s[k']] := by rw [Q1.out, HS.out]; simp
                refine ⟨k' + 1, jn + 1, _, ⟨?_, ?_⟩, by omega, by omega, by omega, by go_num, by go_num, HR3.out.set jn _, HB3.out.setCell (by exact hR) _⟩
                · rw [e1, HT.out.1]; simp
                · rw [e1, HT.out.1]; exact HT.out.2.snoc _
              case measure => simp [intOf]; omega
            · have HS := Lib.hid hsp
              clear hsp hb3
              have c3 := HR3.out.cell (i := jn + 1) (by omega)
              have c4 := HR3.out.frozen (jn + 1)
              go_wp2_with fail
              go_roundw
              case rel =>
                have e1 : q s (k' + 1) = (q s k' ++ [92]) ++ [s[k']] := by rw [Q1.out, HS.out]; simp
                refine ⟨k' + 1, jn + 1 + 1, _, ⟨?_, ?_⟩, by omega, by omega, by omega, by go_num, by go_num, (HR3.out.set jn _).set (jn + 1) _, (HB3.out.setCell (by exact hR) _).setCell (by exact hR) _⟩
                · rw [e1, HT.out.1]; simp
                · rw [e1]
                  have t1 := HT.out.2.snoc 92
                  have t2 := t1.snoc s[k']
                  rw [HT.out.1]
                  rw [show (q s k' ++ [(92 : UInt8)]).length = (q s k').length + 1 from by simp] at t2
                  exact t2
              case measure => simp [intOf]; omega
          · obtain rfl : k' = s.size := by omega
            obtain rfl : jn = (q s s.size).length := HT.out.1
            have hcv := conv_out wr R (2 * s.size - k) (2 * s.size - k) f (q s s.size) HR.out HT.out.2 (by omega)
            have E := Lib.hid (q_all s)
            generalize q s s.size = l at *
            go_wp2_with fail
            go_ret
            refine ⟨?_, HB.out⟩
            show Ending.returned (.string ⟨l.toArray⟩) = _
            rw [E.out]
    · obtain rfl : k = s.size := by omega
      go_wp2_with fail
      go_ret
      refine ⟨?_, hbel⟩
      have e := q_plain hpl.out
      rw [q_all, List.take_of_length_le (by simp)] at e
      show Ending.returned (.string s) = _
      rw [e, Array.toArray_toList]

end Go.Proofs.Ytaogbmljadaplaa.Qm
