/- Bytes as whole numbers: strings, slices of bytes that the call owns, conversions. -/
import Derived.Test.YtpnojanoamheiaaDoorRows
import Derived.Test.YtpnojanoamheiaaDoorBase
import Derived.Laws.BytesArg
import Derived.Lib.BufferWrite
import Derived.Lib.SlBytesRow
namespace Go.Proofs.YtpnojanoamheiaaDoor.My
open Go.RowKit Go.Deep

theorem info_u8 : (Tryd.prog.info? 5).map (fun i => (i.zero, i.size, i.bytes)) = some (some (.int .u8 0), 1, 1) := by kernel_rfl

/-- The bytes of a string, as numbers. -/
def nums (s : ByteArray) : List Int := s.data.toList.map fun c => (c.toNat : Int)
theorem nums_length (s : ByteArray) : (nums s).length = s.size := by simp [nums]
theorem nums_get (s : ByteArray) (k : Nat) (h : k < s.size) : (nums s)[k]'(by rw [nums_length]; exact h) = (s[k].toNat : Int) := by
  simp [nums]; rfl
theorem nums_range (s : ByteArray) : ∀ x ∈ nums s, 0 ≤ x ∧ x ≤ 255 := by
  intro x hx
  simp only [nums, List.mem_map] at hx
  obtain ⟨c, _, rfl⟩ := hx
  have := UInt8.toNat_lt c
  omega
theorem str_nums (s : ByteArray) : strOfNums (nums s) = s := by
  apply ByteArray.ext
  apply Array.toList_inj.1
  rw [strOfNums_data, nums, List.map_map]
  conv => rhs; rw [← List.map_id s.data.toList]
  apply List.map_congr_left
  intro x _
  simp
theorem nums_str (l : List Int) (h : ∀ x ∈ l, 0 ≤ x ∧ x ≤ 255) : nums (strOfNums l) = l := by
  rw [nums, strOfNums_data, List.map_map]
  conv => rhs; rw [← List.map_id l]
  apply List.map_congr_left
  intro x hx
  have := h x hx
  simp
  omega
theorem nums_take (s : ByteArray) (k : Nat) (h : k < s.size) : (nums s).take (k + 1) = (nums s).take k ++ [(s[k].toNat : Int)] := by
  rw [List.take_succ_eq_append_getElem (by rw [nums_length]; exact h), nums_get s k h]

def bvals (l : List Int) : List Value := l.map (Value.int .u8)
theorem bvals_length (l : List Int) : (bvals l).length = l.length := by simp [bvals]

/-- string(v) of a slice of bytes that the call owns. -/
theorem conv_nums (w : World) (B : Nat) (v : Value) (n : Nat) (l : List Int) (h : w.ownsRow B 5 1 v n (bvals l)) :
    (convert 23 9 v).run Tryd.prog w = .ok (.string (strOfNums l)) w := by
  obtain ⟨hl, ⟨rfl, h0⟩ | ⟨g, cap, cur, rfl, hg, hcur, hcap, _, hsz, htk⟩⟩ := h
  · have : l = [] := by rw [bvals_length] at hl; exact List.eq_nil_of_length_eq_zero (by omega)
    subst this
    exact run_convert_bytes_nil w _ _ Tryd.underlying23 Tryd.underlying5 0 0 _ Tryd.underlying9
  · have hn : l.length = n := by rw [bvals_length] at hl; omega
    refine run_convert_bytes_arg w _ _ Tryd.underlying23 Tryd.underlying5 g 0 n cap l hn ?_ _ Tryd.underlying9
    intro i hi
    rw [Nat.zero_add]
    have e : cur[i]? = (bvals l)[i]? := by
      rw [← htk, List.getElem?_take_of_lt (by omega), Array.getElem?_toList]
    simp only [World.cell?, hcur]
    rw [e]
    simp [bvals, List.getD, show i < l.length by omega]

/-- make([]byte, k, n), then copy of a string of k bytes into it: an owned slice that holds the string. -/
theorem make_copy (w1 : World) (t : ByteArray) (n : Nat) (h : t.size ≤ n) (hn : n ≤ 281474976710656) :
    ∃ w2, Sem.run Tryd.prog (Builtin.copy_ #[23, 9] 3 #[.slice (some ⟨w1.heap.size, 0, none⟩) t.size n, .string t]) (w1.alloc (.cells (madeCells #[.int .u8 0] n) 5)) = .ok (.int .i64 t.size) w2 ∧
      w2.ownsRow w1.heap.size 5 1 (.slice (some ⟨w1.heap.size, 0, none⟩) t.size n) t.size (bvals (nums t)) ∧ Below w1.heap.size w1 w2 := by
  have hb : (w1.alloc (.cells (madeCells #[.int .u8 0] n) 5)).heap[w1.heap.size]? = some (.cells (madeCells #[.int .u8 0] n) 5 (0, 0)) := blk_alloc_new _ _
  have hsz : (madeCells #[Value.int .u8 0] n).size = n := size_madeCells _ _
  have hl : (Lib.byteCells t.data.toList).length = t.size := by rw [Lib.byteCells_length]; simp
  have hr := Lib.run_copy_row_string (P := Tryd.prog) (w1.alloc (.cells (madeCells #[.int .u8 0] n) 5)) 23 9 3 5 w1.heap.size 0 t.size n t _ _ Tryd.underlying23 (by kernel_rfl) hb (Nat.le_refl _) (by rw [hsz]; omega)
  have hbv : bvals (nums t) = Lib.byteCells t.data.toList := by simp [bvals, nums, Lib.byteCells]
  refine ⟨_, hr, ?_, ?_⟩
  · refine ⟨by rw [bvals_length, nums_length]; omega, .inr ⟨w1.heap.size, n, _, rfl, Nat.le_refl _, setRow_heap _ _ _ _ _ _ hb, h, by unfold maxLen; omega, ?_, ?_⟩⟩
    · simp only [List.take_zero, List.nil_append, Nat.zero_add, List.size_toArray, List.length_append, hl, List.length_drop, Array.length_toList, hsz]
      omega
    · simp only [List.take_zero, List.nil_append, Nat.zero_add, Nat.mul_one]
      rw [List.take_append_of_le_length (by omega), List.take_of_length_le (by omega), hbv]
  · exact ((Below.refl _ _).alloc (Nat.le_refl _) _).trans ⟨rfl, rfl, rfl, by simp [World.setRow], fun k hk => setRow_other _ _ _ _ (by omega)⟩

/-- make([]byte, k, n). -/
theorem make_run (k n : Nat) (h : k ≤ n) (hn : n ≤ 281474976710656) (w : World) :
    (Instr.makeSlice 23 (.int .i64 (k : Int)) (.int .i64 (n : Int))).run Tryd.prog w = .ok (.slice (some ⟨w.heap.size, 0, none⟩) k n) (w.alloc (.cells (madeCells #[.int .u8 0] n) 5)) := by
  obtain ⟨i, hi, hz, hs, hb⟩ := info_parts info_u8
  have := run_make (P := Tryd.prog) (w := w) 23 5 i (.int .u8 0) Tryd.underlying23 hi hz .i64 .i64 k n (by omega) (by omega) (by rw [hb]; omega) (by omega)
  simp only [hs, Int.toNat_natCast, Nat.mul_one] at this
  exact this

end Go.Proofs.YtpnojanoamheiaaDoor.My
