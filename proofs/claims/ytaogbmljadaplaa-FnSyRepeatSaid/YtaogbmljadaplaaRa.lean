/- Walks for FnSyRepeat: parseInt. -/
import Derived.Test.YtaogbmljadaplaaBytes
import Derived.Deep.DeepCutAuto
import Derived.Deep.CutBlock
import Derived.Deep.Light
namespace Go.Proofs.Ytaogbmljadaplaa.Rp
open Go.RowKit My

def isd (x : Int) : Bool := decide (48 ≤ x ∧ x ≤ 57)
def digs (l : List Int) : List Int := l.takeWhile isd
def valL (n : Int) : List Int → Int
  | [] => n
  | c :: r => if n ≥ 100000000 then -1 else valL (n * 10 + c - 48) r
/-- Whether parseInt takes a number at the beginning. -/
def okInt (l : List Int) : Bool := !(digs l).isEmpty && !(decide (2 ≤ (digs l).length) && l.head? == some 48)

theorem ext_list (s : ByteArray) (j : Nat) : (s.extract j s.size).data.toList = s.data.toList.drop j := by
  rw [Lib.extract_data]
  exact List.take_of_length_le (by simp)
theorem tail (s : ByteArray) (j : Nat) : (s.extract j s.size).extract 1 (s.extract j s.size).size = s.extract (j + 1) s.size := by
  apply ByteArray.ext
  apply Array.toList_inj.1
  rw [ext_list, ext_list, ext_list, List.drop_drop]
theorem all_extract (s : ByteArray) : s.extract 0 s.size = s := by
  apply ByteArray.ext
  apply Array.toList_inj.1
  simp only [Lib.extract_data, List.drop_zero, Nat.sub_zero]
  exact List.take_of_length_le (by simp)
theorem empty_of (s : ByteArray) (h : s.size = 0) : s = ⟨#[]⟩ := by
  apply ByteArray.ext
  apply Array.toList_inj.1
  have : s.data.toList.length = 0 := by simpa using h
  rw [List.eq_nil_of_length_eq_zero this]
theorem ne_list (s : ByteArray) (h : 0 < s.size) : ¬ s.toList = [] := by
  intro e
  rw [ByteArray.toList_eq] at e
  have := congrArg List.length e
  simp at this
  have h2 : s.size = s.data.size := rfl
  rw [h2, this] at h
  simp at h
theorem ne_empty (s : ByteArray) (h : 0 < s.size) : s.toList.isEmpty = false := by
  rw [List.isEmpty_eq_false_iff]; exact ne_list s h
theorem ext_size (s : ByteArray) (j : Nat) : (s.extract j s.size).size = s.size - j := by simp
theorem get_extract (s : ByteArray) (j : Nat) (h : j < s.size) (h' : 0 < (s.extract j s.size).size) : (s.extract j s.size)[0] = s[j] := by
  simp [ByteArray.getElem_extract]


theorem nums_ext (s : ByteArray) (j : Nat) : nums (s.extract j s.size) = (nums s).drop j := by
  unfold nums; rw [ext_list, List.map_drop]
theorem nums_pre (s : ByteArray) (j : Nat) : nums (s.extract 0 j) = (nums s).take j := by
  unfold nums; rw [Lib.extract_data, List.drop_zero, Nat.sub_zero, List.map_take]

/-- The first k are digits, and behind them stands none. -/
theorem digs_of (l : List Int) (k : Nat) (hk : k ≤ l.length) (h : ∀ i (hi : i < l.length), i < k → isd l[i] = true) (hn : ∀ hk' : k < l.length, isd l[k] = false) : digs l = l.take k := by
  induction l generalizing k with
  | nil => simp [digs]
  | cons c l ih =>
    unfold digs
    cases k with
    | zero =>
      have := hn (by simp)
      simp only [List.getElem_cons_zero] at this
      simp [this]
    | succ k =>
      have h0 := h 0 (by simp) (by omega)
      simp only [List.getElem_cons_zero] at h0
      rw [List.takeWhile_cons, if_pos h0, List.take_succ_cons]
      congr 1
      refine ih k (by simp at hk; omega) (fun i hi hik => ?_) (fun hk' => ?_)
      · have := h (i + 1) (by simp; omega) (by omega)
        simpa using this
      · have := hn (by simp; omega)
        simpa using this

end Go.Proofs.Ytaogbmljadaplaa.Rp
