/- Walks for FnSyRepeat: the reference's reader of a counted repetition. -/
import Derived.Test.YtaogbmljadaplaaRe
namespace Go.Proofs.Ytaogbmljadaplaa.Rp
open Go.RowKit My

abbrev Kind := Option (Option (List Int))
def grB (d1 d2 : List Int) : List Int → Option (List Int × Kind × List Int)
  | [] => none
  | d :: r => if d = 125 then some (d1, some (some d2), r) else none
def gr3 (d1 : List Int) (l : List Int) : Option (List Int × Kind × List Int) := if okInt l = true then grB d1 (digs l) (l.drop (digs l).length) else none
def gr2 (d1 : List Int) : List Int → Option (List Int × Kind × List Int)
  | [] => none
  | c :: r => if c = 125 then some (d1, some none, r) else gr3 d1 (c :: r)
def grA (d1 : List Int) : List Int → Option (List Int × Kind × List Int)
  | [] => none
  | d :: l => if d = 44 then gr2 d1 l else if d = 125 then some (d1, none, l) else none
def gr1 (l : List Int) : Option (List Int × Kind × List Int) := if okInt l = true then grA (digs l) (l.drop (digs l).length) else none
def gr : List Int → Option (List Int × Kind × List Int)
  | [] => none
  | c :: l => if c = 123 then gr1 l else none
theorem gr_cons (c : Int) (l : List Int) : gr (c :: l) = if c = 123 then gr1 l else none := rfl
theorem grA_cons (n : List Int) (d : Int) (l : List Int) : grA n (d :: l) = if d = 44 then gr2 n l else if d = 125 then some (n, none, l) else none := rfl
theorem gr2_cons (n : List Int) (c : Int) (r : List Int) : gr2 n (c :: r) = if c = 125 then some (n, some none, r) else gr3 n (c :: r) := rfl
theorem grB_cons (n m : List Int) (d : Int) (r : List Int) : grB n m (d :: r) = if d = 125 then some (n, some (some m), r) else none := rfl

/-- The second number, by a value of digits. -/
def most (V : List Int → Int) (d1 : List Int) : Kind → Int
  | none => V d1
  | some none => -1
  | some (some d2) => V d2

theorem drop_cons (s : ByteArray) (k : Nat) (c : Int) (l : List Int) (h : (nums s).drop k = c :: l) : ∃ hk : k < s.size, (s[k].toNat : Int) = c ∧ (nums s).drop (k + 1) = l := by
  have hl := congrArg List.length h
  rw [List.length_drop, nums_length] at hl
  have hk : k < s.size := by simp at hl; omega
  rw [List.drop_eq_getElem_cons (by rw [nums_length]; exact hk), nums_get s k hk] at h
  cases h
  exact ⟨hk, rfl, rfl⟩
theorem drop_nil (s : ByteArray) (k : Nat) (hk : k ≤ s.size) (h : (nums s).drop k = []) : k = s.size := by
  have hl := congrArg List.length h
  rw [List.length_drop, nums_length] at hl
  simp at hl; omega
theorem digs_le (l : List Int) : (digs l).length ≤ l.length := by
  unfold digs
  exact (List.takeWhile_sublist _).length_le

def CntPost (l : List Int) (size B : Nat) (w : World) (e : Ending) (w' : World) : Prop :=
  Below B w w' ∧ ∃ a b z : Int, e = .returned (.tuple #[.int .i64 a, .int .i64 b, .int .i64 z]) ∧ (gr l = none → a = 0 ∧ b = 0 ∧ z = 0) ∧
    ∀ d1 k r, gr l = some (d1, k, r) → a = valM 0 d1 ∧ b = most (valM 0) d1 k ∧ z + r.length = size ∧ 0 < z

theorem cnt_none {l : List Int} {size B : Nat} {w w' : World} (h : gr l = none) (hb : Below B w w') : CntPost l size B w (.returned (.tuple #[.int .i64 0, .int .i64 0, .int .i64 0])) w' :=
  ⟨hb, 0, 0, 0, rfl, fun _ => ⟨rfl, rfl, rfl⟩, fun d1 k r e => by rw [h] at e; cases e⟩
theorem cnt_some {l : List Int} {size B : Nat} {w w' : World} {d1 : List Int} {k : Kind} {r : List Int} {a b z : Int} (h : gr l = some (d1, k, r)) (ha : a = valM 0 d1) (hb' : b = most (valM 0) d1 k) (hz : z + r.length = size) (hz0 : 0 < z) (hb : Below B w w') :
    CntPost l size B w (.returned (.tuple #[.int .i64 a, .int .i64 b, .int .i64 z])) w' :=
  ⟨hb, a, b, z, rfl, (fun e => by rw [h] at e; cases e), fun d1' k' r' e => by rw [h] at e; cases e; exact ⟨ha, hb', hz, hz0⟩⟩

end Go.Proofs.Ytaogbmljadaplaa.Rp
