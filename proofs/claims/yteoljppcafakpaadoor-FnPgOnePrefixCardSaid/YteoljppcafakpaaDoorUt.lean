/- Characters and their bytes, both ways: encoding then decoding, from the front and from the end. No walk. -/
import Derived.Lib.MapLaws
import Derived.Lib.TrimUEq
import Derived.Lib.SpaceUEq
namespace Go.Proofs.YteoljppcafakpaaDoor.Ut
open Go Go.Lib
set_option linter.unusedSimpArgs false
set_option linter.unusedVariables false

/-- A character that has bytes of its own. -/
def scalar (r : Int) : Prop := 0 ≤ r ∧ r ≤ 1114111 ∧ (r < 55296 ∨ 57343 < r)

theorem byte_nat (z : Int) (h0 : 0 ≤ z) (h1 : z < 256) : (z.toNat.toUInt8).toNat = z.toNat := by
  rw [Nat.toUInt8, UInt8.toNat_ofNat']; omega
theorem enc_bytes (r : Int) : encodeRune r = (encodeRuneZ r).map fun x => x.toNat.toUInt8 := rfl

/-- The character at the head of its own bytes. -/
theorem decode_encode (r : Int) (h : scalar r) (t : List UInt8) : decodeL (encodeRune r ++ t) = (r.toNat, (encodeRune r).length) := by
  obtain ⟨h0, h1, h2⟩ := h
  obtain ⟨n, rfl⟩ : ∃ n : Nat, r = (n : Int) := ⟨r.toNat, by omega⟩
  rw [decodeL_N, enc_bytes]
  rcases (by omega : (n : Int) ≤ 127 ∨ (128 ≤ (n : Int) ∧ (n : Int) ≤ 2047) ∨ ((2048 ≤ (n : Int) ∧ (n : Int) < 55296) ∨ (57343 < (n : Int) ∧ (n : Int) ≤ 65535)) ∨ 65536 ≤ (n : Int)) with h3 | h3 | h3 | h3
  · rw [encodeRuneZ_one h0 h3]
    simp only [List.map_cons, List.map_nil, List.cons_append, List.nil_append, List.getD_cons_zero, List.length_cons, List.length_nil]
    rw [byte_nat _ h0 (by omega)]
    unfold decodeN
    rw [if_pos (by omega)]
  · rw [encodeRuneZ_two h3.1 h3.2]
    simp only [List.map_cons, List.map_nil, List.cons_append, List.nil_append, List.getD_cons_zero, List.getD_cons_succ, List.length_cons, List.length_nil]
    rw [byte_nat _ (by omega) (by omega), byte_nat _ (by omega) (by omega)]
    unfold decodeN
    rw [if_neg (by omega), if_pos (by omega), if_pos (by omega)]
    exact Prod.ext (by dsimp only; omega) rfl
  · rw [encodeRuneZ_three h3]
    simp only [List.map_cons, List.map_nil, List.cons_append, List.nil_append, List.getD_cons_zero, List.getD_cons_succ, List.length_cons, List.length_nil]
    rw [byte_nat _ (by omega) (by omega), byte_nat _ (by omega) (by omega), byte_nat _ (by omega) (by omega)]
    unfold decodeN
    rw [if_neg (by omega), if_neg (by omega), if_pos (by omega), if_pos (by omega)]
    exact Prod.ext (by dsimp only; omega) rfl
  · rw [encodeRuneZ_four h3 h1]
    simp only [List.map_cons, List.map_nil, List.cons_append, List.nil_append, List.getD_cons_zero, List.getD_cons_succ, List.length_cons, List.length_nil]
    rw [byte_nat _ (by omega) (by omega), byte_nat _ (by omega) (by omega), byte_nat _ (by omega) (by omega), byte_nat _ (by omega) (by omega)]
    unfold decodeN
    rw [if_neg (by omega), if_neg (by omega), if_neg (by omega), if_pos (by omega), if_pos (by omega)]
    exact Prod.ext (by dsimp only; omega) rfl

theorem last4 (t : List UInt8) (c0 c1 c2 c3 : UInt8) (h3 : 128 ≤ c3.toNat) (h2 : runeStartB c2 = false) (h1 : runeStartB c1 = false) (h0 : runeStartB c0 = true) (hd : (decodeL [c0, c1, c2, c3]).2 = 4) : decodeLastL (t ++ [c0, c1, c2, c3]) = decodeL [c0, c1, c2, c3] := by
  have g1 := getD_app_end t [c0, c1, c2, c3] 1 (by omega) (by simp)
  have g2 := getD_app_end t [c0, c1, c2, c3] 2 (by omega) (by simp)
  have g3 := getD_app_end t [c0, c1, c2, c3] 3 (by omega) (by simp)
  have g4 := getD_app_end t [c0, c1, c2, c3] 4 (by omega) (by simp)
  have hl : (t ++ [c0, c1, c2, c3]).length = t.length + 4 := by simp
  have hs : lastStart (t ++ [c0, c1, c2, c3]) = (t ++ [c0, c1, c2, c3]).length - 4 := by
    unfold lastStart
    simp only [g2, g3, g4]
    rw [if_neg (by omega)]
    simp only [List.length_cons, List.length_nil, List.getD_cons_succ, List.getD_cons_zero, Nat.reduceAdd, Nat.reduceSub, h1, h0, h2, Bool.false_eq_true, if_false, if_true]
    rw [if_neg (by omega), if_neg (by omega)]
  have hdrop := drop_app_end t [c0, c1, c2, c3]
  unfold decodeLastL
  rw [if_neg (by simp), g1, if_neg (by simp; omega), hs]
  simp only [List.length_cons, List.length_nil] at hdrop
  simp only [hdrop, hd]
  rw [if_pos (by omega)]

/-- The character at the end, behind its own bytes. -/
theorem decodeLast_encode (r : Int) (h : scalar r) (t : List UInt8) : decodeLastL (t ++ encodeRune r) = (r.toNat, (encodeRune r).length) := by
  have hd := decode_encode r h []
  rw [List.append_nil] at hd
  obtain ⟨h0, h1, h2⟩ := h
  obtain ⟨n, rfl⟩ : ∃ n : Nat, r = (n : Int) := ⟨r.toNat, by omega⟩
  rw [enc_bytes] at hd ⊢
  rcases (by omega : (n : Int) ≤ 127 ∨ (128 ≤ (n : Int) ∧ (n : Int) ≤ 2047) ∨ ((2048 ≤ (n : Int) ∧ (n : Int) < 55296) ∨ (57343 < (n : Int) ∧ (n : Int) ≤ 65535)) ∨ 65536 ≤ (n : Int)) with h3 | h3 | h3 | h3
  · rw [encodeRuneZ_one h0 h3] at hd ⊢
    simp only [List.map_cons, List.map_nil, List.length_cons, List.length_nil] at hd ⊢
    rw [decodeLastL_ascii _ _ (by rw [byte_nat _ h0 (by omega)]; omega), byte_nat _ h0 (by omega)]
  · rw [encodeRuneZ_two h3.1 h3.2] at hd ⊢
    simp only [List.map_cons, List.map_nil, List.length_cons, List.length_nil] at hd ⊢
    rw [last2 _ _ _ (by rw [byte_nat _ (by omega) (by omega)]; omega) (by unfold runeStartB; rw [byte_nat _ (by omega) (by omega)]; simp; omega) (by rw [hd]), hd]
  · rw [encodeRuneZ_three h3] at hd ⊢
    simp only [List.map_cons, List.map_nil, List.length_cons, List.length_nil] at hd ⊢
    rw [last3 _ _ _ _ (by rw [byte_nat _ (by omega) (by omega)]; omega) (by unfold runeStartB; rw [byte_nat _ (by omega) (by omega)]; simp; omega) (by unfold runeStartB; rw [byte_nat _ (by omega) (by omega)]; simp; omega) (by rw [hd]), hd]
  · rw [encodeRuneZ_four h3 h1] at hd ⊢
    simp only [List.map_cons, List.map_nil, List.length_cons, List.length_nil] at hd ⊢
    rw [last4 _ _ _ _ _ (by rw [byte_nat _ (by omega) (by omega)]; omega) (by unfold runeStartB; rw [byte_nat _ (by omega) (by omega)]; simp; omega) (by unfold runeStartB; rw [byte_nat _ (by omega) (by omega)]; simp; omega) (by unfold runeStartB; rw [byte_nat _ (by omega) (by omega)]; simp; omega) (by rw [hd]), hd]

/-- Where a character is read that has bytes of its own, these stand. -/
theorem starts_of_decode (r : Int) (h : scalar r) (hr : r ≠ 65533) (l : List UInt8) (hne : l ≠ []) (hd : ((decodeL l).1 : Int) = r) : ∃ t, l = encodeRune r ++ t ∧ (decodeL l).2 = (encodeRune r).length := by
  have he := encode_decode l hne (by intro e; rw [e.1] at hd; exact hr hd.symm)
  rw [hd] at he
  refine ⟨l.drop (decodeL l).2, by rw [he, List.take_append_drop], ?_⟩
  rw [he, List.length_take, Nat.min_eq_left (decodeL_le l hne)]
end Go.Proofs.YteoljppcafakpaaDoor.Ut
