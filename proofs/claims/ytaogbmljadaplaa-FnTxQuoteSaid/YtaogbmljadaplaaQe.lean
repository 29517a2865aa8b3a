/- The walk of TxQuote. -/
import Derived.Test.YtaogbmljadaplaaQc
import Derived.Test.YtaogbmljadaplaaQd
import Derived.Test.YtaogbmljadaplaaBase
namespace Go.Proofs.Ytaogbmljadaplaa.Qm
open Go.RowKit Go.Deep

def bv (l : List UInt8) : List Value := l.map fun c => .int .u8 (c.toNat : Int)

/-- A slice of the call's own that holds bytes, as a string. -/
theorem conv_own (w : World) (B : Nat) (v : Value) (l : List UInt8) (h : w.ownsRow B 5 1 v (bv l).length (bv l)) :
    (convert 58 9 v).run Try.prog w = .ok (.string ⟨l.toArray⟩) w := by
  obtain ⟨hl, ⟨rfl, h0⟩ | ⟨g, cap, cur, rfl, hg, hcur, hcap, _, hsz, htk⟩⟩ := h
  · have : l = [] := by simpa [bv] using h0
    subst this
    show _ = _
    kernel_rfl
  · have hb : Lib.Bytes w g 0 ⟨l.toArray⟩ := by
      intro i hi
      have hi' : i < l.length := by simpa [ByteArray.size] using hi
      have hlb : (bv l).length = l.length := by simp [bv]
      rw [Nat.zero_add]
      have h2 : i < (bv l).length * 1 := by omega
      have e : cur[i]? = (bv l)[i]? := by
        rw [← htk, List.getElem?_take_of_lt h2, Array.getElem?_toList]
      simp only [World.cell?, hcur]
      rw [e]
      simp [bv, hi']
      rfl
    have := Lib.run_convert_whole (P := Try.prog) w 58 5 9 Try.underlying58 Try.underlying5 Try.underlying9 g 0 ⟨l.toArray⟩ hb cap
    rwa [show (⟨l.toArray⟩ : ByteArray).size = (bv l).length from by simp [ByteArray.size, bv]] at this

set_option maxRecDepth 100000 in
set_option maxHeartbeats 2000000 in
theorem txquote_calls (s : ByteArray) (hs : s.size ≤ 2147483647) (w : World) :
    Calls Try.prog 15 #[.string s] w fun e w' => e = .returned (.string ⟨(quoteL s.data.toList).toArray⟩) ∧ Below w.heap.size w w' := by
  go_enter Try.func15, Try.ntmps15
  go_wp2_with fail
  go_loopw [3, 4] (fun v i wr => ∃ k : Nat, ∃ xs : List Value, Hid (xs = bv (q s k)) ∧ k ≤ s.size ∧ xs.length ≤ 2 * k ∧ i = .int .i64 k ∧ Hid (wr.ownsRow w.heap.size 5 1 v xs.length xs) ∧ Hid (Below w.heap.size w wr)) (fun _ i _ => s.size - (intOf i).toNat)
  case atStart => exact ⟨0, [], rfl, Nat.zero_le _, Nat.zero_le _, rfl, World.ownsRow_nil _ _ _ _, Below.refl _ _⟩
  case round =>
    obtain ⟨k, xs, hx, hk, hlen, rfl, hown, hbel⟩ := hrel
    by_cases hlt : k < s.size
    · have Q1 := Lib.hid (q_succ s k hlt)
      go_wp2_with fail
      refine (txspecial_calls _ _).mono ?_
      rintro e w1 ⟨rfl, rfl⟩
      cases hsp : spb s[k]
      · have HS := Lib.hid hsp
        clear hsp
        go_wp2_with (at_builtin; refine My.app1 rfl (.tmp 18) (.tmp 22) 58 rfl 5 (.int .u8 0) 1 Try.underlying58 info_u8 rfl _ _ xs rfl w.heap.size w (hown.out.alloc _) (hbel.out.alloc hbel.out.size _) (Nat.le_refl _) wr.heap.size rfl (.int .u8 (s[k].toNat : Int)) (by simp) rfl (by omega) (by unfold maxLen; omega) ?_; intro v' w' hown' hbel' hg')
        go_roundw
        case rel =>
          refine ⟨k + 1, xs ++ [.int .u8 (s[k].toNat : Int)], ?_, by omega, by simp; omega, by go_num, by simpa using hown', hbel'⟩
          have e1 : q s (k + 1) = q s k ++ [s[k]] := by rw [Q1.out, HS.out]; simp
          show xs ++ _ = _
          rw [e1, hx.out]; simp [bv]
        case measure => simp [intOf]; omega
      · have HS := Lib.hid hsp
        clear hsp
        go_wp2_with (at_builtin; first
          | (refine My.app1 rfl (.tmp 15) (.tmp 16) 58 rfl 5 (.int .u8 0) 1 Try.underlying58 info_u8 rfl _ _ xs rfl w.heap.size w (hown.out.alloc _) (hbel.out.alloc hbel.out.size _) (Nat.le_refl _) wr.heap.size rfl (.int .u8 92) (by simp) rfl (by omega) (by unfold maxLen; omega) ?_; intro v1 w1 hown1 hbel1 hg1)
          | (refine My.app1 rfl (.tmp 18) (.tmp 22) 58 rfl 5 (.int .u8 0) 1 Try.underlying58 info_u8 rfl _ _ (xs ++ [.int .u8 92]) rfl w.heap.size w (hown1.out.alloc _) (hbel1.out.alloc hbel1.out.size _) (Nat.le_refl _) w1.heap.size rfl (.int .u8 (s[k].toNat : Int)) (by simp) rfl (by omega) (by unfold maxLen; omega) ?_; intro v' w' hown' hbel' hg'))
        go_roundw
        case rel =>
          refine ⟨k + 1, xs ++ [.int .u8 92] ++ [.int .u8 (s[k].toNat : Int)], ?_, by omega, by simp; omega, by go_num, by simpa using hown', hbel'⟩
          have e1 : q s (k + 1) = (q s k ++ [92]) ++ [s[k]] := by rw [Q1.out, HS.out]; simp
          show xs ++ _ ++ _ = _
          rw [e1, hx.out]; simp [bv]
        case measure => simp [intOf]; omega
    · obtain rfl : k = s.size := by omega
      obtain rfl := hx.out
      go_wp2_with fail
      rw [conv_own wr w.heap.size _ _ hown.out]
      go_wp2_with fail
      go_ret
      refine ⟨?_, hbel.out⟩
      show Ending.returned (.string ⟨(q s s.size).toArray⟩) = _
      rw [q_all]


set_option maxHeartbeats 1000000 in
theorem rxquote_calls (s : ByteArray) (hs : s.size ≤ 2147483647) (w : World) :
    Calls Try.prog 14 #[.string s] w fun e w' => e = .returned (.string ⟨(quoteL s.data.toList).toArray⟩) ∧ Below w.heap.size w w' := by
  have HQ := Lib.hid (quote_calls s hs)
  go_enter Try.func14, Try.ntmps14
  go_wp2_with fail
  refine (HQ.out _).mono ?_
  rintro e w1 ⟨rfl, hb⟩
  go_wp2_with fail
  go_ret
  exact ⟨rfl, hb⟩

set_option maxHeartbeats 1000000 in
theorem law_calls (s : ByteArray) (hm : s.size ≤ 9223372036854775807) (w : World) :
    Calls Try.prog 5 #[.string s] w fun e w' => e = .returned (.bool true) ∧ Below w.heap.size w w' := by
  by_cases hs : s.size ≤ 2147483647
  · have HQ := Lib.hid (rxquote_calls s hs)
    have HT := Lib.hid (txquote_calls s hs)
    go_enter Try.func5, Try.ntmps5
    go_wp2_with fail
    refine (HQ.out _).mono ?_
    rintro e w1 ⟨rfl, hb⟩
    go_wp2_with fail
    refine (HT.out _).mono ?_
    rintro e w2 ⟨rfl, hb2⟩
    generalize (quoteL s.data.toList).toArray = x
    go_wp2_with fail
    go_ret
    exact ⟨ret_bool (by simp), hb.trans (hb2.mono hb.size)⟩
  · have g : decide ((s.size : Int) > 2147483647) = true := by simp; omega
    go_enter Try.func5, Try.ntmps5
    go_wp2_with fail
    go_ret
    exact ⟨rfl, Below.refl _ _⟩

end Go.Proofs.Ytaogbmljadaplaa.Qm
