/- The walk of the law FnSyCanonical. -/
import Derived.Test.YtaogbmljadaplaaCx
namespace Go.Proofs.Ytaogbmljadaplaa.Cn
open Go.RowKit My

theorem canon_str (s : ByteArray) : canon (nums (strOfNums (canon (nums s)))) = canon (nums s) := by
  rw [nums_str _ (canon_range _ (nums_range s)), canon_canon]

set_option maxRecDepth 100000 in
set_option maxHeartbeats 4000000 in
theorem law_calls (a b : ByteArray) (ha : a.size ≤ 9223372036854775807) (hb : b.size ≤ 9223372036854775807) (w : World) :
    Calls Try.prog 6 #[.string a, .string b] w fun e w' => e = .returned (.bool true) ∧ Below w.heap.size w w' := by
  by_cases hs : a.size ≤ 1000 ∧ b.size ≤ 1000
  · obtain ⟨h1, h2⟩ := hs
    have HA := Lib.hid (sy_calls a (by omega))
    have HB := Lib.hid (sy_calls b (by omega))
    have HTA := Lib.hid (title_calls a (by omega))
    have HTB := Lib.hid (title_calls b (by omega))
    have hz : (strOfNums (canon (nums a))).size ≤ 1000 := by
      rw [strOfNums_size]
      have := canon_length (nums a)
      rw [nums_length] at this
      omega
    have HX := Lib.hid (sy_calls (strOfNums (canon (nums a))) (by omega))
    have HXE := Lib.hid (canon_str a)
    have HO := Lib.hid (sy_calls ⟨#[97]⟩ (by decide))
    have HOE := Lib.hid (show strOfNums (canon (nums ⟨#[97]⟩)) = ⟨#[65]⟩ from by decide +kernel)
    go_enter Try.func6, Try.ntmps6
    go_wp2_with fail
    refine (HA.out _).mono ?_
    rintro e w1 ⟨rfl, b1⟩
    go_wp2_with fail
    refine (HB.out _).mono ?_
    rintro e w2 ⟨rfl, b2⟩
    go_wp2_with fail
    refine (HTA.out _).mono ?_
    rintro e w3 ⟨rfl, b3⟩
    go_wp2_with fail
    refine (HTB.out _).mono ?_
    rintro e w4 ⟨rfl, b4⟩
    go_wp2_with fail
    refine (HX.out _).mono ?_
    rintro e w5 ⟨rfl, b5⟩
    rw [HXE.out]
    go_wp2_with fail
    refine (HO.out _).mono ?_
    rintro e w6 ⟨rfl, b6⟩
    rw [HOE.out]
    go_wp2_with fail
    go_ret
    exact ⟨rfl, ((((b1.trans (b2.mono b1.size)).trans (b3.mono (by have := b1.size; have := b2.size; omega))).trans (b4.mono (by have := b1.size; have := b2.size; have := b3.size; omega))).trans (b5.mono (by have := b1.size; have := b2.size; have := b3.size; have := b4.size; omega))).trans (b6.mono (by have := b1.size; have := b2.size; have := b3.size; have := b4.size; have := b5.size; omega))⟩
  · go_enter Try.func6, Try.ntmps6
    go_wp2_with fail
    all_goals (go_ret; exact ⟨rfl, Below.refl _ _⟩)

end Go.Proofs.Ytaogbmljadaplaa.Cn
