/- Walks for FnSyRepeat: parseInt. -/
import Derived.Test.YtaogbmljadaplaaRa
namespace Go.Proofs.Ytaogbmljadaplaa.Rp
open Go.RowKit My

def Stops (s : ByteArray) : Prop := s.size = 0 ∨ (∃ h : 0 < s.size, (s[0].toNat : Int) < 48 ∨ 57 < (s[0].toNat : Int)) ∨ (∃ h : 1 < s.size, (s[0].toNat : Int) = 48 ∧ (48 : Int) ≤ (s[1].toNat : Int) ∧ (s[1].toNat : Int) ≤ 57)

set_option maxRecDepth 100000 in
set_option maxHeartbeats 4000000 in
theorem int_no (p : Option Addr) (s : ByteArray) (hs : s.size ≤ 1000) (h : Stops s) (w : World) :
    Calls Try.prog 61 #[.pointer p, .string s] w fun e w' => e = .returned (.tuple #[.int .i64 0, .string ⟨#[]⟩, .bool false]) ∧ w = w' := by
  rcases h with h | ⟨h0, h⟩ | ⟨h0, h1, h2, h3⟩
  · obtain rfl := empty_of s h
    go_enter Try.func61, Try.ntmps61
    go_wp2_with fail
    go_ret3
    exact ⟨rfl, rfl⟩
  · have n1 := ne_list s h0
    have n2 := ne_empty s h0
    rcases h with h | h
    all_goals
      go_enter Try.func61, Try.ntmps61
      go_wp2_with fail
      go_ret3
      exact ⟨rfl, rfl⟩
  · have h00 : 0 < s.size := by omega
    have n1 := ne_list s h00
    have n2 := ne_empty s h00
    have n3 : ((s[0].toNat : Int) == 48) = true := by simpa using h1
    have n4 : (48 : Int) ≤ ((s[0].toNat : Nat) : Int) := by omega
    have n5 : ((s[0].toNat : Nat) : Int) ≤ 57 := by omega
    have n6 : 2 ≤ (s.size : Int) := by omega
    clear h1
    go_enter Try.func61, Try.ntmps61
    go_wp2_with fail
    go_ret3
    exact ⟨rfl, rfl⟩

set_option maxRecDepth 100000 in
set_option maxHeartbeats 4000000 in
theorem int_yes (p : Option Addr) (s : ByteArray) (hs : s.size ≤ 1000) (h0 : 0 < s.size) (h1 : (48 : Int) ≤ (s[0].toNat : Int)) (h2 : (s[0].toNat : Int) ≤ 57)
    (h : ∀ h : 1 < s.size, ¬ ((s[0].toNat : Int) = 48 ∧ (48 : Int) ≤ (s[1].toNat : Int) ∧ (s[1].toNat : Int) ≤ 57)) (w : World) :
    Calls Try.prog 61 #[.pointer p, .string s] w fun e w' => e = .returned (.tuple #[.int .i64 (valL 0 (digs (nums s))), .string (s.extract (digs (nums s)).length s.size), .bool true]) ∧ w = w' := by
  have n1 := ne_list s h0
  have n2 := ne_empty s h0
  go_enter Try.func61, Try.ntmps61
  go_upto_region 2 with (fail)
  go_cut [38] (fun b w' => b = .bool false ∧ w = w')
  case first =>
    go_wp2_with fail
    all_goals
      go_meet
      first
        | exact ⟨rfl, rfl⟩
        | (exfalso; have := h ‹_›; omega)
        | exact ⟨congrArg _ (decide_eq_false (by have := h (by omega); omega)), rfl⟩
  case rest =>
    obtain ⟨rfl, rfl⟩ := hcut
    have H := Lib.hid h
    clear h n1 n2
    go_wp2_with fail
    go_loopg [1] s.size (fun gk t wr => ∃ j : Nat, ∃ u : ByteArray, Hid (gk + j = s.size ∧ u = s.extract j s.size ∧ ∀ i (hi : i < s.size), i < j → isd (s[i].toNat : Int) = true) ∧ t = .string u ∧ w = wr)
    case atStart => exact ⟨0, s, ⟨by omega, (all_extract s).symm, fun i hi hij => absurd hij (by omega)⟩, rfl, rfl⟩
    case round =>
      obtain ⟨j, u, HI, rfl, rfl⟩ := hrel
      obtain ⟨hgj, hu, hdig⟩ := HI.out
      have hjs : j ≤ s.size := by omega
      have husz : u.size = s.size - j := by rw [hu, ext_size]
      have hend : (∃ hu0 : 0 < u.size, (48 : Int) ≤ (u[0].toNat : Int) ∧ (u[0].toNat : Int) ≤ 57) ∨ (Hid (digs (nums s) = (nums s).take j) ∧ (u.size = 0 ∨ (∃ hu0 : 0 < u.size, (u[0].toNat : Int) < 48) ∨ (∃ hu0 : 0 < u.size, 57 < (u[0].toNat : Int)))) := by
        have hnum : ∀ i (hi : i < (nums s).length), (nums s)[i] = (s[i]'(by rw [nums_length] at hi; exact hi)).toNat := fun i hi => nums_get s i _
        by_cases hj : j < s.size
        · have hu0 : 0 < u.size := by omega
          have hg : u[0] = s[j] := by subst hu; exact get_extract s j hj hu0
          by_cases hd : (48 : Int) ≤ (u[0].toNat : Int) ∧ (u[0].toNat : Int) ≤ 57
          · exact .inl ⟨hu0, hd⟩
          · refine .inr ⟨digs_of _ _ (by rw [nums_length]; omega) (fun i hi hij => ?_) (fun hk' => ?_), ?_⟩
            · rw [hnum i hi]; exact hdig i (by rw [nums_length] at hi; exact hi) hij
            · rw [hnum j hk', ← hg]; unfold isd; exact decide_eq_false hd
            · rcases Int.lt_or_le (u[0].toNat : Int) 48 with h' | h'
              · exact .inr (.inl ⟨hu0, h'⟩)
              · exact .inr (.inr ⟨hu0, by omega⟩)
        · refine .inr ⟨digs_of _ _ (by rw [nums_length]; omega) (fun i hi hij => ?_) (fun hk' => ?_), .inl (by omega)⟩
          · rw [hnum i hi]; exact hdig i (by rw [nums_length] at hi; exact hi) hij
          · rw [nums_length] at hk'; omega
      have HU := Lib.hid hu
      have HD := Lib.hid hdig
      have HZ := Lib.hid husz
      clear HI hu hdig husz
      rcases hend with ⟨hu0, d1, d2⟩ | ⟨hdg, hstop⟩
      · have n1 := ne_list u hu0
        have n2 := ne_empty u hu0
        have hjj : j < s.size := by have := HZ.out; omega
        go_wp2_with fail
        go_roundg (gk - 1)
        case measure => omega
        case rel =>
          refine ⟨j + 1, u.extract 1 u.size, ⟨by omega, by rw [HU.out, tail], fun i hi hij => ?_⟩, rfl, rfl⟩
          by_cases e : i = j
          · subst e
            have hu := HU.out
            subst hu
            have := get_extract s i hi hu0
            rw [← this]
            unfold isd; exact decide_eq_true ⟨d1, d2⟩
          · exact HD.out i hi (by omega)
      · have hj1 : j ≤ 1000 := by omega
        have hus : (s.size : Int) - (u.size : Int) = (j : Int) := by have := HZ.out; omega
        have HUS := Lib.hid hus
        have hule : u.size ≤ s.size := by omega
        have htest : ((u.toList = [] ∧ u.toList.isEmpty = true) ∨ (∃ hu0 : 0 < u.size, (¬ u.toList = [] ∧ u.toList.isEmpty = false) ∧ ((u[0].toNat : Int) < 48 ∨ 57 < (u[0].toNat : Int)))) := by
          rcases hstop with hs0 | ⟨hu0, hs0⟩ | ⟨hu0, hs0⟩
          · have n0 := empty_of u hs0
            left
            rw [n0, ByteArray.toList_eq]
            exact ⟨rfl, rfl⟩
          · exact .inr ⟨hu0, ⟨ne_list u hu0, ne_empty u hu0⟩, .inl hs0⟩
          · exact .inr ⟨hu0, ⟨ne_list u hu0, ne_empty u hu0⟩, .inr hs0⟩
        clear hus hgj hstop
        have hdd : Hid (nums (s.extract 0 (s.size - u.size)) = digs (nums s)) := by
          show _ = _
          rw [show s.size - u.size = j from by have := HUS.out; omega, nums_pre, hdg.out]
        have hdsz : Hid ((s.extract 0 (s.size - u.size)).size ≤ 1000) := by
          show _ ≤ _
          simp; omega
        rcases htest with ⟨t1, t2⟩ | ⟨hu0, ⟨t1, t2⟩, t3 | t3⟩
        all_goals
          go_wp2_with fail
          generalize s.extract 0 (s.size - u.size) = d at *
          have hd1000 := hdsz.out
          clear t1 t2
          go_loopg [4, 8] d.size (fun gk v i wr => ∃ q : Nat, ∃ n : Int, Hid (gk + q = d.size ∧ valL 0 (nums d) = valL n ((nums d).drop q)) ∧ q ≤ d.size ∧ 0 ≤ n ∧ n ≤ 999999999 ∧ v = .int .i64 n ∧ i = .int .i64 q ∧ w = wr)
          case atStart => exact ⟨0, 0, ⟨by omega, rfl⟩, Nat.zero_le _, Int.le_refl _, by omega, rfl, rfl, rfl⟩
          case round =>
            obtain ⟨q, n, HV, hq, hn0, hn9, rfl, rfl, rfl⟩ := hrel
            by_cases hqd : q < d.size
            · have hdr : (nums d).drop q = ((d[q].toNat : Nat) : Int) :: (nums d).drop (q + 1) := by
                rw [List.drop_eq_getElem_cons (by rw [nums_length]; exact hqd), nums_get d q hqd]
              have hdg2 : (48 : Int) ≤ ((d[q].toNat : Nat) : Int) ∧ ((d[q].toNat : Nat) : Int) ≤ 57 := by
                have hm : ((d[q].toNat : Nat) : Int) ∈ digs (nums s) := by
                  rw [← hdd.out, ← nums_get d q hqd]; exact List.getElem_mem _
                have := List.all_eq_true.1 List.all_takeWhile _ hm
                unfold isd at this
                exact of_decide_eq_true this
              obtain ⟨g1, g2⟩ := hdg2
              have HDR := Lib.hid hdr
              clear hdr
              by_cases hbig : n ≥ 100000000
              · go_wp2_with fail
                go_ret3
                refine ⟨?_, rfl⟩
                have e : valL 0 (digs (nums s)) = -1 := by
                  rw [← hdd.out, HV.out.2, HDR.out, valL, if_pos hbig]
                have e2 : s.extract (digs (nums s)).length s.size = u := by
                  rw [hdg.out, List.length_take, nums_length, Nat.min_eq_left hjs]; exact HU.out.symm
                rw [e, e2]
                rfl
              · have hsm : n ≤ 99999999 := by omega
                have HB := Lib.hid hbig
                clear hbig
                go_wp2_with fail
                go_roundg (d.size - (q + 1))
                case measure => have := HV.out.1; omega
                case rel =>
                  refine ⟨q + 1, _, ⟨by omega, ?_⟩, by omega, ?_, ?_, rfl, by go_num, rfl⟩
                  · rw [HV.out.2, HDR.out, valL, if_neg (by have := HB.out; omega)]
                  · omega
                  · omega
            · obtain rfl : q = d.size := by omega
              go_wp2_with fail
              go_ret3
              refine ⟨?_, rfl⟩
              have e : valL 0 (digs (nums s)) = n := by
                rw [← hdd.out, HV.out.2, List.drop_of_length_le (by rw [nums_length]; omega), valL]
              have e2 : s.extract (digs (nums s)).length s.size = u := by
                rw [hdg.out, List.length_take, nums_length, Nat.min_eq_left hjs]; exact HU.out.symm
              rw [e, e2]
              rfl

end Go.Proofs.Ytaogbmljadaplaa.Rp
