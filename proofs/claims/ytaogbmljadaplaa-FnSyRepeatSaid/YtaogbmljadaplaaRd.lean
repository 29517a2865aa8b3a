/- Walks for FnSyRepeat: parseRepeat. -/
import Derived.Test.YtaogbmljadaplaaRc
namespace Go.Proofs.Ytaogbmljadaplaa.Rp
open Go.RowKit My

theorem ext_le (s : ByteArray) (k : Nat) : (s.extract k s.size).size ≤ s.size := by simp

set_option maxRecDepth 100000 in
set_option maxHeartbeats 8000000 in
theorem repeat_calls (p : Option Addr) (s : ByteArray) (hs : s.size ≤ 1000) (w : World) :
    Calls Try.prog 51 #[.pointer p, .string s] w (RepPost (nums s) w) := by
  cases hl : nums s with
  | nil =>
    obtain rfl := nil_facts s hl
    go_enter Try.func51, Try.ntmps51
    go_wp2_with fail
    exact bodyPost_ret (v := .tuple #[.int .i64 0, .int .i64 0, .string ⟨#[]⟩, .bool false]) (by simp [results, Try.results51, go_sem]) rfl (rep_none rfl)
  | cons c l1 =>
    obtain ⟨h0, hc, hl1, t1, t2⟩ := cons_facts s c l1 hl
    by_cases hc1 : c = 123
    · have t3 : ((s[0].toNat : Int) != 123) = false := by rw [hc, hc1]; rfl
      have HL1 := Lib.hid hl1
      have hs1 := ext_le s 1
      have HPR := Lib.hid (show pr (c :: l1) = pr1 l1 from by rw [pr_cons, if_pos hc1])
      have HSZ := Lib.hid (show (s.extract 1 s.size).size ≤ 1000 from by omega)
      generalize hlist : c :: l1 = full at *
      clear hl hl1 hc hc1 hlist
      go_enter Try.func51, Try.ntmps51
      go_wp2_with fail
      generalize s.extract 1 s.size = u at *
      clear t1 t2 t3 hs1
      refine (int_calls _ _ HSZ.out _).mono ?_
      rintro e w1 ⟨⟨hok, rfl⟩ | ⟨hok, rfl⟩, rfl⟩
      · rw [HL1.out] at hok
        have hd2 := Lib.hid (show nums (u.extract (digs (nums u)).length u.size) = l1.drop (digs l1).length from by rw [nums_ext, HL1.out])
        have HS2 := Lib.hid (show (u.extract (digs (nums u)).length u.size).size ≤ 1000 from Nat.le_trans (ext_le _ _) HSZ.out)
        have HN := Lib.hid (show valL 0 (digs (nums u)) = valL 0 (digs l1) from by rw [HL1.out])
        have HP2 := Lib.hid (show pr full = prA (valL 0 (digs l1)) (l1.drop (digs l1).length) from by rw [HPR.out, pr1, if_pos hok])
        clear HPR hok
        generalize u.extract (digs (nums u)).length u.size = u2 at *
        rw [HN.out]
        generalize valL 0 (digs l1) = n at *
        clear HN
        cases h2 : l1.drop (digs l1).length with
        | nil =>
          rw [h2] at HP2 hd2
          have HP := HP2
          obtain rfl := nil_facts u2 hd2.out
          clear HP2 h2
          go_wp2_with fail
          exact bodyPost_ret (v := .tuple #[.int .i64 n, .int .i64 0, .string ⟨#[]⟩, .bool false]) (by simp [results, Try.results51, go_sem]) rfl (rep_none HP.out)
        | cons d l3 =>
          rw [h2] at HP2 hd2
          obtain ⟨h0', hc, hl3, t1, t2⟩ := cons_facts u2 d l3 hd2.out
          have HP2' := HP2.out
          rw [prA_cons] at HP2'
          clear h2 HP2
          by_cases h44 : d = 44
          · have t3 : ((u2[0].toNat : Int) != 44) = false := by rw [hc, h44]; rfl
            rw [if_pos h44] at HP2'
            have HP3 := Lib.hid HP2'
            have HL3 := Lib.hid hl3
            have HS3 := Lib.hid (show (u2.extract 1 u2.size).size ≤ 1000 from Nat.le_trans (ext_le _ _) HS2.out)
            clear HP2' hc h44 hl3 hd2 HL1
            go_upto_region 10 with (fail)
            generalize u2.extract 1 u2.size = v at *
            clear t1 t2 t3
            cases l3 with
            | nil =>
              have hv := nil_facts _ HL3.out
              have t4 : v.toList = [] := by rw [hv, ByteArray.toList_eq]
              have HP := HP3
              clear hv HP3
              go_wp2_with fail
              exact bodyPost_ret (v := .tuple #[.int .i64 n, .int .i64 0, .string ⟨#[]⟩, .bool false]) (by simp [results, Try.results51, go_sem]) rfl (rep_none HP.out)
            | cons c3 r3 =>
              obtain ⟨h00, hc3, hr3, t4, t5⟩ := cons_facts _ c3 r3 HL3.out
              have HP3' := HP3.out
              rw [pr2_cons] at HP3'
              clear HP3
              by_cases h125 : c3 = 125
              · have t6 : ((v[0].toNat : Int) == 125) = true := by rw [hc3, h125]; rfl
                have t7 : ((v[0].toNat : Int) != 125) = false := by rw [hc3, h125]; rfl
                rw [if_pos h125] at HP3'
                have HP := Lib.hid HP3'
                have HR := Lib.hid hr3
                clear HP3' hc3 h125 hr3 HL3
                go_wp2_with fail
                exact bodyPost_ret (v := .tuple #[.int .i64 n, .int .i64 (-1), .string _, .bool true]) (by simp [results, Try.results51, go_sem]) rfl (rep_some HP.out HR.out)
              · have t6 : ((v[0].toNat : Int) == 125) = false := by rw [hc3]; simpa using h125
                rw [if_neg h125] at HP3'
                have HP := Lib.hid HP3'
                clear HP3' hc3 h125 hr3
                go_wp2_with fail
                clear t4 t5 t6
                refine (int_calls _ _ HS3.out _).mono ?_
                rintro e w1 ⟨⟨hok, rfl⟩ | ⟨hok, rfl⟩, rfl⟩
                · rw [HL3.out] at hok
                  have hd4 := Lib.hid (show nums (v.extract (digs (nums v)).length v.size) = (c3 :: r3).drop (digs (c3 :: r3)).length from by rw [nums_ext, HL3.out])
                  have HN := Lib.hid (show valL 0 (digs (nums v)) = valL 0 (digs (c3 :: r3)) from by rw [HL3.out])
                  have HP4 := Lib.hid (show pr full = prB n (valL 0 (digs (c3 :: r3))) ((c3 :: r3).drop (digs (c3 :: r3)).length) from by rw [HP.out, pr3, if_pos hok])
                  clear HP hok
                  generalize v.extract (digs (nums v)).length v.size = v2 at *
                  rw [HN.out]
                  generalize valL 0 (digs (c3 :: r3)) = m at *
                  clear HN
                  generalize (c3 :: r3).drop (digs (c3 :: r3)).length = l4 at *
                  have hn' : ∃ n' : Int, Hid (n' = if m < 0 then -1 else n) ∧ (m < 0 ∧ n' = -1 ∨ 0 ≤ m ∧ n' = n) := by
                    by_cases hm : m < 0
                    · exact ⟨-1, (if_pos hm).symm, .inl ⟨hm, rfl⟩⟩
                    · exact ⟨n, (if_neg hm).symm, .inr ⟨by omega, rfl⟩⟩
                  obtain ⟨n', HN', hm⟩ := hn'
                  cases l4 with
                  | nil =>
                    have HP := HP4
                    obtain rfl := nil_facts v2 hd4.out
                    rcases hm with ⟨hm, rfl⟩ | ⟨hm, rfl⟩
                    · go_wp2_with fail
                      exact bodyPost_ret (v := .tuple #[.int .i64 (-1), .int .i64 m, .string ⟨#[]⟩, .bool false]) (by simp [results, Try.results51, go_sem]) rfl (rep_none HP.out)
                    · go_wp2_with fail
                      exact bodyPost_ret (v := .tuple #[.int .i64 n', .int .i64 m, .string ⟨#[]⟩, .bool false]) (by simp [results, Try.results51, go_sem]) rfl (rep_none HP.out)
                  | cons d4 r4 =>
                    obtain ⟨h000, hc4, hr4, t1, t2⟩ := cons_facts v2 d4 r4 hd4.out
                    have HP4' := HP4.out
                    rw [prB_cons] at HP4'
                    by_cases h125' : d4 = 125
                    · have t6 : ((v2[0].toNat : Int) != 125) = false := by rw [hc4, h125']; rfl
                      rw [if_pos h125', ← HN'.out] at HP4'
                      have HP := Lib.hid HP4'
                      have HR := Lib.hid hr4
                      clear HP4' HP4 hc4 h125' hr4 hd4
                      rcases hm with ⟨hm, rfl⟩ | ⟨hm, rfl⟩
                      · go_wp2_with fail
                        exact bodyPost_ret (v := .tuple #[.int .i64 (-1), .int .i64 m, .string _, .bool true]) (by simp [results, Try.results51, go_sem]) rfl (rep_some HP.out HR.out)
                      · go_wp2_with fail
                        exact bodyPost_ret (v := .tuple #[.int .i64 _, .int .i64 m, .string _, .bool true]) (by simp [results, Try.results51, go_sem]) rfl (rep_some HP.out HR.out)
                    · have t6 : ((v2[0].toNat : Int) != 125) = true := by rw [hc4]; simpa using h125'
                      rw [if_neg h125'] at HP4'
                      have HP := Lib.hid HP4'
                      clear HP4' HP4 hc4 h125' hr4 hd4
                      rcases hm with ⟨hm, rfl⟩ | ⟨hm, rfl⟩
                      · go_wp2_with fail
                        exact bodyPost_ret (v := .tuple #[.int .i64 (-1), .int .i64 m, .string ⟨#[]⟩, .bool false]) (by simp [results, Try.results51, go_sem]) rfl (rep_none HP.out)
                      · go_wp2_with fail
                        exact bodyPost_ret (v := .tuple #[.int .i64 n', .int .i64 m, .string ⟨#[]⟩, .bool false]) (by simp [results, Try.results51, go_sem]) rfl (rep_none HP.out)
                · have HPn := Lib.hid (show pr full = none from by rw [HP.out, pr3, if_neg (by rw [← HL3.out, hok]; decide)])
                  clear hok HP
                  have HP := HPn
                  go_wp2_with fail
                  exact bodyPost_ret (v := .tuple #[.int .i64 n, .int .i64 0, .string ⟨#[]⟩, .bool false]) (by simp [results, Try.results51, go_sem]) rfl (rep_none HP.out)
          · have t3 : ((u2[0].toNat : Int) != 44) = true := by rw [hc]; simpa using h44
            rw [if_neg h44] at HP2'
            by_cases h125 : d = 125
            · have t6 : ((u2[0].toNat : Int) != 125) = false := by rw [hc, h125]; rfl
              rw [if_pos h125] at HP2'
              have HP := Lib.hid HP2'
              have HR := Lib.hid hl3
              clear HP2' hc h125 hl3 hd2 h44
              go_wp2_with fail
              exact bodyPost_ret (v := .tuple #[.int .i64 n, .int .i64 n, .string _, .bool true]) (by simp [results, Try.results51, go_sem]) rfl (rep_some HP.out HR.out)
            · have t6 : ((u2[0].toNat : Int) != 125) = true := by rw [hc]; simpa using h125
              rw [if_neg h125] at HP2'
              have HP := Lib.hid HP2'
              clear HP2' hc h125 hl3 hd2 h44
              go_wp2_with fail
              exact bodyPost_ret (v := .tuple #[.int .i64 n, .int .i64 n, .string ⟨#[]⟩, .bool false]) (by simp [results, Try.results51, go_sem]) rfl (rep_none HP.out)
      · have HP := Lib.hid (show pr full = none from by rw [HPR.out, pr1, if_neg (by rw [← HL1.out, hok]; decide)])
        clear hok HPR
        go_wp2_with fail
        exact bodyPost_ret (v := .tuple #[.int .i64 0, .int .i64 0, .string ⟨#[]⟩, .bool false]) (by simp [results, Try.results51, go_sem]) rfl (rep_none HP.out)
    · have t3 : ((s[0].toNat : Int) != 123) = true := by rw [hc]; simpa using hc1
      have HP := Lib.hid (show pr (c :: l1) = none from by rw [pr_cons, if_neg hc1])
      generalize hlist : c :: l1 = full at *
      clear hl hl1 hc hc1 hlist
      go_enter Try.func51, Try.ntmps51
      go_wp2_with fail
      exact bodyPost_ret (v := .tuple #[.int .i64 0, .int .i64 0, .string ⟨#[]⟩, .bool false]) (by simp [results, Try.results51, go_sem]) rfl (rep_none HP.out)

end Go.Proofs.Ytaogbmljadaplaa.Rp
