/- The walk of canonicalName. -/
import Derived.Test.YtaogbmljadaplaaCp
import Derived.Deep.DeepCutAuto
import Derived.Deep.CutBlock
import Derived.Deep.Light
namespace Go.Proofs.Ytaogbmljadaplaa.Cn
open Go.RowKit My

def ccf (fb : Bool) (c : Int) : Int := if sp c then 32 else if fb then up c else low c

theorem not_sp {c : Int} (h : sp c = false) : c ≠ 95 ∧ c ≠ 45 ∧ c ≠ 32 := by
  unfold sp at h
  simp only [Bool.or_eq_false_iff, beq_eq_false_iff_ne] at h
  exact ⟨h.1.1, h.1.2, h.2⟩
theorem ccf_sp (fb : Bool) (c : Int) : ccf fb c = 32 ↔ sp c = true := by
  unfold ccf
  cases h : sp c
  · have := not_sp h
    simp only [Bool.false_eq_true, if_false, iff_false]
    unfold up low
    cases fb <;> simp only [Bool.false_eq_true, if_false, if_true] <;> split <;> omega
  · simp
theorem ccf_range (fb : Bool) (c : Int) (h : 0 ≤ c ∧ c ≤ 255) : 0 ≤ ccf fb c ∧ ccf fb c ≤ 255 := by
  unfold ccf up low
  repeat' split
  all_goals omega
theorem cstep_ccf (out : List Int) (c : Int) : cstep out c = if ccf out.isEmpty c = 32 then out else out ++ [ccf out.isEmpty c] := by
  cases hs : sp c
  · rw [if_neg (by rw [ccf_sp, hs]; decide)]
    unfold cstep ccf
    rw [hs]
    cases out.isEmpty <;> rfl
  · rw [if_pos ((ccf_sp _ _).2 hs)]
    unfold cstep
    rw [hs]; rfl

theorem first_step (out : List Int) (c : Int) : (cstep out c).isEmpty = (out.isEmpty && sp c) := by
  unfold cstep
  cases sp c <;> cases out <;> simp

theorem canon_take (s : ByteArray) (k : Nat) (h : k < s.size) : canon ((nums s).take (k + 1)) = cstep (canon ((nums s).take k)) (s[k].toNat : Int) := by
  rw [nums_take s k h, canon_snoc]

theorem owns_ne {w : World} {B : Nat} {v : Value} {n : Nat} {xs : List Value} (h : w.ownsRow B 5 1 v (n + 1) xs) : v ≠ .slice none 0 0 := by
  intro e
  obtain ⟨_, ⟨_, h0⟩ | ⟨g, cap, cur, rfl, _⟩⟩ := h
  · omega
  · cases e

theorem sp_of (c : Int) (h : ((c == 95) = true ∨ (c == 45) = true) ∨ (c == 32) = true) : sp c = true := by
  unfold sp; simpa using h
theorem sp_not (c : Int) (h : ((c == 95) = false ∧ (c == 45) = false) ∧ (c == 32) = false) : sp c = false := by
  unfold sp; simpa using h
theorem m0 (fb : Bool) (c : Int) (h : sp c = true) : fb = (fb && sp c) ∧ 32 = ccf fb c := by unfold ccf; simp [h]
theorem m1 (fb : Bool) (c : Int) (h : c = 95) : fb = (fb && sp c) ∧ 32 = ccf fb c := m0 fb c (by subst h; rfl)
theorem m2 (fb : Bool) (c : Int) (h : c = 45) : fb = (fb && sp c) ∧ 32 = ccf fb c := m0 fb c (by subst h; rfl)
theorem m3 (fb : Bool) (c : Int) (h : ((c == 95) = true ∨ (c == 45) = true) ∨ (c == 32) = true) : fb = (fb && sp c) ∧ 32 = ccf fb c := m0 fb c (sp_of c h)
theorem m4 (fb : Bool) (c : Int) (h : ((c == 95) = false ∧ (c == 45) = false) ∧ (c == 32) = false) (h1 : fb = true) (h2 : 97 ≤ c) (h3 : c ≤ 122) : false = (fb && sp c) ∧ c - 32 = ccf fb c := by
  unfold ccf up; simp [sp_not c h, h1, h2, h3]
theorem m5 (fb : Bool) (c : Int) (h : ((c == 95) = false ∧ (c == 45) = false) ∧ (c == 32) = false) (h1 : fb = true) (h2 : ¬ (97 ≤ c ∧ c ≤ 122)) : false = (fb && sp c) ∧ c = ccf fb c := by
  unfold ccf up; rw [if_neg h2]; simp [sp_not c h, h1]
theorem m6 (fb : Bool) (c : Int) (h : ((c == 95) = false ∧ (c == 45) = false) ∧ (c == 32) = false) (h1 : fb = false) (h2 : 65 ≤ c) (h3 : c ≤ 90) : false = (fb && sp c) ∧ c + 32 = ccf fb c := by
  unfold ccf low; simp [sp_not c h, h1, h2, h3]
theorem m7 (fb : Bool) (c : Int) (h : ((c == 95) = false ∧ (c == 45) = false) ∧ (c == 32) = false) (h1 : fb = false) (h2 : ¬ (65 ≤ c ∧ c ≤ 90)) : false = (fb && sp c) ∧ c = ccf fb c := by
  unfold ccf low; rw [if_neg h2]; simp [sp_not c h, h1]
theorem meets {a b : Bool} {x y : Int} {w : World} (h : a = b ∧ x = y) : Value.bool a = Value.bool b ∧ Value.int .u8 x = Value.int .u8 y ∧ w = w := ⟨by rw [h.1], by rw [h.2], rfl⟩

set_option maxRecDepth 100000 in
set_option maxHeartbeats 4000000 in
theorem canon_calls (s : ByteArray) (hs : s.size ≤ 2147483647) (w : World) :
    Calls Try.prog 49 #[.string s] w fun e w' => e = .returned (.string (strOfNums (canon (nums s)))) ∧ Below w.heap.size w w' := by
  go_enter Try.func49, Try.ntmps49
  go_wp2_with fail
  go_loopg [3, 4, 9] s.size (fun gk v f i wr => ∃ k : Nat, ∃ fb : Bool, Hid (gk + k = s.size ∧ fb = (canon ((nums s).take k)).isEmpty ∧
      ((v = .slice none 0 0 ∧ w = wr ∧ canon ((nums s).take k) = (nums s).take k) ∨ (v ≠ .slice none 0 0 ∧ wr.ownsRow w.heap.size 5 1 v (canon ((nums s).take k)).length (bvals (canon ((nums s).take k))) ∧ Below w.heap.size w wr))) ∧
      k ≤ s.size ∧ f = .bool fb ∧ i = .int .i64 k)
  case atStart => exact ⟨0, true, ⟨by omega, rfl, .inl ⟨rfl, rfl, rfl⟩⟩, Nat.zero_le _, rfl, rfl⟩
  case round =>
    obtain ⟨k, fb, HI, hk, rfl, rfl⟩ := hrel
    by_cases hlt : k < s.size
    · have hrg : 0 ≤ ((s[k].toNat : Nat) : Int) ∧ ((s[k].toNat : Nat) : Int) ≤ 255 := by have := UInt8.toNat_lt s[k]; omega
      go_upto_block 2 with (fail)
      go_cut [4, 6] (fun f c w' => f = .bool (fb && sp s[k].toNat) ∧ c = .int .u8 (ccf fb s[k].toNat) ∧ wr = w')
      case first =>
        go_wp2_with fail
        all_goals
          go_meet
          go_light
          clear HI
          generalize ((s[k].toNat : Nat) : Int) = c at *
          first
            | exact meets (m1 fb c ‹c = 95›)
            | exact meets (m2 fb c ‹c = 45›)
            | exact meets (m3 fb c ‹((c == 95) = true ∨ (c == 45) = true) ∨ (c == 32) = true›)
            | exact meets (m4 fb c ‹((c == 95) = false ∧ (c == 45) = false) ∧ (c == 32) = false› ‹fb = true› ‹97 ≤ c› ‹c ≤ 122›)
            | exact meets (m6 fb c ‹((c == 95) = false ∧ (c == 45) = false) ∧ (c == 32) = false› ‹fb = false› ‹65 ≤ c› ‹c ≤ 90›)
            | exact meets (m5 fb c ‹((c == 95) = false ∧ (c == 45) = false) ∧ (c == 32) = false› ‹fb = true› (by omega))
            | exact meets (m7 fb c ‹((c == 95) = false ∧ (c == 45) = false) ∧ (c == 32) = false› ‹fb = false› (by omega))
      case rest =>
        obtain ⟨rfl, rfl, rfl⟩ := hcut
        have hcr := ccf_range fb _ hrg
        obtain ⟨hgk, hfb, hst⟩ := HI.out
        have hcan : Hid (canon ((nums s).take (k + 1)) = if ccf fb ((s[k].toNat : Nat) : Int) = 32 then canon ((nums s).take k) else canon ((nums s).take k) ++ [ccf fb ((s[k].toNat : Nat) : Int)]) := by
          show _ = _
          rw [canon_take s k hlt, cstep_ccf, ← hfb]
        have hfst : Hid ((fb && sp ((s[k].toNat : Nat) : Int)) = (canon ((nums s).take (k + 1))).isEmpty) := by
          show _ = _
          rw [canon_take s k hlt, first_step, ← hfb]
        have hcl : Hid ((canon ((nums s).take k)).length ≤ k) := by
          have := canon_length ((nums s).take k)
          rw [List.length_take] at this
          show _ ≤ _
          omega
        have HG := Lib.hid hgk
        have HT := Lib.hid (nums_take s k hlt)
        clear HI hfb hgk
        generalize ccf fb ((s[k].toNat : Nat) : Int) = cc at *
        generalize (fb && sp ((s[k].toNat : Nat) : Int)) = ff at *
        obtain ⟨cch, hch⟩ : ∃ c : Int, c = ((s[k].toNat : Nat) : Int) := ⟨_, rfl⟩
        rcases hst with ⟨rfl, rfl, heq⟩ | ⟨hne, hown, hbel⟩
        · have hnil : ∀ w : World, (binOp .eql 58 (.slice none 0 0) (.slice none 0 0)).run Try.prog w = .ok (.bool true) w := fun w => Lib.run_eql_slice_nil w _ _ none 0 0 0 0 Try.underlying58
          have HE := Lib.hid heq
          clear heq
          by_cases hc1 : cc = ((s[k].toNat : Nat) : Int) ∧ cc ≠ 32
          · have t1 : (cc == ((s[k].toNat : Nat) : Int)) = true := by simpa using hc1.1
            have t2 : (cc != 32) = true := by simpa using hc1.2
            have HC1 := Lib.hid hc1
            clear hc1 hch
            go_wp2_with fail
            go_roundg (gk - 1)
            case measure => have := HG.out; omega
            case rel =>
              refine ⟨k + 1, ff, ⟨by have := HG.out; omega, hfst.out, .inl ⟨rfl, rfl, ?_⟩⟩, by omega, rfl, by go_num⟩
              rw [hcan.out, if_neg HC1.out.2, HT.out, HE.out, HC1.out.1]
          · have HC1 := Lib.hid hc1
            have hmk := make_run k s.size hk (by omega)
            have hxs : (s.extract 0 k).size = k := by simp; omega
            obtain ⟨w2, hcp, hown, hb2⟩ := make_copy w (s.extract 0 k) s.size (by omega) (by omega)
            have hnx : nums (s.extract 0 k) = (nums s).take k := by
              have : (s.extract 0 k).data.toList = s.data.toList.take k := by rw [Lib.extract_data]; simp
              unfold nums
              rw [this, List.map_take]
            rw [hnx] at hown
            rw [hxs] at hcp hown
            have HW := Lib.hid hown
            have HB2 := Lib.hid hb2
            have HCP := Lib.hid hcp
            clear hown hb2 hcp hxs hnx
            have tt : (cc == ((s[k].toNat : Nat) : Int)) = false ∨ (cc == ((s[k].toNat : Nat) : Int)) = true ∧ (cc != 32) = false := by
              by_cases e : cc = ((s[k].toNat : Nat) : Int)
              · right
                refine ⟨by simpa using e, ?_⟩
                have : cc = 32 := by
                  by_cases e2 : cc = 32
                  · exact e2
                  · exact absurd ⟨e, e2⟩ hc1
                simp [this]
              · left; simpa using e
            clear hc1 hch
            rcases tt with t1 | ⟨t1, t2⟩
            all_goals
              go_wp2_with fail
              rw [HCP.out]
              by_cases h32 : cc = 32
              · have t3 : (cc == 32) = true := by simpa using h32
                have H32 := Lib.hid h32
                clear h32
                go_wp2_with fail
                go_roundg (gk - 1)
                case measure => have := HG.out; omega
                case rel =>
                  refine ⟨k + 1, ff, ⟨by have := HG.out; omega, hfst.out, .inr ⟨by simp, ?_, HB2.out⟩⟩, by omega, rfl, by go_num⟩
                  rw [hcan.out, if_pos H32.out, HE.out]
                  have : ((nums s).take k).length = k := by rw [List.length_take, nums_length]; omega
                  rw [this]; exact HW.out
              · have t3 : (cc == 32) = false := by simpa using h32
                have H32 := Lib.hid h32
                clear h32
                go_wp2_with (at_builtin; refine app1 rfl (.tmp 66) (.tmp 68) 58 rfl 5 (.int .u8 0) 1 Try.underlying58 info_u8 rfl _ _ _ rfl w.heap.size w (HW.out.alloc _) (HB2.out.alloc HB2.out.size _) (Nat.le_refl _) w2.heap.size rfl (.int .u8 cc) (by simp) rfl (by omega) (by unfold maxLen; omega) ?_; intro v' w' hown' hbel' hg')
                go_roundg (gk - 1)
                case measure => have := HG.out; omega
                case rel =>
                  refine ⟨k + 1, ff, ⟨by have := HG.out; omega, hfst.out, .inr ⟨owns_ne hown'.out, ?_, hbel'.out⟩⟩, by omega, rfl, by go_num⟩
                  rw [hcan.out, if_neg H32.out, HE.out]
                  have : ((nums s).take k ++ [cc]).length = k + 1 := by rw [List.length_append, List.length_take, nums_length]; simp; omega
                  rw [this]
                  have h := hown'.out
                  simpa [bvals] using h
        · obtain ⟨hl, ⟨h0, _⟩ | ⟨g, cap, cur, rfl, hrest⟩⟩ := id hown
          · exact absurd h0 hne
          · have hnil : ∀ (w : World) (n : Nat), (binOp .eql 58 (.slice (some ⟨g, 0, none⟩) n cap) (.slice none 0 0)).run Try.prog w = .ok (.bool false) w := fun w n => Lib.run_eql_slice_nil w _ _ _ n cap 0 0 Try.underlying58
            have HW := Lib.hid hown
            have HB := Lib.hid hbel
            clear hl hrest hown hbel hne hch
            generalize hout : canon ((nums s).take k) = out at *
            have HO := Lib.hid hout
            clear hout
            have hcl' := hcl.out
            by_cases h32 : cc = 32
            · have t3 : (cc == 32) = true := by simpa using h32
              have H32 := Lib.hid h32
              clear h32
              go_wp2_with fail
              go_roundg (gk - 1)
              case measure => have := HG.out; omega
              case rel =>
                refine ⟨k + 1, ff, ⟨by have := HG.out; omega, hfst.out, .inr ⟨by simp, ?_, HB.out⟩⟩, by omega, rfl, by go_num⟩
                rw [hcan.out, if_pos H32.out]
                exact HW.out
            · have t3 : (cc == 32) = false := by simpa using h32
              have H32 := Lib.hid h32
              clear h32
              go_wp2_with (at_builtin; refine app1 rfl (.tmp 66) (.tmp 68) 58 rfl 5 (.int .u8 0) 1 Try.underlying58 info_u8 rfl _ _ _ rfl w.heap.size w (HW.out.alloc _) (HB.out.alloc HB.out.size _) (Nat.le_refl _) wr.heap.size rfl (.int .u8 cc) (by simp) rfl (by omega) (by unfold maxLen; omega) ?_; intro v' w' hown' hbel' hg')
              go_roundg (gk - 1)
              case measure => have := HG.out; omega
              case rel =>
                refine ⟨k + 1, ff, ⟨by have := HG.out; omega, hfst.out, .inr ⟨owns_ne hown'.out, ?_, hbel'.out⟩⟩, by omega, rfl, by go_num⟩
                rw [hcan.out, if_neg H32.out]
                have h := hown'.out
                simpa [bvals] using h
    · obtain rfl : k = s.size := by omega
      obtain ⟨hgk, hfb, hst⟩ := HI.out
      clear HI hfb hgk
      have hall : (nums s).take s.size = nums s := List.take_of_length_le (by rw [nums_length]; omega)
      rw [hall] at hst
      clear hall
      rcases hst with ⟨rfl, rfl, heq⟩ | ⟨hne, hown, hbel⟩
      · have hnil : ∀ w : World, (binOp .eql 58 (.slice none 0 0) (.slice none 0 0)).run Try.prog w = .ok (.bool true) w := fun w => Lib.run_eql_slice_nil w _ _ none 0 0 0 0 Try.underlying58
        have HE := Lib.hid heq
        clear heq
        go_wp2_with fail
        go_ret
        refine ⟨?_, Below.refl _ _⟩
        show Ending.returned (.string s) = _
        rw [HE.out, str_nums]
      · obtain ⟨hl, ⟨h0, _⟩ | ⟨g, cap, cur, rfl, hrest⟩⟩ := id hown
        · exact absurd h0 hne
        · have hnil : ∀ (w : World) (n : Nat), (binOp .eql 58 (.slice (some ⟨g, 0, none⟩) n cap) (.slice none 0 0)).run Try.prog w = .ok (.bool false) w := fun w n => Lib.run_eql_slice_nil w _ _ _ n cap 0 0 Try.underlying58
          have hcv := conv_nums wr w.heap.size _ _ _ hown
          clear hl hrest hown hne
          generalize hO : canon (nums s) = out at *
          have HO := Lib.hid hO
          clear hO
          go_wp2_with fail
          go_ret
          refine ⟨?_, hbel⟩
          show Ending.returned (.string (strOfNums out)) = _
          rw [HO.out]

end Go.Proofs.Ytaogbmljadaplaa.Cn
