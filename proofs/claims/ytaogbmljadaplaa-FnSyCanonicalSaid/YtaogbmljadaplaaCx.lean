/- The walks of syTitle and of the law FnSyCanonical. -/
import Derived.Test.YtaogbmljadaplaaCw
import Derived.Lib.ConvBytes
namespace Go.Proofs.Ytaogbmljadaplaa.Cn
open Go.RowKit My

set_option maxHeartbeats 1000000 in
theorem zz_calls (s : ByteArray) (hs : s.size ≤ 2147483647) (w : World) :
    Calls Try.prog 35 #[.string s] w fun e w' => e = .returned (.string (strOfNums (canon (nums s)))) ∧ Below w.heap.size w w' := by
  have HQ := Lib.hid (canon_calls s hs)
  go_enter Try.func35, Try.ntmps35
  go_wp2_with fail
  refine (HQ.out _).mono ?_
  rintro e w1 ⟨rfl, hb⟩
  go_wp2_with fail
  go_ret
  exact ⟨rfl, hb⟩

set_option maxHeartbeats 1000000 in
theorem sy_calls (s : ByteArray) (hs : s.size ≤ 2147483647) (w : World) :
    Calls Try.prog 16 #[.string s] w fun e w' => e = .returned (.string (strOfNums (canon (nums s)))) ∧ Below w.heap.size w w' := by
  have HQ := Lib.hid (zz_calls s hs)
  go_enter Try.func16, Try.ntmps16
  go_wp2_with fail
  refine (HQ.out _).mono ?_
  rintro e w1 ⟨rfl, hb⟩
  go_wp2_with fail
  go_ret
  exact ⟨rfl, hb⟩

theorem owns_form {w : World} {B : Nat} {v : Value} {n : Nat} {xs : List Value} (h : w.ownsRow B 5 1 v n xs) : ∃ A cap, v = .slice A n cap := by
  obtain ⟨_, ⟨rfl, rfl⟩ | ⟨g, cap, cur, rfl, _⟩⟩ := h
  · exact ⟨_, _, rfl⟩
  · exact ⟨_, _, rfl⟩

theorem step_up (c : Int) (h : sp c = false) (h1 : 97 ≤ c) (h2 : c ≤ 122) : cstep [] c = [c - 32] := by
  unfold cstep up; simp [h, h1, h2]
theorem step_one (c : Int) (h : sp c = false) (h1 : ¬ (97 ≤ c ∧ c ≤ 122)) : cstep [] c = [c] := by
  unfold cstep up; rw [if_neg (by simp [h]), if_neg h1]; rfl
theorem step_low (d : Int) (l : List Int) (c : Int) (h : sp c = false) (h1 : 65 ≤ c) (h2 : c ≤ 90) : cstep (d :: l) c = (d :: l) ++ [c + 32] := by
  unfold cstep low; simp [h, h1, h2]
theorem step_more (d : Int) (l : List Int) (c : Int) (h : sp c = false) (h1 : ¬ (65 ≤ c ∧ c ≤ 90)) : cstep (d :: l) c = (d :: l) ++ [c] := by
  unfold cstep low; rw [if_neg (by simp [h]), if_neg h1]; rfl
theorem step_sp (out : List Int) (c : Int) (h : sp c = true) : cstep out c = out := by
  unfold cstep; simp [h]

set_option maxRecDepth 100000 in
set_option maxHeartbeats 4000000 in
theorem title_calls (s : ByteArray) (hs : s.size ≤ 2147483647) (w : World) :
    Calls Try.prog 17 #[.string s] w fun e w' => e = .returned (.string (strOfNums (canon (nums s)))) ∧ Below w.heap.size w w' := by
  go_enter Try.func17, Try.ntmps17
  have hcv := fun w => Lib.run_convert_string_bytes (P := Try.prog) w 9 58 5 s Try.underlying9 Try.underlying58 Try.underlying5
  go_wp2_with fail
  have hb0 : Below w.heap.size w (Lib.bytesWorld w 5 s) := ⟨rfl, rfl, rfl, by rw [Lib.bytesWorld_size]; omega, fun j hj => Lib.bytesWorld_at_old w _ s j hj⟩
  have hsz0 : (Lib.bytesWorld w 5 s).heap.size = w.heap.size + 1 := Lib.bytesWorld_size _ _ _
  have hcell0 : ∀ j (h : j < s.size), (Lib.bytesWorld w 5 s).cell? ⟨w.heap.size, j, none⟩ = some (.int .u8 ((s[j].toNat : Nat) : Int)) := fun j h => by
    rw [Lib.bytesWorld_cell w _ s j h]
    simp [List.getD, h]; rfl
  clear hcv
  generalize Lib.bytesWorld w 5 s = wb at *
  generalize grownCap w s.size 0 5 = gc at *
  have HC0 := Lib.hid hcell0
  have HB0 := Lib.hid hb0
  have HZ0 := Lib.hid hsz0
  clear hcell0 hb0 hsz0
  go_loopg [3, 9] s.size (fun gk v i wr => ∃ k : Nat, Hid (gk + k = s.size ∧ wr.ownsRow (w.heap.size + 1) 5 1 v (canon ((nums s).take k)).length (bvals (canon ((nums s).take k))) ∧ Below (w.heap.size + 1) wb wr) ∧ k ≤ s.size ∧ i = .int .i64 k)
  case atStart => exact ⟨0, ⟨by omega, World.ownsRow_nil _ _ _ _, Below.refl _ _⟩, Nat.zero_le _, rfl⟩
  case round =>
    obtain ⟨k, HI, hk, rfl⟩ := hrel
    by_cases hlt : k < s.size
    · obtain ⟨hgk, hown, hbel⟩ := HI.out
      obtain ⟨c, hc⟩ : ∃ c : Int, c = ((s[k].toNat : Nat) : Int) := ⟨_, rfl⟩
      have hrg : 0 ≤ c ∧ c ≤ 255 := by have := UInt8.toNat_lt s[k]; omega
      have hcell : wr.cell? ⟨w.heap.size, k, none⟩ = some (.int .u8 c) := by
        rw [hbel.cell (p := ⟨w.heap.size, k, none⟩) (by simp), HC0.out k hlt, hc]
      have hcan : Hid (canon ((nums s).take (k + 1)) = cstep (canon ((nums s).take k)) c) := by
        show _ = _
        rw [canon_take s k hlt, hc]
      have hcl : (canon ((nums s).take k)).length ≤ k := by
        have := canon_length ((nums s).take k)
        rw [List.length_take] at this
        omega
      have HG := Lib.hid hgk
      have hws : w.heap.size + 1 ≤ wb.heap.size := by rw [HZ0.out]; exact Nat.le_refl _
      have HWS := Lib.hid hws
      clear HI hgk hc hws
      obtain ⟨A, cap, rfl⟩ := owns_form hown
      have HO := Lib.hid hown
      have HB := Lib.hid hbel
      clear hown hbel
      generalize canon ((nums s).take k) = out at *
      cases hsp : sp c
      · have HS := Lib.hid hsp
        have n := not_sp hsp
        have n1 : (c == 32) = false := by simpa using n.2.2
        have n2 : (c == 45) = false := by simpa using n.2.1
        have n3 : (c == 95) = false := by simpa using n.1
        clear hsp n
        cases out with
        | nil =>
          by_cases hu : 97 ≤ c ∧ c ≤ 122
          · obtain ⟨u1, u2⟩ := hu
            go_wp2_with (at_builtin; refine app1 rfl (.tmp 40) (.tmp 43) 58 rfl 5 (.int .u8 0) 1 Try.underlying58 info_u8 rfl _ _ _ rfl (w.heap.size + 1) wb (HO.out.alloc _) (HB.out.alloc (Nat.le_trans HWS.out HB.out.size) _) HWS.out wr.heap.size rfl (.int .u8 (c - 32)) (by simp) rfl (by simp) (by simp [maxLen]) ?_; intro v' w' hown' hbel' hg')
            go_roundg (gk - 1)
            case measure => have := HG.out; omega
            case rel =>
              refine ⟨k + 1, ⟨by have := HG.out; omega, ?_, hbel'.out⟩, by omega, by go_num⟩
              rw [hcan.out, step_up c HS.out u1 u2]
              exact hown'.out
          · have hu' : c < 97 ∨ 122 < c := by omega
            have HU := Lib.hid hu
            clear hu
            rcases hu' with u | u
            all_goals
              go_wp2_with (at_builtin; refine app1 rfl (.tmp 13) (.tmp 15) 58 rfl 5 (.int .u8 0) 1 Try.underlying58 info_u8 rfl _ _ _ rfl (w.heap.size + 1) wb (HO.out.alloc _) (HB.out.alloc (Nat.le_trans HWS.out HB.out.size) _) HWS.out wr.heap.size rfl (.int .u8 c) (by simp) rfl (by simp) (by simp [maxLen]) ?_; intro v' w' hown' hbel' hg')
              all_goals
                go_roundg (gk - 1)
                case measure => have := HG.out; omega
                case rel =>
                  refine ⟨k + 1, ⟨by have := HG.out; omega, ?_, hbel'.out⟩, by omega, by go_num⟩
                  rw [hcan.out, step_one c HS.out HU.out]
                  exact hown'.out
        | cons d l =>
          have hl2 : (d :: l).length = l.length + 1 := rfl
          rw [hl2] at hcl HO ⊢
          by_cases hu : 65 ≤ c ∧ c ≤ 90
          · obtain ⟨u1, u2⟩ := hu
            go_wp2_with (at_builtin; refine app1 rfl (.tmp 57) (.tmp 60) 58 rfl 5 (.int .u8 0) 1 Try.underlying58 info_u8 rfl _ _ _ rfl (w.heap.size + 1) wb (HO.out.alloc _) (HB.out.alloc (Nat.le_trans HWS.out HB.out.size) _) HWS.out wr.heap.size rfl (.int .u8 (c + 32)) (by simp) rfl (by omega) (by unfold maxLen; omega) ?_; intro v' w' hown' hbel' hg')
            go_roundg (gk - 1)
            case measure => have := HG.out; omega
            case rel =>
              refine ⟨k + 1, ⟨by have := HG.out; omega, ?_, hbel'.out⟩, by omega, by go_num⟩
              rw [hcan.out, step_low d l c HS.out u1 u2]
              have h := hown'.out
              simpa [bvals] using h
          · have hu' : c < 65 ∨ 90 < c := by omega
            have HU := Lib.hid hu
            clear hu
            rcases hu' with u | u
            all_goals
              go_wp2_with (at_builtin; refine app1 rfl (.tmp 13) (.tmp 15) 58 rfl 5 (.int .u8 0) 1 Try.underlying58 info_u8 rfl _ _ _ rfl (w.heap.size + 1) wb (HO.out.alloc _) (HB.out.alloc (Nat.le_trans HWS.out HB.out.size) _) HWS.out wr.heap.size rfl (.int .u8 c) (by simp) rfl (by omega) (by unfold maxLen; omega) ?_; intro v' w' hown' hbel' hg')
              all_goals
                go_roundg (gk - 1)
                case measure => have := HG.out; omega
                case rel =>
                  refine ⟨k + 1, ⟨by have := HG.out; omega, ?_, hbel'.out⟩, by omega, by go_num⟩
                  rw [hcan.out, step_more d l c HS.out HU.out]
                  have h := hown'.out
                  simpa [bvals] using h
      · have HS := Lib.hid hsp
        have h3 : c = 32 ∨ c = 45 ∨ c = 95 := by
          unfold sp at hsp; simp at hsp; omega
        clear hsp
        rcases h3 with rfl | rfl | rfl
        all_goals
          go_wp2_with fail
          go_roundg (gk - 1)
          case measure => have := HG.out; omega
          case rel =>
            refine ⟨k + 1, ⟨by have := HG.out; omega, ?_, HB.out⟩, by omega, by go_num⟩
            rw [hcan.out, step_sp _ _ HS.out]
            exact HO.out
    · obtain rfl : k = s.size := by omega
      obtain ⟨hgk, hown, hbel⟩ := HI.out
      clear HI hgk
      have hall : (nums s).take s.size = nums s := List.take_of_length_le (by rw [nums_length]; omega)
      rw [hall] at hown
      clear hall
      have hcv := conv_nums wr (w.heap.size + 1) _ _ _ hown
      clear hown
      generalize hO : canon (nums s) = out at *
      have HO := Lib.hid hO
      clear hO
      go_wp2_with fail
      go_ret
      refine ⟨?_, HB0.out.trans (hbel.mono (Nat.le_succ _))⟩
      show Ending.returned (.string (strOfNums out)) = _
      rw [HO.out]

end Go.Proofs.Ytaogbmljadaplaa.Cn
