/- Walks for FnSyRepeat: the reference's closure that reads a number. -/
import Derived.Test.YtaogbmljadaplaaRd
namespace Go.Proofs.Ytaogbmljadaplaa.Rp
open Go.RowKit My

def valM (n : Int) : List Int → Int
  | [] => n
  | c :: r => valM (min (10 * n + (c - 48)) 1000000000) r

/-- What the closure needs of the two variables that it captures. -/
structure Vars (w : World) (Ba Bs : Nat) (k : Nat) (s : ByteArray) : Prop where
  at_ : w.cell? ⟨Ba, 0, none⟩ = some (.int .i64 (k : Int))
  free : w.frozen? ⟨Ba, 0, none⟩ = false
  str : w.cell? ⟨Bs, 0, none⟩ = some (.string s)
  ne : Ba ≠ Bs

theorem Vars.set {w : World} {Ba Bs k : Nat} {s : ByteArray} (h : Vars w Ba Bs k s) (k' : Nat) : Vars (w.setCell ⟨Ba, 0, none⟩ (.int .i64 (k' : Int))) Ba Bs k' s := by
  have h1 := h.at_
  have h2 := h.free
  have h3 := h.str
  have h4 := h.ne
  refine ⟨?_, ?_, ?_, h4⟩
  · go_simp
  · go_simp
  · have : (⟨Bs, 0, none⟩ : Addr) ≠ ⟨Ba, 0, none⟩ := fun e => h4 (by cases e; rfl)
    rw [← h3]
    exact World.cell?_of_block (by
      simp only [World.setCell]
      rw [Array.getElem?_modify, if_neg (by exact h4)])

theorem grown_set {w0 w : World} {Ba : Nat} (h : w0.grownBy w (some Ba)) (v : Value) : w0.grownBy (w.setCell ⟨Ba, 0, none⟩ v) (some Ba) :=
  ⟨h.os, h.tape, h.output, by have := h.size; simpa [World.setCell] using this, fun k hk hne => by
    rw [← h.block k hk hne]
    simp only [World.setCell]
    rw [Array.getElem?_modify, if_neg (fun e => hne (by rw [e]))]⟩

set_option maxRecDepth 100000 in
set_option maxHeartbeats 4000000 in
theorem number_calls (s : ByteArray) (hs : s.size ≤ 1000) (Ba Bs k : Nat) (hk : k ≤ s.size) (w : World) (hv : Vars w Ba Bs k s) :
    Calls Try.prog 50 #[.pointer (some ⟨Ba, 0, none⟩), .pointer (some ⟨Bs, 0, none⟩)] w fun e w' =>
      e = .returned (.tuple #[.int .i64 (valM 0 (digs ((nums s).drop k))), .bool (okInt ((nums s).drop k))]) ∧
      Vars w' Ba Bs (k + (digs ((nums s).drop k)).length) s ∧ w.grownBy w' (some Ba) := by
  have hat := hv.at_
  have hfr := hv.free
  have hstr := hv.str
  go_enter Try.func50, Try.ntmps50
  go_wp2_with fail
  clear hat hfr hstr
  go_loopg [2] (s.size - k) (fun gk v wr => ∃ j : Nat, ∃ n : Int, Hid (gk + j = s.size ∧ k ≤ j ∧ (∀ i (hi : i < s.size), k ≤ i → i < j → isd (s[i].toNat : Int) = true) ∧ valM 0 (digs ((nums s).drop k)) = valM n (digs ((nums s).drop j)) ∧ Vars wr Ba Bs j s ∧ w.grownBy wr (some Ba)) ∧ j ≤ s.size ∧ 0 ≤ n ∧ n ≤ 1000000000 ∧ v = .int .i64 n)
  case atStart => exact ⟨k, 0, ⟨by omega, Nat.le_refl _, fun i _ h1 h2 => by omega, rfl, hv, ⟨rfl, rfl, rfl, Nat.le_refl _, fun _ _ _ => rfl⟩⟩, hk, Int.le_refl _, by omega, rfl⟩
  case round =>
    obtain ⟨j, n, HI, hj, hn0, hn9, rfl⟩ := hrel
    obtain ⟨hgj, hkj, hdig, hval, hvars, hgrow⟩ := HI.out
    have hat := hvars.at_
    have hfr := hvars.free
    have hstr := hvars.str
    by_cases hd : ∃ h : j < s.size, (48 : Int) ≤ (s[j].toNat : Int) ∧ (s[j].toNat : Int) ≤ 57
    · obtain ⟨hlt, d1, d2⟩ := hd
      have hdr : (nums s).drop j = ((s[j].toNat : Nat) : Int) :: (nums s).drop (j + 1) := by
        rw [List.drop_eq_getElem_cons (by rw [nums_length]; exact hlt), nums_get s j hlt]
      have hdd : Hid (digs ((nums s).drop j) = ((s[j].toNat : Nat) : Int) :: digs ((nums s).drop (j + 1))) := by
        show _ = _
        rw [hdr]
        unfold digs
        rw [List.takeWhile_cons, if_pos (by unfold isd; exact decide_eq_true ⟨d1, d2⟩)]
      have HI2 := HI
      clear hgj hkj hdig hval hvars hgrow HI hdr
      go_wp2_with fail
      go_roundg (gk - 1)
      case measure => have := HI2.out.1; omega
      case rel =>
        refine ⟨j + 1, _, ⟨by have := HI2.out.1; omega, by have := HI2.out.2.1; omega, fun i hi h1 h2 => ?_, ?_, HI2.out.2.2.2.2.1.set (j + 1), grown_set HI2.out.2.2.2.2.2 _⟩, by omega, ?_, ?_, rfl⟩
        · by_cases e : i = j
          · subst e; unfold isd; exact decide_eq_true ⟨d1, d2⟩
          · exact HI2.out.2.2.1 i hi h1 (by omega)
        · rw [HI2.out.2.2.2.1, hdd.out, valM]
        · omega
        · omega
    · have hdg : Hid (digs ((nums s).drop k) = ((nums s).drop k).take (j - k)) := by
        refine digs_of _ _ (by rw [List.length_drop, nums_length]; omega) (fun i hi hij => ?_) (fun hk' => ?_)
        · rw [List.getElem_drop, nums_get s (k + i) (by rw [List.length_drop, nums_length] at hi; omega)]
          exact hdig _ _ (by omega) (by omega)
        · rw [List.getElem_drop]
          rw [List.length_drop, nums_length] at hk'
          have hlt : j < s.size := by omega
          have : (nums s)[k + (j - k)]'(by rw [nums_length]; omega) = (s[j].toNat : Int) := by
            rw [← nums_get s j hlt]; congr 1; omega
          rw [this]
          unfold isd
          exact decide_eq_false (fun h => hd ⟨hlt, h⟩)
      have hend : j = s.size ∨ (∃ h : j < s.size, (s[j].toNat : Int) < 48) ∨ (∃ h : j < s.size, 57 < (s[j].toNat : Int)) := by
        by_cases hlt : j < s.size
        · rcases Int.lt_or_le (s[j].toNat : Int) 48 with h | h
          · exact .inr (.inl ⟨hlt, h⟩)
          · exact .inr (.inr ⟨hlt, by
              rcases Int.lt_or_le 57 (s[j].toNat : Int) with h' | h'
              · exact h'
              · exact absurd ⟨hlt, h, h'⟩ hd⟩)
        · exact .inl (by omega)
      have hlen : (digs ((nums s).drop k)).length = j - k := by
        rw [hdg.out, List.length_take, List.length_drop, nums_length]; omega
      have hcase : (j = k ∧ okInt ((nums s).drop k) = false) ∨ (j = k + 1 ∧ okInt ((nums s).drop k) = true) ∨ (k + 1 < j ∧ ∃ h : k < s.size, okInt ((nums s).drop k) = ((s[k].toNat : Int) != 48)) := by
        unfold okInt
        rcases Nat.lt_or_ge (k + 1) j with h1 | h1
        · refine .inr (.inr ⟨h1, by omega, ?_⟩)
          have hks : k < s.size := by omega
          have e1 : (digs ((nums s).drop k)).isEmpty = false := by rw [← Bool.not_eq_true, List.isEmpty_iff_length_eq_zero]; omega
          have e2 : ((nums s).drop k).head? = some ((s[k].toNat : Nat) : Int) := by
            rw [List.head?_drop, List.getElem?_eq_getElem (by rw [nums_length]; exact hks), nums_get s k hks]
          rw [e1, e2, decide_eq_true (by omega)]
          simp [bne]
        · rcases Nat.lt_or_ge k j with h2 | h2
          · refine .inr (.inl ⟨by omega, ?_⟩)
            have e1 : (digs ((nums s).drop k)).isEmpty = false := by rw [← Bool.not_eq_true, List.isEmpty_iff_length_eq_zero]; omega
            rw [e1, decide_eq_false (by omega)]; rfl
          · refine .inl ⟨by omega, ?_⟩
            have e1 : (digs ((nums s).drop k)).isEmpty = true := by rw [List.isEmpty_iff_length_eq_zero]; omega
            rw [e1]; rfl
      have HLEN := Lib.hid hlen
      have HI2 := HI
      have hfin : Hid (valM 0 (digs ((nums s).drop k)) = n) := by
        show _ = _
        rw [hval]
        have : digs ((nums s).drop j) = [] := by
          rcases hend with rfl | ⟨hlt, h'⟩ | ⟨hlt, h'⟩
          · rw [List.drop_of_length_le (by rw [nums_length]; omega)]; rfl
          all_goals
            rw [List.drop_eq_getElem_cons (by rw [nums_length]; exact hlt), nums_get s j hlt]
            unfold digs
            rw [List.takeWhile_cons, if_neg]
            unfold isd
            simp
            omega
        rw [this]; rfl
      clear hgj hval hvars hgrow HI hd hlen hdig
      have htest : ∃ b : Bool, Hid (b = okInt ((nums s).drop k)) ∧ (((((j : Int) == (k : Int) + 1) = false) ∧ decide (k < j) = false ∧ b = false) ∨ ((((j : Int) == (k : Int) + 1) = true) ∧ b = true) ∨ ((((j : Int) == (k : Int) + 1) = false) ∧ decide (k < j) = true ∧ ∃ h : k < s.size, ((s[k].toNat : Int) != 48) = b)) := by
        rcases hcase with ⟨h1, h2⟩ | ⟨h1, h2⟩ | ⟨h1, h3, h2⟩
        · exact ⟨_, rfl, .inl ⟨by simp; omega, by simp; omega, h2⟩⟩
        · exact ⟨_, rfl, .inr (.inl ⟨by simp; omega, h2⟩)⟩
        · exact ⟨_, rfl, .inr (.inr ⟨by simp; omega, by simp; omega, h3, h2.symm⟩)⟩
      obtain ⟨b, HB, htest⟩ := htest
      have HK := Lib.hid hkj
      clear hcase hkj
      have fin : ∀ w', wr.grownBy w' (some Ba) ∧ (∀ a, w'.cell? a = wr.cell? a) ∧ (∀ a, w'.frozen? a = wr.frozen? a) → Vars w' Ba Bs (k + (digs ((nums s).drop k)).length) s ∧ w.grownBy w' (some Ba) := by
        rintro w' ⟨g, hc, hf⟩
        have v := HI2.out.2.2.2.2.1
        have hj' : k + (digs ((nums s).drop k)).length = j := by rw [HLEN.out]; have := HK.out; omega
        rw [hj']
        refine ⟨⟨by rw [hc]; exact v.at_, by rw [hf]; exact v.free, by rw [hc]; exact v.str, v.ne⟩, ?_⟩
        have h0 := HI2.out.2.2.2.2.2
        exact ⟨g.os.trans h0.os, g.tape.trans h0.tape, g.output.trans h0.output, Nat.le_trans h0.size g.size, fun i hi hne => (g.block i (Nat.lt_of_lt_of_le hi h0.size) hne).trans (h0.block i hi hne)⟩
      have FIN := Lib.hid fin
      clear fin
      rcases htest with ⟨t1, t2, rfl⟩ | ⟨t1, rfl⟩ | ⟨t1, t2, hks, t3⟩
      all_goals
        rcases hend with rfl | ⟨hlt, h'⟩ | ⟨hlt, h'⟩
        all_goals
          go_wp2_with fail
          go_quiet (fail)
          go_wp2_with fail
          go_ret2
          refine ⟨?_, FIN.out _ ⟨⟨rfl, rfl, rfl, Nat.le_refl _, fun _ _ _ => rfl⟩, fun _ => rfl, fun _ => rfl⟩⟩
          rw [hfin.out, ← HB.out]
          rfl

end Go.Proofs.Ytaogbmljadaplaa.Rp
