/- Walks for FnSyRepeat: the wrappers and the law. -/
import Derived.Test.YtaogbmljadaplaaRg
namespace Go.Proofs.Ytaogbmljadaplaa.Rp
open Go.RowKit My

theorem gr_suffix (l : List Int) (d1 : List Int) (k : Kind) (r : List Int) (h : gr l = some (d1, k, r)) : r <:+ l := by
  have hB : ∀ d1' d2 l', grB d1' d2 l' = some (d1, k, r) → r <:+ l' := by
    intro d1' d2 l' h
    cases l' with
    | nil => cases h
    | cons d r' =>
      rw [grB_cons] at h
      split at h
      · cases h; exact List.suffix_cons _ _
      · cases h
  have h3 : ∀ d1' l', gr3 d1' l' = some (d1, k, r) → r <:+ l' := by
    intro d1' l' h
    unfold gr3 at h
    split at h
    · exact (hB _ _ _ h).trans (List.drop_suffix _ _)
    · cases h
  have h2 : ∀ d1' l', gr2 d1' l' = some (d1, k, r) → r <:+ l' := by
    intro d1' l' h
    cases l' with
    | nil => cases h
    | cons c r' =>
      rw [gr2_cons] at h
      split at h
      · cases h; exact List.suffix_cons _ _
      · exact h3 _ _ h
  have hA : ∀ d1' l', grA d1' l' = some (d1, k, r) → r <:+ l' := by
    intro d1' l' h
    cases l' with
    | nil => cases h
    | cons c r' =>
      rw [grA_cons] at h
      split at h
      · exact (h2 _ _ h).trans (List.suffix_cons _ _)
      · split at h
        · cases h; exact List.suffix_cons _ _
        · cases h
  cases l with
  | nil => cases h
  | cons c l1 =>
    rw [gr_cons] at h
    split at h
    · unfold gr1 at h
      split at h
      · exact ((hA _ _ h).trans (List.drop_suffix _ _)).trans (List.suffix_cons _ _)
      · cases h
    · cases h

def HerePost (l : List Int) (B : Nat) (w : World) (e : Ending) (w' : World) : Prop :=
  Below B w w' ∧ ∃ (a b : Int) (rest : ByteArray) (big ok : Bool), e = .returned (.tuple #[.int .i64 a, .int .i64 b, .string rest, .bool big, .bool ok]) ∧ (gr l = none → ok = false) ∧
    ∀ d1 k r, gr l = some (d1, k, r) → ok = true ∧ a = valM 0 d1 ∧ b = most (valM 0) d1 k ∧ nums rest = r ∧ big = (decide (1000000000 ≤ a) || decide (1000000000 ≤ b))

set_option maxRecDepth 100000 in
set_option maxHeartbeats 4000000 in
theorem here_calls (s : ByteArray) (hs : s.size ≤ 1000) (w : World) :
    Calls Try.prog 18 #[.string s] w (HerePost (nums s) w.heap.size w) := by
  have HC := Lib.hid (count_calls s hs)
  go_enter Try.func18, Try.ntmps18
  go_wp2_with fail
  refine (HC.out _).mono ?_
  rintro e w1 ⟨hb, a, b, z, rfl, hn, hsm⟩
  have hz : ∃ k : Nat, z = (k : Int) ∧ k ≤ s.size ∧ (gr (nums s) = none → k = 0) ∧ (∀ d1 kd r, gr (nums s) = some (d1, kd, r) → 0 < k ∧ k + r.length = s.size) := by
    cases hg : gr (nums s) with
    | none =>
      have := (hn hg).2.2
      exact ⟨0, by omega, Nat.zero_le _, fun _ => rfl, fun d1 kd r e => by cases e⟩
    | some x =>
      obtain ⟨d1, kd, r⟩ := x
      have := (hsm d1 kd r hg).2.2
      exact ⟨z.toNat, by omega, by omega, (fun e => by cases e), fun d1' kd' r' e => by cases e; omega⟩
  obtain ⟨k, rfl, hks, hk0, hkr⟩ := hz
  have HN := Lib.hid hn
  have HS := Lib.hid hsm
  have HK0 := Lib.hid hk0
  have HKR := Lib.hid hkr
  have HB := Lib.hid hb
  clear hn hsm hk0 hkr hb
  have fin : ∀ (big ok : Bool) (n : Nat), big = (decide (1000000000 ≤ a) || decide (1000000000 ≤ b)) → ok = decide (0 < k) → HerePost (nums s) w.heap.size w (.returned (.tuple #[.int .i64 a, .int .i64 b, .string (s.extract k s.size), .bool big, .bool ok])) (w1.drewN n) := by
    intro big ok n h1 h2
    refine ⟨below_drewN HB.out n, a, b, _, big, ok, rfl, fun hg => ?_, fun d1 kd r hg => ?_⟩
    · rw [h2, HK0.out hg]; rfl
    · obtain ⟨e1, e2, e3, e4⟩ := HS.out d1 kd r hg
      obtain ⟨e5, e6⟩ := HKR.out d1 kd r hg
      refine ⟨by rw [h2]; exact decide_eq_true e5, e1, e2, ?_, h1⟩
      rw [nums_ext]
      have hsuf := List.suffix_iff_eq_drop.1 (gr_suffix _ _ _ _ hg)
      rw [nums_length, show s.size - r.length = k from by omega] at hsuf
      exact hsuf.symm
  have FIN := Lib.hid fin
  clear fin
  by_cases ha : 1000000000 ≤ a
  · have t1 : decide (1000000000 ≤ a) = true := decide_eq_true ha
    go_wp2_with fail
    go_quiet (fail)
    go_wp2_with fail
    refine bodyPost_ret (v := .tuple #[.int .i64 a, .int .i64 b, .string (s.extract k s.size), .bool true, .bool (decide (0 < k))]) ?_ rfl (FIN.out _ _ _ (by rw [t1]; rfl) rfl)
    simp [results, Try.results18, go_sem]
  · have t1 : decide (1000000000 ≤ a) = false := decide_eq_false ha
    go_wp2_with fail
    go_quiet (fail)
    go_wp2_with fail
    refine bodyPost_ret (v := .tuple #[.int .i64 a, .int .i64 b, .string (s.extract k s.size), .bool (decide (1000000000 ≤ b)), .bool (decide (0 < k))]) ?_ rfl (FIN.out _ _ _ (by rw [t1]; rfl) rfl)
    simp [results, Try.results18, go_sem]

theorem rep_mono {l : List Int} {w : World} {e : Ending} {w' : World} (h : RepPost l w e w') : ∃ a b rest ok, w = w' ∧ e = .returned (.tuple #[.int .i64 a, .int .i64 b, .string rest, .bool ok]) ∧ ok = (pr l).isSome ∧ ∀ x y r, pr l = some (x, y, r) → a = x ∧ b = y ∧ nums rest = r := by
  obtain ⟨h1, a, b, rest, ok, h2, h3, h4⟩ := h
  exact ⟨a, b, rest, ok, h1, h2, h3, h4⟩

def SyPost (l : List Int) (B : Nat) (w : World) (e : Ending) (w' : World) : Prop :=
  Below B w w' ∧ ∃ (a b : Int) (rest : ByteArray) (ok : Bool), e = .returned (.tuple #[.int .i64 a, .int .i64 b, .string rest, .bool ok]) ∧ ok = (pr l).isSome ∧ ∀ x y r, pr l = some (x, y, r) → a = x ∧ b = y ∧ nums rest = r

set_option maxRecDepth 100000 in
set_option maxHeartbeats 4000000 in
theorem zz_calls (s : ByteArray) (hs : s.size ≤ 1000) (w : World) :
    Calls Try.prog 37 #[.string s] w (SyPost (nums s) w.heap.size w) := by
  have HC := Lib.hid (fun p w => repeat_calls p s hs w)
  go_enter Try.func37, Try.ntmps37
  go_wp2_with fail
  refine (HC.out _ _).mono ?_
  intro e w1 hpost
  obtain ⟨a, b, rest, ok, rfl, rfl, h3, h4⟩ := rep_mono hpost
  have HF : Hid (∀ o, SyPost (nums s) w.heap.size w (.returned (.tuple #[.int .i64 a, .int .i64 b, .string rest, .bool ok])) (w.alloc o)) := fun o => ⟨(Below.refl w.heap.size w).alloc (Nat.le_refl _) _, a, b, rest, ok, rfl, h3, h4⟩
  clear hpost h3 h4
  go_wp2_with fail
  refine bodyPost_ret (v := .tuple #[.int .i64 a, .int .i64 b, .string rest, .bool ok]) ?_ rfl (HF.out _)
  simp [results, Try.results37, go_sem]

set_option maxRecDepth 100000 in
set_option maxHeartbeats 4000000 in
theorem sy_calls (s : ByteArray) (hs : s.size ≤ 1000) (w : World) :
    Calls Try.prog 19 #[.string s] w (SyPost (nums s) w.heap.size w) := by
  have HC := Lib.hid (fun w => zz_calls s hs w)
  go_enter Try.func19, Try.ntmps19
  go_wp2_with fail
  refine (HC.out _).mono ?_
  rintro e w1 ⟨hb, a, b, rest, ok, rfl, h3, h4⟩
  have HF : Hid (SyPost (nums s) w.heap.size w (.returned (.tuple #[.int .i64 a, .int .i64 b, .string rest, .bool ok])) w1) := ⟨hb, a, b, rest, ok, rfl, h3, h4⟩
  clear hb h3 h4
  go_wp2_with fail
  refine bodyPost_ret (v := .tuple #[.int .i64 a, .int .i64 b, .string rest, .bool ok]) ?_ rfl HF.out
  simp [results, Try.results19, go_sem]

end Go.Proofs.Ytaogbmljadaplaa.Rp
