import Derived.Test.YtmccgfjhmbioeaaDoorSxFnPgThreads
namespace Go.Proofs.YtmccgfjhmbioeaaDoor.PgFnPgThreads
open Go.RowKit Go.Proofs.YtmccgfjhmbioeaaDoor.EvN Go.Proofs.YtmccgfjhmbioeaaDoor.Row Go.Proofs.YtmccgfjhmbioeaaDoor.PFnPgThreads Go.Proofs.YtmccgfjhmbioeaaDoorW.PrintWords Go.Proofs.YtmccgfjhmbioeaaDoorW.PrintLast Go.Proofs.YtmccgfjhmbioeaaDoorW.PrintMore
set_option linter.unusedVariables false
set_option linter.unusedSimpArgs false
abbrev Mk := Nat → List Nat
def put (S : Mk) (i : Nat) (l : List Nat) : Mk := fun j => if j = i then l else S j
theorem put_same (S : Mk) (i : Nat) (l : List Nat) : put S i l i = l := by unfold put; rw [if_pos rfl]
theorem put_ne (S : Mk) {i j : Nat} (l : List Nat) (h : j ≠ i) : put S i l j = S j := by unfold put; rw [if_neg h]
theorem put_put (S : Mk) (i : Nat) (l l' : List Nat) : put (put S i l) i l' = put S i l' := by
  funext j; unfold put; split <;> rfl
theorem put_comm (S : Mk) {i j : Nat} (l l' : List Nat) (h : i ≠ j) : put (put S i l) j l' = put (put S j l') i l := by
  funext x; unfold put
  by_cases e : x = j
  · rw [if_pos e, if_neg (by omega), if_pos e]
  · rw [if_neg e]
    by_cases e2 : x = i
    · rw [if_pos e2, if_pos e2]
    · rw [if_neg e2, if_neg e2, if_neg e]
theorem put_self (S : Mk) (i : Nat) : put S i (S i) = S := by
  funext x; unfold put; split
  · rename_i h; rw [h]
  · rfl
def rowD (hit go : Nat → Bool) (i : Int) (deep : Nat → List Int → Mk → List (List Int) × Mk) : List Ae → Mk → List (List Int) × Mk
  | [], S => ([], S)
  | (_, none) :: r, S => rowD hit go i deep r S
  | (pc, some C) :: r, S =>
    if hit pc = true then ((C.set 1 i) :: (rowD hit go i deep r S).1, (rowD hit go i deep r S).2)
    else if go pc = true then ((deep pc C S).1 ++ (rowD hit go i deep r (deep pc C S).2).1, (rowD hit go i deep r (deep pc C S).2).2)
    else rowD hit go i deep r S
def hitB (L : List I) (pc : Nat) : Bool := decide ((ins L pc).f0 = 4)
def goB (L : List I) (s : ByteArray) (i : Nat) (pc : Nat) : Bool := decide ((dec s i).2 ≠ 0) && takesB (ins L pc) (dec s i).1
def nxt (s : ByteArray) (i : Nat) : Nat := i + (dec s i).2
def condN (s : ByteArray) (i : Nat) : Int := condZ (dec s i).1 (dec s (i + (dec s i).2)).1
def newE (L : List I) (s : ByteArray) (i pc : Nat) (D : List Nat) (C : List Int) : List Ae := aF L (condN s i) ((nxt s i : Nat) : Int) (L.length + 1) D (ins L pc).f1.toNat C
def hitD (L : List I) (s : ByteArray) : Nat → Nat → List Ae → Mk → List (List Int) × Mk
  | 0, _, _, S => ([], S)
  | k + 1, i, A, S => rowD (hitB L) (goB L s i) (i : Int) (fun pc C S => hitD L s k (nxt s i) (newE L s i pc (S (nxt s i)) C) (put S (nxt s i) (S (nxt s i) ++ (newE L s i pc (S (nxt s i)) C).map Prod.fst))) A S
theorem rowD_append {hit go : Nat → Bool} {i : Int} {deep : Nat → List Int → Mk → List (List Int) × Mk} (B : List Ae) : ∀ (A : List Ae) (S : Mk),
    rowD hit go i deep (A ++ B) S = ((rowD hit go i deep A S).1 ++ (rowD hit go i deep B (rowD hit go i deep A S).2).1, (rowD hit go i deep B (rowD hit go i deep A S).2).2) := by
  intro A
  induction A with
  | nil => intro S; rfl
  | cons a r ih =>
    intro S
    obtain ⟨pc, o⟩ := a
    cases o with
    | none => rw [List.cons_append, rowD, rowD]; exact ih S
    | some C =>
      rw [List.cons_append, rowD, rowD]
      split
      · rw [ih S]; rfl
      · split
        · rw [ih]; simp
        · exact ih S
theorem hitD_append (L : List I) (s : ByteArray) (k i : Nat) (A B : List Ae) (S : Mk) :
    hitD L s k i (A ++ B) S = ((hitD L s k i A S).1 ++ (hitD L s k i B (hitD L s k i A S).2).1, (hitD L s k i B (hitD L s k i A S).2).2) := by
  cases k with
  | zero => rfl
  | succ k => exact rowD_append B A S
theorem hitD_nil (L : List I) (s : ByteArray) (k i : Nat) (S : Mk) : hitD L s k i [] S = ([], S) := by
  cases k <;> rfl
section
variable {L : List I} {s : ByteArray}
theorem hitD_none (k i pc : Nat) (r : List Ae) (S : Mk) : hitD L s k i ((pc, none) :: r) S = hitD L s k i r S := by cases k <;> rfl
theorem hitD_hit (k i pc : Nat) (C : List Int) (r : List Ae) (S : Mk) (h : (ins L pc).f0 = 4) : hitD L s (k + 1) i ((pc, some C) :: r) S = (C.set 1 (i : Int) :: (hitD L s (k + 1) i r S).1, (hitD L s (k + 1) i r S).2) := by
  have : hitB L pc = true := decide_eq_true h
  rw [hitD, rowD, if_pos this]; rfl
theorem hitD_skip (k i pc : Nat) (C : List Int) (r : List Ae) (S : Mk) (h : (ins L pc).f0 ≠ 4) (hg : goB L s i pc = false) : hitD L s (k + 1) i ((pc, some C) :: r) S = hitD L s (k + 1) i r S := by
  have : ¬ hitB L pc = true := by unfold hitB; rw [decide_eq_false h]; simp
  rw [hitD, rowD, if_neg this, if_neg (by rw [hg]; simp)]; rfl
theorem hitD_go (k i pc : Nat) (C : List Int) (r : List Ae) (S : Mk) (h : (ins L pc).f0 ≠ 4) (hg : goB L s i pc = true) (y : List (List Int) × Mk)
    (hy : y = hitD L s k (nxt s i) (newE L s i pc (S (nxt s i)) C) (put S (nxt s i) (S (nxt s i) ++ (newE L s i pc (S (nxt s i)) C).map Prod.fst))) :
    hitD L s (k + 1) i ((pc, some C) :: r) S = (y.1 ++ (hitD L s (k + 1) i r y.2).1, (hitD L s (k + 1) i r y.2).2) := by
  have : ¬ hitB L pc = true := by unfold hitB; rw [decide_eq_false h]; simp
  rw [hitD, rowD, if_neg this, if_pos hg, hy]; rfl
theorem nxt_lt {i pc : Nat} (h : goB L s i pc = true) : i < nxt s i := by
  unfold goB at h
  have : (dec s i).2 ≠ 0 := by
    intro e
    rw [decide_eq_false (by simp [e])] at h
    simp at h
  unfold nxt; omega
theorem hitD_keep : ∀ (k i : Nat) (A : List Ae) (S : Mk) (j : Nat), j ≤ i → (hitD L s k i A S).2 j = S j := by
  intro k
  induction k with
  | zero => intro i A S j _; rfl
  | succ k ihk =>
    intro i A
    induction A with
    | nil => intro S j _; rfl
    | cons a r ih =>
      intro S j hj
      obtain ⟨pc, o⟩ := a
      cases o with
      | none => rw [hitD_none]; exact ih S j hj
      | some C =>
        by_cases h4 : (ins L pc).f0 = 4
        · rw [hitD_hit k i pc C r S h4]; exact ih S j hj
        · by_cases hg : goB L s i pc = true
          · rw [hitD_go k i pc C r S h4 hg _ rfl]
            have hn := nxt_lt hg
            refine (ih _ j hj).trans ?_
            rw [ihk _ _ _ j (by omega), put_ne _ _ (by omega)]
          · rw [hitD_skip k i pc C r S h4 (by simpa using hg)]; exact ih S j hj
theorem hitD_put : ∀ (k i : Nat) (A : List Ae) (S : Mk) (j : Nat) (l : List Nat), j ≤ i → hitD L s k i A (put S j l) = ((hitD L s k i A S).1, put (hitD L s k i A S).2 j l) := by
  intro k
  induction k with
  | zero => intro i A S j l _; rfl
  | succ k ihk =>
    intro i A
    induction A with
    | nil => intro S j l _; rfl
    | cons a r ih =>
      intro S j l hj
      obtain ⟨pc, o⟩ := a
      cases o with
      | none => rw [hitD_none, hitD_none]; exact ih S j l hj
      | some C =>
        by_cases h4 : (ins L pc).f0 = 4
        · rw [hitD_hit k i pc C r _ h4, hitD_hit k i pc C r S h4, ih S j l hj]
        · by_cases hg : goB L s i pc = true
          · have hn := nxt_lt hg
            rw [hitD_go k i pc C r (put S j l) h4 hg _ rfl, hitD_go k i pc C r S h4 hg _ rfl]
            rw [put_ne S l (show nxt s i ≠ j by omega), put_comm S l _ (show j ≠ nxt s i by omega), ihk _ _ _ j l (by omega)]
            simp only
            rw [ih _ j l hj]
          · rw [hitD_skip k i pc C r _ h4 (by simpa using hg), hitD_skip k i pc C r S h4 (by simpa using hg)]; exact ih S j l hj
theorem hitD_two (k i : Nat) (N1 N2 : List Ae) (S : Mk) (l : List Nat) : hitD L s k i (N1 ++ N2) (put S i l) =
    ((hitD L s k i N1 (put S i l)).1 ++ (hitD L s k i N2 (put (hitD L s k i N1 (put S i l)).2 i l)).1, (hitD L s k i N2 (put (hitD L s k i N1 (put S i l)).2 i l)).2) := by
  rw [hitD_append]
  have h1 := hitD_keep (L := L) (s := s) k i N1 (put S i l) i (Nat.le_refl _)
  rw [put_same] at h1
  have h2 : put (hitD L s k i N1 (put S i l)).2 i l = (hitD L s k i N1 (put S i l)).2 := by
    have := put_self (hitD L s k i N1 (put S i l)).2 i
    rw [h1] at this
    exact this
  rw [h2]
end
end Go.Proofs.YtmccgfjhmbioeaaDoor.PgFnPgThreads
namespace Go.Proofs.YtmccgfjhmbioeaaDoor.PgFnPgThreads
open Go.RowKit Go.Proofs.YtmccgfjhmbioeaaDoor.EvN Go.Proofs.YtmccgfjhmbioeaaDoor.Row Go.Proofs.YtmccgfjhmbioeaaDoor.PFnPgThreads Go.Proofs.YtmccgfjhmbioeaaDoorW.PrintWords Go.Proofs.YtmccgfjhmbioeaaDoorW.PrintLast Go.Proofs.YtmccgfjhmbioeaaDoorW.PrintMore
set_option linter.unusedVariables false
set_option linter.unusedSimpArgs false
section
variable {L : List I} {s : ByteArray}
theorem hitD_chain (k j : Nat) (N1 N2 : List Ae) (S : Mk) (l1 l : List Nat) : hitD L s k j (N1 ++ N2) (put S j l) =
    ((hitD L s k j N1 (put S j l1)).1 ++ (hitD L s k j N2 (put (hitD L s k j N1 (put S j l1)).2 j l)).1, (hitD L s k j N2 (put (hitD L s k j N1 (put S j l1)).2 j l)).2) := by
  rw [hitD_two, ← put_put S j l1 l, hitD_put k j N1 (put S j l1) j l (Nat.le_refl _)]
  simp only [put_put]
def WR (L : List I) (n : Nat) (A : List Ae) : Prop := ∀ a ∈ A, a.1 < L.length ∧ a.2.isSome = waitsB (ins L a.1) ∧ ∀ C, a.2 = some C → C.length = n
theorem WR.nil {n : Nat} : WR L n [] := fun a h => by cases h
theorem WR.tail {n : Nat} {a : Ae} {A : List Ae} (h : WR L n (a :: A)) : WR L n A := fun b hb => h b (by simp [hb])
theorem WR.append {n : Nat} {A B : List Ae} (h : WR L n A) (k : WR L n B) : WR L n (A ++ B) := fun a ha => (List.mem_append.1 ha).elim (h a) (k a)
theorem WR.len {n : Nat} {A : List Ae} {pc : Nat} {C : List Int} (h : WR L n ((pc, some C) :: A)) : C.length = n := (h (pc, some C) (by simp)).2.2 C rfl
theorem aF_from {st nc most : Int} (h : PSound L st nc most) (cond pos : Int) : ∀ (n : Nat) (D : List Nat) (pc : Nat) (C : List Int), pc < L.length → ∀ a ∈ aF L cond pos n D pc C, a.1 < L.length ∧ ∀ C', a.2 = some C' → C'.length = C.length ∧ C'.getD 0 0 = C.getD 0 0 := by
  intro n
  induction n with
  | zero => intro D pc C hp a ha; simp [aF] at ha
  | succ n ih =>
    intro D pc C hp a ha
    have self : ∀ {a : Ae}, a = (pc, none) → a.1 < L.length ∧ ∀ C', a.2 = some C' → C'.length = C.length ∧ C'.getD 0 0 = C.getD 0 0 := fun e => by subst e; exact ⟨hp, fun C' e => by cases e⟩
    rw [aF] at ha
    by_cases h0 : pc = 0 ∨ pc ∈ D
    · rw [if_pos h0] at ha; simp at ha
    · rw [if_neg h0] at ha
      have ho := fun hn => h.outIn pc hp hn
      by_cases g0 : (ins L pc).f0 = 0
      · rw [if_pos g0] at ha
        obtain ⟨a1, a2⟩ := h.leads.arg pc hp g0
        have := ho (by omega)
        rcases List.mem_cons.1 ha with ha | ha
        · exact self ha
        · rcases List.mem_append.1 ha with ha | ha
          · exact ih _ _ _ (by omega) a ha
          · exact ih _ _ _ (by omega) a ha
      · rw [if_neg g0] at ha
        by_cases g6 : (ins L pc).f0 = 6
        · rw [if_pos g6] at ha
          have := ho (by omega)
          rcases List.mem_cons.1 ha with ha | ha
          · exact self ha
          · exact ih _ _ _ (by omega) a ha
        · rw [if_neg g6] at ha
          by_cases g2 : (ins L pc).f0 = 2
          · rw [if_pos g2] at ha
            have := ho (by omega)
            have h2 := h.arg2 pc hp g2
            rcases List.mem_cons.1 ha with ha | ha
            · exact self ha
            · obtain ⟨b1, b2⟩ := ih _ _ _ (by omega) a ha
              refine ⟨b1, fun C' e => ?_⟩
              obtain ⟨c1, c2⟩ := b2 C' e
              rw [List.length_set] at c1
              rw [List.getD_eq_getElem?_getD (l := C.set _ _), List.getElem?_set_ne (by omega), ← List.getD_eq_getElem?_getD] at c2
              exact ⟨c1, c2⟩
          · rw [if_neg g2] at ha
            by_cases g3 : (ins L pc).f0 = 3
            · rw [if_pos g3] at ha
              have := ho (by omega)
              rcases List.mem_cons.1 ha with ha | ha
              · exact self ha
              · split at ha
                · exact ih _ _ _ (by omega) a ha
                · simp at ha
            · rw [if_neg g3] at ha
              split at ha
              · simp at ha; exact self ha
              · simp at ha
                subst ha
                exact ⟨hp, fun C' e => by cases e; exact ⟨rfl, rfl⟩⟩
theorem WR.new {st nc most : Int} (h : PSound L st nc most) (cond pos : Int) (n m : Nat) (D : List Nat) (pc : Nat) (C : List Int) (hp : pc < L.length) (hC : C.length = m) : WR L m (aF L cond pos n D pc C) := fun a ha => by
  obtain ⟨h1, h2⟩ := aF_from h cond pos n D pc C hp a ha
  exact ⟨h1, aF_waits L cond pos n D pc C a ha, fun C' e => (h2 C' e).1.trans hC⟩
theorem WR.out {st nc most : Int} (h : PSound L st nc most) {n : Nat} {A : List Ae} {pc : Nat} {C : List Int} (hw : WR L n ((pc, some C) :: A)) (h4 : (ins L pc).f0 ≠ 4) : (ins L pc).f1.toNat < L.length := by
  obtain ⟨h1, h2, _⟩ := hw (pc, some C) (by simp)
  have h5 : (ins L pc).f0 ≠ 5 := by
    intro e
    have : waitsB (ins L pc) = true := h2.symm
    unfold waitsB at this
    rw [e] at this
    cases this
  have := h.outIn pc h1 (by omega)
  omega
theorem step_first {st nc most : Int} (h : PSound L st nc most) (k i n : Nat) : ∀ (A acc : List Ae) (S : Mk) (b : Bool) (M : List Int), S (nxt s i) = acc.map Prod.fst → WR L n A → M.length = n → (dec s i).2 ≠ 0 →
    ∃ B', (stepF L false n (dec s i).1 (condN s i) (i : Int) ((nxt s i : Nat) : Int) A (acc, b, M)).1 = acc ++ B' ∧ WR L n B' ∧
      (((stepF L false n (dec s i).1 (condN s i) (i : Int) ((nxt s i : Nat) : Int) A (acc, b, M)).2 = (b, M) ∧ hitD L s (k + 1) i A S = hitD L s k (nxt s i) B' (put S (nxt s i) ((acc ++ B').map Prod.fst))) ∨
       ((stepF L false n (dec s i).1 (condN s i) (i : Int) ((nxt s i : Nat) : Int) A (acc, b, M)).2.1 = true ∧ (stepF L false n (dec s i).1 (condN s i) (i : Int) ((nxt s i : Nat) : Int) A (acc, b, M)).2.2.length = n ∧
        (hitD L s (k + 1) i A S).1.head? = some ((hitD L s k (nxt s i) B' (put S (nxt s i) ((acc ++ B').map Prod.fst))).1.head?.getD (stepF L false n (dec s i).1 (condN s i) (i : Int) ((nxt s i : Nat) : Int) A (acc, b, M)).2.2))) := by
  intro A
  induction A with
  | nil =>
    intro acc S b M hS hW hM hd
    refine ⟨[], by rw [stepF, List.append_nil], WR.nil, .inl ⟨by rw [stepF], ?_⟩⟩
    rw [hitD_nil, hitD_nil, List.append_nil, ← hS, put_self]
  | cons a r ih =>
    intro acc S b M hS hW hM hd
    obtain ⟨pc, o⟩ := a
    cases o with
    | none => rw [stepF, hitD_none]; exact ih acc S b M hS hW.tail hM hd
    | some C =>
      have hC := hW.len
      rw [stepF, if_neg (by simp)]
      by_cases h4 : (ins L pc).f0 = 4
      · rw [if_pos h4, if_neg (by simp)]
        refine ⟨[], by simp, WR.nil, .inr ⟨rfl, ?_, ?_⟩⟩
        · simp only [id]
          split
          · simpa using hC
          · exact hM
        · rw [hitD_hit k i pc C r S h4, hitD_nil]
          simp only [id, List.head?_cons, List.head?_nil, Option.getD_none]
          by_cases hn : 0 < n
          · rw [if_pos (by simp [hn])]
          · have e1 : C = [] := List.length_eq_zero_iff.1 (by omega)
            have e2 : M = [] := List.length_eq_zero_iff.1 (by omega)
            rw [if_neg (by simp [hn]), e1, e2]; rfl
      · rw [if_neg h4]
        by_cases ht : takesB (ins L pc) (dec s i).1 = true
        · rw [if_pos ht]
          have hg : goB L s i pc = true := by unfold goB; rw [ht, decide_eq_true hd]; rfl
          have hn := nxt_lt hg
          obtain ⟨y, hy⟩ : ∃ y, y = hitD L s k (nxt s i) (newE L s i pc (S (nxt s i)) C) (put S (nxt s i) (S (nxt s i) ++ (newE L s i pc (S (nxt s i)) C).map Prod.fst)) := ⟨_, rfl⟩
          have hnew : aF L (condN s i) ((nxt s i : Nat) : Int) (L.length + 1) (acc.map Prod.fst) (ins L pc).f1.toNat C = newE L s i pc (S (nxt s i)) C := by rw [hS]; rfl
          have hWn : WR L n (newE L s i pc (S (nxt s i)) C) := WR.new h _ _ _ _ _ _ _ (hW.out h h4) hC
          rw [hitD_go k i pc C r S h4 hg y hy]
          have e0 : (acc, b, M).1 = acc := rfl
          simp only
          rw [hnew]
          have hS2 : y.2 (nxt s i) = (acc ++ newE L s i pc (S (nxt s i)) C).map Prod.fst := by
            rw [hy, hitD_keep _ _ _ _ _ (Nat.le_refl _), put_same, List.map_append, hS]
          obtain ⟨B2, q1, q2, q3⟩ := ih (acc ++ newE L s i pc (S (nxt s i)) C) y.2 b M hS2 hW.tail hM hd
          have hch := hitD_chain (L := L) (s := s) k (nxt s i) (newE L s i pc (S (nxt s i)) C) B2 S (S (nxt s i) ++ (newE L s i pc (S (nxt s i)) C).map Prod.fst) ((acc ++ (newE L s i pc (S (nxt s i)) C ++ B2)).map Prod.fst)
          rw [← hy] at hch
          have ea : acc ++ newE L s i pc (S (nxt s i)) C ++ B2 = acc ++ (newE L s i pc (S (nxt s i)) C ++ B2) := List.append_assoc _ _ _
          rw [ea] at q1 q3
          refine ⟨newE L s i pc (S (nxt s i)) C ++ B2, q1, hWn.append q2, ?_⟩
          rw [hch]
          rcases q3 with ⟨p1, p2⟩ | ⟨p1, p2, p3⟩
          · exact .inl ⟨p1, by rw [p2]⟩
          · refine .inr ⟨p1, p2, ?_⟩
            rw [List.head?_append, List.head?_append, p3]
            cases y.1.head? <;> rfl
        · rw [if_neg ht]
          have hg : goB L s i pc = false := by unfold goB; rw [show takesB (ins L pc) (dec s i).1 = false by simpa using ht, Bool.and_false]
          rw [hitD_skip k i pc C r S h4 hg]
          exact ih acc S b M hS hW.tail hM hd
theorem step_last (k i n : Nat) (c cond np : Int) : ∀ (A acc : List Ae) (S : Mk) (b : Bool) (M : List Int), WR L n A → M.length = n → (dec s i).2 = 0 →
    (((stepF L false n c cond (i : Int) np A (acc, b, M)).2 = (b, M) ∧ hitD L s (k + 1) i A S = ([], S)) ∨
       ((stepF L false n c cond (i : Int) np A (acc, b, M)).2.1 = true ∧ (hitD L s (k + 1) i A S).1.head? = some (stepF L false n c cond (i : Int) np A (acc, b, M)).2.2)) := by
  intro A
  induction A with
  | nil => intro acc S b M hW hM hd; exact .inl ⟨by rw [stepF], hitD_nil _ _ _ _ _⟩
  | cons a r ih =>
    intro acc S b M hW hM hd
    obtain ⟨pc, o⟩ := a
    cases o with
    | none => rw [stepF, hitD_none]; exact ih acc S b M hW.tail hM hd
    | some C =>
      have hC := hW.len
      rw [stepF, if_neg (by simp)]
      by_cases h4 : (ins L pc).f0 = 4
      · rw [if_pos h4, if_neg (by simp), hitD_hit k i pc C r S h4]
        refine .inr ⟨rfl, ?_⟩
        simp only [id, List.head?_cons]
        by_cases hn : 0 < n
        · rw [if_pos (by simp [hn])]
        · have e1 : C = [] := List.length_eq_zero_iff.1 (by omega)
          have e2 : M = [] := List.length_eq_zero_iff.1 (by omega)
          rw [if_neg (by simp [hn]), e1, e2]; rfl
      · rw [if_neg h4]
        have hg : goB L s i pc = false := by unfold goB; rw [decide_eq_false (by omega)]; rfl
        rw [hitD_skip k i pc C r S h4 hg]
        split
        · exact ih _ S b M hW.tail hM hd
        · exact ih acc S b M hW.tail hM hd
end
end Go.Proofs.YtmccgfjhmbioeaaDoor.PgFnPgThreads
namespace Go.Proofs.YtmccgfjhmbioeaaDoor.PgFnPgThreads
open Go.RowKit Go.Proofs.YtmccgfjhmbioeaaDoor.EvN Go.Proofs.YtmccgfjhmbioeaaDoor.Row Go.Proofs.YtmccgfjhmbioeaaDoor.PFnPgThreads Go.Proofs.YtmccgfjhmbioeaaDoorW.PrintWords Go.Proofs.YtmccgfjhmbioeaaDoorW.PrintLast Go.Proofs.YtmccgfjhmbioeaaDoorW.PrintMore
set_option linter.unusedVariables false
set_option linter.unusedSimpArgs false
section
variable {L : List I} {s : ByteArray}
def startE (L : List I) (st : Nat) (s : ByteArray) (last : Int) (i : Nat) (D : List Nat) (M : List Int) : List Ae := aF L (condZ last (dec s i).1) (i : Int) (L.length + 1) D st (M.set 0 (i : Int))
def oneD (L : List I) (st : Nat) (s : ByteArray) (k : Nat) (last : Int) (i : Nat) (S : Mk) (M : List Int) : List (List Int) × Mk :=
  hitD L s k i (startE L st s last i (S i) M) (put S i (S i ++ (startE L st s last i (S i) M).map Prod.fst))
def stD (L : List I) (st : Nat) (s : ByteArray) : Nat → Int → Nat → Mk → List Int → List (List Int)
  | 0, _, _, _, _ => []
  | k + 1, last, i, S, M => (oneD L st s (k + 1) last i S M).1 ++ (if (dec s i).2 = 0 then [] else stD L st s k (dec s i).1 (nxt s i) (oneD L st s (k + 1) last i S M).2 M)
theorem startE_set (st : Nat) (last : Int) (i : Nat) (D : List Nat) (M : List Int) (x : Int) : startE L st s last i D (M.set 0 x) = startE L st s last i D M := by
  unfold startE; rw [List.set_set]
theorem oneD_set (st : Nat) (k : Nat) (last : Int) (i : Nat) (S : Mk) (M : List Int) (x : Int) : oneD L st s k last i S (M.set 0 x) = oneD L st s k last i S M := by
  unfold oneD; rw [startE_set]
theorem stD_set (st : Nat) : ∀ (k : Nat) (last : Int) (i : Nat) (S : Mk) (M : List Int) (x : Int), stD L st s k last i S (M.set 0 x) = stD L st s k last i S M := by
  intro k
  induction k with
  | zero => intros; rfl
  | succ k ih => intro last i S M x; rw [stD, stD, oneD_set, ih]
theorem hitD_len {st nc most : Int} (h : PSound L st nc most) {n : Nat} : ∀ (k i : Nat) (A : List Ae) (S : Mk), WR L n A → ∀ x ∈ (hitD L s k i A S).1, x.length = n := by
  intro k
  induction k with
  | zero => intro i A S hW x hx; cases hx
  | succ k ihk =>
    intro i A
    induction A with
    | nil => intro S hW x hx; rw [hitD_nil] at hx; cases hx
    | cons a r ih =>
      intro S hW x hx
      obtain ⟨pc, o⟩ := a
      cases o with
      | none => rw [hitD_none] at hx; exact ih S hW.tail x hx
      | some C =>
        by_cases h4 : (ins L pc).f0 = 4
        · rw [hitD_hit k i pc C r S h4] at hx
          rcases List.mem_cons.1 hx with rfl | hx
          · rw [List.length_set]; exact hW.len
          · exact ih S hW.tail x hx
        · by_cases hg : goB L s i pc = true
          · rw [hitD_go k i pc C r S h4 hg _ rfl] at hx
            rcases List.mem_append.1 hx with hx | hx
            · exact ihk _ _ _ (WR.new h _ _ _ _ _ _ _ (hW.out h h4) hW.len) x hx
            · exact ih _ hW.tail x hx
          · rw [hitD_skip k i pc C r S h4 (by simpa using hg)] at hx
            exact ih S hW.tail x hx
theorem loop_first_true {stI nc most : Int} (h : PSound L stI nc most) (st : Nat) (anch : Bool) (n : Nat) : ∀ (k : Nat) (last : Int) (i : Nat) (A : List Ae) (S : Mk) (M : List Int), (∀ j, i < j → S j = []) → WR L n A → M.length = n →
    mLoop L st false anch s k last i A true M = (true, (hitD L s k i A S).1.head?.getD M) := by
  intro k
  induction k with
  | zero => intro last i A S M hS hW hM; rfl
  | succ k ih =>
    intro last i A S M hS hW hM
    rw [mLoop]
    by_cases hbr : A = [] ∧ ((anch = true ∧ i ≠ 0) ∨ true = true)
    · rw [if_pos hbr, hbr.1, hitD_nil]; rfl
    · rw [if_neg hbr]
      simp only [if_true]
      rw [show condZ (dec s i).1 (dec s (i + (dec s i).2)).1 = condN s i from rfl, show i + (dec s i).2 = nxt s i from rfl, hM]
      by_cases hd : (dec s i).2 = 0
      · rw [if_pos hd]
        rcases step_last (L := L) (s := s) k i n (dec s i).1 (condN s i) ((nxt s i : Nat) : Int) A [] S true M hW hM hd with ⟨e1, e2⟩ | ⟨e1, e2⟩
        · rw [e1, e2]; rfl
        · rw [e2]; exact Prod.ext e1 rfl
      · rw [if_neg hd]
        have hn : i < nxt s i := by unfold nxt; omega
        obtain ⟨B, q1, q2, q3⟩ := step_first (s := s) h k i n A [] S true M (hS _ hn) hW hM hd
        have hl := hitD_len (s := s) h (k + 1) i A S hW
        have hlB := hitD_len (s := s) h k (nxt s i) B (put S (nxt s i) (([] ++ B).map Prod.fst)) q2
        have hm : (stepF L false n (dec s i).1 (condN s i) (i : Int) ((nxt s i : Nat) : Int) A ([], true, M)).2.1 = true ∧ (stepF L false n (dec s i).1 (condN s i) (i : Int) ((nxt s i : Nat) : Int) A ([], true, M)).2.2.length = n ∧
            (hitD L s (k + 1) i A S).1.head?.getD M = (hitD L s k (nxt s i) B (put S (nxt s i) (([] ++ B).map Prod.fst))).1.head?.getD (stepF L false n (dec s i).1 (condN s i) (i : Int) ((nxt s i : Nat) : Int) A ([], true, M)).2.2 := by
          rcases q3 with ⟨e1, e2⟩ | ⟨e1, e2, e3⟩
          · rw [e1, e2]; exact ⟨rfl, hM, rfl⟩
          · exact ⟨e1, e2, by rw [e3]; rfl⟩
        obtain ⟨m1, m2, m3⟩ := hm
        generalize stepF L false n (dec s i).1 (condN s i) (i : Int) ((nxt s i : Nat) : Int) A ([], true, M) = r at *
        obtain ⟨r1, r2, r3⟩ := r
        simp only at m1 m2 m3 q1
        subst m1
        rw [m3]
        by_cases h0 : n = 0 ∧ true = true
        · rw [if_pos h0]
          refine Prod.ext rfl ?_
          have e1 : r3 = [] := List.length_eq_zero_iff.1 (by omega)
          cases hq : (hitD L s k (nxt s i) B (put S (nxt s i) (([] ++ B).map Prod.fst))).1.head? with
          | none => rfl
          | some x =>
            have := hlB x (List.mem_of_head? hq)
            rw [Option.getD_some]
            exact e1.trans (List.length_eq_zero_iff.1 (show x.length = 0 by omega)).symm
        · rw [if_neg h0, q1]
          exact ih _ _ _ _ _ (fun j hj => by rw [put_ne _ _ (by omega)]; exact hS j (by omega)) q2 m2
theorem loop_first {stI nc most : Int} (h : PSound L stI nc most) (st : Nat) (hst : st < L.length) (anch : Bool) (n : Nat) : ∀ (k : Nat) (last : Int) (i : Nat) (A : List Ae) (S : Mk) (M : List Int), S i = A.map Prod.fst → (∀ j, i < j → S j = []) → WR L n A → M.length = n →
    (anch = true → i ≠ 0 → ∀ S M, stD L st s k last i S M = []) → (∀ q, anch = true → (dec s q).2 ≠ 0 → ∀ k S M, stD L st s k (dec s q).1 (nxt s q) S M = []) →
    (mLoop L st false anch s k last i A false M).1 = !((hitD L s k i A S).1 ++ stD L st s k last i (hitD L s k i A S).2 M).isEmpty ∧
    ∀ x, ((hitD L s k i A S).1 ++ stD L st s k last i (hitD L s k i A S).2 M).head? = some x → (mLoop L st false anch s k last i A false M).2 = x := by
  intro k
  induction k with
  | zero => intro last i A S M hA hS hW hM ha1 ha; exact ⟨rfl, fun x hx => by cases hx⟩
  | succ k ih =>
    intro last i A S M hA hS hW hM ha1 ha
    rw [mLoop]
    by_cases hbr : A = [] ∧ ((anch = true ∧ i ≠ 0) ∨ false = true)
    · rw [if_pos hbr, hbr.1, hitD_nil]
      obtain ⟨_, ⟨h1, h2⟩ | h1⟩ := hbr
      · rw [ha1 h1 h2]; exact ⟨rfl, fun x hx => by cases hx⟩
      · cases h1
    · rw [if_neg hbr]
      simp only [Bool.false_eq_true, if_false]
      rw [show condZ (dec s i).1 (dec s (i + (dec s i).2)).1 = condN s i from rfl, show i + (dec s i).2 = nxt s i from rfl, hM, ← hA]
      rw [show aF L (condZ last (dec s i).1) (i : Int) (L.length + 1) (S i) st (M.set 0 (i : Int)) = startE L st s last i (S i) M from rfl]
      have hN : WR L n (startE L st s last i (S i) M) := WR.new h _ _ _ _ _ _ _ hst (by rw [List.length_set]; exact hM)
      have hW1 := hW.append hN
      have hM1 : (M.set 0 (i : Int)).length = n := by rw [List.length_set]; exact hM
      obtain ⟨T, hT⟩ : ∃ T, T = put S i ((A ++ startE L st s last i (S i) M).map Prod.fst) := ⟨_, rfl⟩
      have hTn : ∀ j, i < j → T j = [] := fun j hj => by rw [hT, put_ne _ _ (by omega)]; exact hS j hj
      have hsum : hitD L s (k + 1) i (A ++ startE L st s last i (S i) M) T = ((hitD L s (k + 1) i A S).1 ++ (oneD L st s (k + 1) last i (hitD L s (k + 1) i A S).2 M).1, (oneD L st s (k + 1) last i (hitD L s (k + 1) i A S).2 M).2) := by
        have hk := hitD_keep (L := L) (s := s) (k + 1) i A S i (Nat.le_refl _)
        rw [hitD_append, hT, hitD_put _ _ _ _ _ _ (Nat.le_refl _)]
        unfold oneD
        rw [hk, List.map_append, ← hA]
      rw [stD, ← List.append_assoc]
      have hs1 : (hitD L s (k + 1) i A S).1 ++ (oneD L st s (k + 1) last i (hitD L s (k + 1) i A S).2 M).1 = (hitD L s (k + 1) i (A ++ startE L st s last i (S i) M) T).1 := by rw [hsum]
      have hs2 : (oneD L st s (k + 1) last i (hitD L s (k + 1) i A S).2 M).2 = (hitD L s (k + 1) i (A ++ startE L st s last i (S i) M) T).2 := by rw [hsum]
      rw [hs1, hs2]
      clear hsum hs1 hs2
      generalize hA1 : A ++ startE L st s last i (S i) M = A1 at *
      by_cases hd : (dec s i).2 = 0
      · rw [if_pos hd, if_pos hd, List.append_nil]
        rcases step_last (L := L) (s := s) k i n (dec s i).1 (condN s i) ((nxt s i : Nat) : Int) A1 [] T false (M.set 0 (i : Int)) hW1 hM1 hd with ⟨e1, e2⟩ | ⟨e1, e2⟩
        · rw [e1, e2]; exact ⟨rfl, fun x hx => by cases hx⟩
        · refine ⟨?_, fun x hx => ?_⟩
          · rw [e1]
            cases hq : (hitD L s (k + 1) i A1 T).1 with
            | nil => rw [hq] at e2; cases e2
            | cons a b => rfl
          · rw [hx] at e2; exact (Option.some.inj e2).symm
      · rw [if_neg hd, if_neg hd]
        have hn : i < nxt s i := by unfold nxt; omega
        obtain ⟨B, q1, q2, q3⟩ := step_first (s := s) h k i n A1 [] T false (M.set 0 (i : Int)) (hTn _ hn) hW1 hM1 hd
        have hSB : ∀ j, nxt s i < j → (put T (nxt s i) (([] ++ B).map Prod.fst)) j = [] := fun j hj => by rw [put_ne _ _ (by omega)]; exact hTn j (by omega)
        rcases q3 with ⟨e1, e2⟩ | ⟨e1, e2, e3⟩
        · rw [e2]
          generalize stepF L false n (dec s i).1 (condN s i) (i : Int) ((nxt s i : Nat) : Int) A1 ([], false, M.set 0 (i : Int)) = r at *
          obtain ⟨r1, r2, r3⟩ := r
          simp only at q1 e1
          obtain ⟨rfl, rfl⟩ := Prod.mk.inj e1
          rw [if_neg (by simp), q1]
          have hrec := ih (dec s i).1 (nxt s i) B (put T (nxt s i) (([] ++ B).map Prod.fst)) (M.set 0 (i : Int)) (by rw [put_same]; rfl) hSB q2 hM1 (fun hA0 _ S M => ha i hA0 hd k S M) ha
          rw [stD_set] at hrec
          exact hrec
        · have hmain : mLoop L st false anch s k (dec s i).1 (nxt s i) B true (stepF L false n (dec s i).1 (condN s i) (i : Int) ((nxt s i : Nat) : Int) A1 ([], false, M.set 0 (i : Int))).2.2 = (true, (hitD L s (k + 1) i A1 T).1.head?.getD M) := by
            rw [loop_first_true h st anch n k (dec s i).1 (nxt s i) B _ _ hSB q2 e2, e3]; rfl
          have hlx := hitD_len (s := s) h (k + 1) i A1 T hW1
          generalize stepF L false n (dec s i).1 (condN s i) (i : Int) ((nxt s i : Nat) : Int) A1 ([], false, M.set 0 (i : Int)) = r at *
          obtain ⟨r1, r2, r3⟩ := r
          simp only at q1 e1 e2 e3 hmain
          subst e1
          cases hq : (hitD L s (k + 1) i A1 T).1 with
          | nil => rw [hq] at e3; cases e3
          | cons x0 xs =>
            rw [hq] at hmain hlx
            have hx0 := hlx x0 (by simp)
            refine ⟨?_, fun x hx => ?_⟩
            · split
              · rfl
              · rw [q1, List.nil_append, hmain]; rfl
            · simp only [List.cons_append, List.head?_cons, Option.some.injEq] at hx
              subst hx
              split
              · rename_i h0
                exact (List.length_eq_zero_iff.1 (show r3.length = 0 by have : r3.length = n := e2; omega)).trans (List.length_eq_zero_iff.1 (show x0.length = 0 by omega)).symm
              · rw [q1, List.nil_append, hmain]; rfl
end
end Go.Proofs.YtmccgfjhmbioeaaDoor.PgFnPgThreads
namespace Go.Proofs.YtmccgfjhmbioeaaDoor.PgFnPgThreads
open Go.RowKit Go.Proofs.YtmccgfjhmbioeaaDoor.EvN Go.Proofs.YtmccgfjhmbioeaaDoor.Row Go.Proofs.YtmccgfjhmbioeaaDoor.PFnPgThreads Go.Proofs.YtmccgfjhmbioeaaDoorW.PrintWords Go.Proofs.YtmccgfjhmbioeaaDoorW.PrintLast Go.Proofs.YtmccgfjhmbioeaaDoorW.PrintMore
set_option linter.unusedVariables false
set_option linter.unusedSimpArgs false
def better (o : Option (List Int)) (h : List Int) : Option (List Int) :=
  match o with
  | none => some h
  | some M => if M.getD 0 0 < h.getD 0 0 then some M else if M.getD 1 0 < h.getD 1 0 then some h else some M
def bestF (o : Option (List Int)) (H : List (List Int)) : Option (List Int) := H.foldl better o
theorem bestF_cons (o : Option (List Int)) (h : List Int) (H : List (List Int)) : bestF o (h :: H) = bestF (better o h) H := rfl
theorem bestF_append (o : Option (List Int)) (H K : List (List Int)) : bestF o (H ++ K) = bestF (bestF o H) K := by unfold bestF; rw [List.foldl_append]
theorem better_swap (o : Option (List Int)) (y h : List Int) (h0 : y.getD 0 0 ≤ h.getD 0 0) (h1 : h.getD 1 0 < y.getD 1 0) : better (better o y) h = better (better o h) y := by
  cases o with
  | none =>
    simp only [better]
    by_cases e : y.getD 0 0 < h.getD 0 0
    · rw [if_pos e, if_neg (by omega), if_pos h1]
    · rw [if_neg e, if_neg (by omega), if_neg (by omega), if_pos h1]
  | some M =>
    simp only [better]
    by_cases a : M.getD 0 0 < y.getD 0 0
    · rw [if_pos a]
      have b : M.getD 0 0 < h.getD 0 0 := by omega
      simp only [if_pos b, if_pos a]
    · rw [if_neg a]
      by_cases b : M.getD 1 0 < y.getD 1 0
      · rw [if_pos b]
        have e1 : (if y.getD 0 0 < h.getD 0 0 then some y else if y.getD 1 0 < h.getD 1 0 then some h else some y) = some y := by
          split
          · rfl
          · rw [if_neg (by omega)]
        simp only [e1]
        by_cases c : M.getD 0 0 < h.getD 0 0
        · simp only [if_pos c, if_neg a, if_pos b]
        · simp only [if_neg c]
          by_cases d : M.getD 1 0 < h.getD 1 0
          · simp only [if_pos d]
            rw [if_neg (by omega), if_pos h1]
          · simp only [if_neg d, if_neg a, if_pos b]
      · rw [if_neg b]
        have c : ¬ M.getD 1 0 < h.getD 1 0 := by omega
        by_cases d : M.getD 0 0 < h.getD 0 0
        · simp only [if_pos d, if_neg a, if_neg b]
        · simp only [if_neg d, if_neg c, if_neg a, if_neg b]
theorem bestF_swap (h : List Int) : ∀ (Y : List (List Int)) (o : Option (List Int)), (∀ y ∈ Y, y.getD 0 0 ≤ h.getD 0 0 ∧ h.getD 1 0 < y.getD 1 0) → better (bestF o Y) h = bestF (better o h) Y := by
  intro Y
  induction Y with
  | nil => intro o _; rfl
  | cons y Y ih =>
    intro o hY
    rw [bestF_cons, bestF_cons, ih _ (fun x hx => hY x (by simp [hx])), better_swap o y h (hY y (by simp)).1 (hY y (by simp)).2]
theorem bestF_far (M : List Int) : ∀ (Y : List (List Int)), (∀ y ∈ Y, M.getD 0 0 < y.getD 0 0) → bestF (some M) Y = some M := by
  intro Y
  induction Y with
  | nil => intro _; rfl
  | cons y Y ih =>
    intro hY
    rw [bestF_cons]
    simp only [better]
    rw [if_pos (hY y (by simp))]
    exact ih (fun x hx => hY x (by simp [hx]))
theorem bestF_some (M : List Int) : ∀ (Y : List (List Int)), ∃ x, bestF (some M) Y = some x ∧ x.getD 0 0 ≤ M.getD 0 0 := by
  intro Y
  induction Y generalizing M with
  | nil => exact ⟨M, rfl, Int.le_refl _⟩
  | cons y Y ih =>
    rw [bestF_cons]
    simp only [better]
    split
    · exact ih M
    · rename_i h1
      split
      · obtain ⟨x, e, hx⟩ := ih y
        exact ⟨x, e, by omega⟩
      · exact ih M
theorem bestF_far2 (M : List Int) (Y Z : List (List Int)) (hZ : ∀ y ∈ Z, M.getD 0 0 < y.getD 0 0) : bestF (some M) (Y ++ Z) = bestF (some M) Y := by
  rw [bestF_append]
  obtain ⟨x, e, hx⟩ := bestF_some M Y
  rw [e]
  exact bestF_far x Z (fun y hy => by have := hZ y hy; omega)
def oM (b : Bool) (M : List Int) : Option (List Int) := if b = true then some M else none
section
variable {L : List I} {s : ByteArray}
def Frm (A : List Ae) (t : Int) : Prop := ∀ a ∈ A, ∀ C, a.2 = some C → t ≤ C.getD 0 0
theorem starts_frm {A : List Ae} {pc : Nat} {C : List Int} (h : (starts ((pc, some C) :: A)).Pairwise (· ≤ ·)) : Frm A (C.getD 0 0) ∧ (starts A).Pairwise (· ≤ ·) := by
  have e : starts ((pc, some C) :: A) = C.getD 0 0 :: starts A := by unfold starts; rw [List.filterMap_cons]; rfl
  rw [e, List.pairwise_cons] at h
  refine ⟨fun a ha C' hC' => h.1 _ ?_, h.2⟩
  obtain ⟨a1, a2⟩ := a
  simp only at hC'
  subst hC'
  exact starts_mem ha
theorem hitD_from {st nc most : Int} (h : PSound L st nc most) {n : Nat} (hn : 2 ≤ n) : ∀ (k i : Nat) (A : List Ae) (S : Mk), WR L n A → ∀ x ∈ (hitD L s k i A S).1, (∃ pc C, (pc, some C) ∈ A ∧ x.getD 0 0 = C.getD 0 0) ∧ (i : Int) ≤ x.getD 1 0 := by
  intro k
  induction k with
  | zero => intro i A S hW x hx; cases hx
  | succ k ihk =>
    intro i A
    induction A with
    | nil => intro S hW x hx; rw [hitD_nil] at hx; cases hx
    | cons a r ih =>
      intro S hW x hx
      obtain ⟨pc, o⟩ := a
      have rest : ∀ S, x ∈ (hitD L s (k + 1) i r S).1 → (∃ pc' C, (pc', some C) ∈ (pc, o) :: r ∧ x.getD 0 0 = C.getD 0 0) ∧ (i : Int) ≤ x.getD 1 0 := fun S hx => by
        obtain ⟨⟨p1, C1, m1, e1⟩, e2⟩ := ih S hW.tail x hx
        exact ⟨⟨p1, C1, by simp [m1], e1⟩, e2⟩
      cases o with
      | none => rw [hitD_none] at hx; exact rest S hx
      | some C =>
        have hC := hW.len
        by_cases h4 : (ins L pc).f0 = 4
        · rw [hitD_hit k i pc C r S h4] at hx
          rcases List.mem_cons.1 hx with rfl | hx
          · refine ⟨⟨pc, C, by simp, ?_⟩, ?_⟩
            · rw [List.getD_eq_getElem?_getD, List.getElem?_set_ne (by omega), ← List.getD_eq_getElem?_getD]
            · rw [List.getD_eq_getElem?_getD, List.getElem?_set_self (by omega)]; exact Int.le_refl _
          · exact rest S hx
        · by_cases hg : goB L s i pc = true
          · rw [hitD_go k i pc C r S h4 hg _ rfl] at hx
            have hlt := nxt_lt hg
            rcases List.mem_append.1 hx with hx | hx
            · obtain ⟨⟨p1, C1, m1, e1⟩, e2⟩ := ihk _ _ _ (WR.new h _ _ _ _ _ _ _ (hW.out h h4) hW.len) x hx
              have := (aF_from h _ _ _ _ _ _ (hW.out h h4) _ m1).2 C1 rfl
              exact ⟨⟨pc, C, by simp, by rw [e1, this.2]⟩, by omega⟩
            · exact rest _ hx
          · rw [hitD_skip k i pc C r S h4 (by simpa using hg)] at hx
            exact rest S hx
theorem hitD_far {st nc most : Int} (h : PSound L st nc most) {n : Nat} (hn : 2 ≤ n) (k i : Nat) (A : List Ae) (S : Mk) (hW : WR L n A) {t : Int} (hF : Frm A t) : ∀ x ∈ (hitD L s k i A S).1, t ≤ x.getD 0 0 := fun x hx => by
  obtain ⟨⟨p1, C1, m1, e1⟩, _⟩ := hitD_from h hn k i A S hW x hx
  have := hF _ m1 C1 rfl
  omega
theorem step_far {n : Nat} (hn : 0 < n) (c cond pos np : Int) (M : List Int) : ∀ (A acc : List Ae), (∀ a ∈ A, ∀ C, a.2 = some C → M.getD 0 0 < C.getD 0 0) → stepF L true n c cond pos np A (acc, true, M) = (acc, true, M) := by
  intro A
  induction A with
  | nil => intro acc _; rw [stepF]
  | cons a r ih =>
    intro acc hA
    obtain ⟨pc, o⟩ := a
    cases o with
    | none => rw [stepF]; exact ih acc (fun a ha => hA a (by simp [ha]))
    | some C =>
      have h1 := hA (pc, some C) (by simp) C rfl
      rw [stepF, if_pos (by simp [hn]; simpa using h1)]
      exact ih acc (fun a ha => hA a (by simp [ha]))
end
end Go.Proofs.YtmccgfjhmbioeaaDoor.PgFnPgThreads
namespace Go.Proofs.YtmccgfjhmbioeaaDoor.PgFnPgThreads
open Go.RowKit Go.Proofs.YtmccgfjhmbioeaaDoor.EvN Go.Proofs.YtmccgfjhmbioeaaDoor.Row Go.Proofs.YtmccgfjhmbioeaaDoor.PFnPgThreads Go.Proofs.YtmccgfjhmbioeaaDoorW.PrintWords Go.Proofs.YtmccgfjhmbioeaaDoorW.PrintLast Go.Proofs.YtmccgfjhmbioeaaDoorW.PrintMore
set_option linter.unusedVariables false
set_option linter.unusedSimpArgs false
section
variable {L : List I} {s : ByteArray}
def Top (A : List Ae) (t : Int) : Prop := ∀ a ∈ A, ∀ C, a.2 = some C → C.getD 0 0 ≤ t
theorem Top.tail {a : Ae} {A : List Ae} {t : Int} (h : Top (a :: A) t) : Top A t := fun b hb => h b (by simp [hb])
theorem bestF_in (o : Option (List Int)) (Y H : List (List Int)) (h : List Int) (hY : ∀ y ∈ Y, y.getD 0 0 ≤ h.getD 0 0 ∧ h.getD 1 0 < y.getD 1 0) : bestF o (Y ++ h :: H) = bestF (better o h) (Y ++ H) := by
  rw [bestF_append, bestF_cons, bestF_swap h Y o hY, ← bestF_append]
theorem set1_0 (C : List Int) (v : Int) : (C.set 1 v).getD 0 0 = C.getD 0 0 := by
  rw [List.getD_eq_getElem?_getD, List.getElem?_set_ne (by omega), ← List.getD_eq_getElem?_getD]
theorem set1_1 (C : List Int) (v : Int) (h : 2 ≤ C.length) : (C.set 1 v).getD 1 0 = v := by
  rw [List.getD_eq_getElem?_getD, List.getElem?_set_self (by omega)]; rfl
theorem told_best {n : Nat} (hn : 2 ≤ n) (b : Bool) (M C : List Int) (i : Nat) (hC : C.length = n) (hd : ¬ (b = true ∧ M.getD 0 0 < C.getD 0 0)) :
    better (oM b M) (C.set 1 (i : Int)) = oM true (if (decide (0 < n) && (!true || (!b || decide (M.getD 1 0 < (i : Int))))) = true then C.set 1 (i : Int) else M) := by
  cases b with
  | false =>
    rw [if_pos (by simp; omega)]
    rfl
  | true =>
    simp only [oM, if_true, better, set1_0]
    rw [if_neg (fun e => hd ⟨rfl, e⟩), set1_1 C _ (by omega)]
    by_cases e : M.getD 1 0 < (i : Int)
    · rw [if_pos e, if_pos (by simp; exact ⟨by omega, by simpa using e⟩)]
    · rw [if_neg e, if_neg (by simp; intro _; simpa using e)]
theorem not_drop {n : Nat} (hn : 2 ≤ n) {b : Bool} {M C : List Int} (hd : ¬ (b = true ∧ M.getD 0 0 < C.getD 0 0)) : ¬ (true && b && (decide (0 < n) && decide (M.getD 0 0 < C.getD 0 0))) = true := by
  intro e
  simp only [Bool.and_eq_true, decide_eq_true_eq] at e
  exact hd ⟨e.1.2, e.2.2⟩
theorem step_long {st nc most : Int} (h : PSound L st nc most) {n : Nat} (hn : 2 ≤ n) (k i : Nat) (t : Int) : ∀ (A acc : List Ae) (S : Mk) (b : Bool) (M : List Int) (Y : List (List Int)), S (nxt s i) = acc.map Prod.fst → WR L n A → M.length = n → (dec s i).2 ≠ 0 →
    (starts A).Pairwise (· ≤ ·) → Top A t → (b = true → M.getD 0 0 ≤ t) → (∀ y ∈ Y, (i : Int) < y.getD 1 0 ∧ Frm A (y.getD 0 0)) →
    ∃ B' r, r = stepF L true n (dec s i).1 (condN s i) (i : Int) ((nxt s i : Nat) : Int) A (acc, b, M) ∧ r.1 = acc ++ B' ∧ WR L n B' ∧ r.2.2.length = n ∧ Top B' t ∧ (starts B').Pairwise (· ≤ ·) ∧ (∀ v, Frm A v → Frm B' v) ∧ (r.2.1 = true → r.2.2.getD 0 0 ≤ t) ∧
      bestF (oM b M) (Y ++ (hitD L s (k + 1) i A S).1) = bestF (oM r.2.1 r.2.2) (Y ++ (hitD L s k (nxt s i) B' (put S (nxt s i) ((acc ++ B').map Prod.fst))).1) ∧
      (r.2.1 = false → b = false ∧ r.2.2 = M ∧ (hitD L s (k + 1) i A S).2 = (hitD L s k (nxt s i) B' (put S (nxt s i) ((acc ++ B').map Prod.fst))).2) := by
  intro A
  induction A with
  | nil =>
    intro acc S b M Y hS hW hM hd hso hT hMt hY
    refine ⟨[], _, rfl, by rw [stepF, List.append_nil], WR.nil, by rw [stepF]; exact hM, (fun a ha => by cases ha), List.Pairwise.nil, (fun v hv => hv), by rw [stepF]; exact hMt, ?_, ?_⟩
    · rw [stepF, hitD_nil, hitD_nil]
    · rw [stepF, hitD_nil, hitD_nil, List.append_nil, ← hS, put_self]
      exact fun e => ⟨e, rfl, rfl⟩
  | cons a r ih =>
    intro acc S b M Y hS hW hM hd hso hT hMt hY
    obtain ⟨pc, o⟩ := a
    have hYr : ∀ y ∈ Y, (i : Int) < y.getD 1 0 ∧ Frm r (y.getD 0 0) := fun y hy => ⟨(hY y hy).1, fun a ha => (hY y hy).2 a (by simp [ha])⟩
    have hFr : ∀ v, Frm ((pc, o) :: r) v → Frm r v := fun v hv a ha => hv a (by simp [ha])
    cases o with
    | none =>
      rw [stepF, hitD_none]
      rw [starts_none] at hso
      obtain ⟨B', r', c1, c2, c3, c4, c5, c6, c7, c8⟩ := ih acc S b M Y hS hW.tail hM hd hso hT.tail hMt hYr
      exact ⟨B', r', c1, c2, c3, c4, c5, c6, fun v hv => c7 v (hFr v hv), c8⟩
    | some C =>
      have hC := hW.len
      obtain ⟨hfr, hso2⟩ := starts_frm hso
      have hCt : C.getD 0 0 ≤ t := hT (pc, some C) (by simp) C rfl
      by_cases hdr : b = true ∧ M.getD 0 0 < C.getD 0 0
      · obtain ⟨rfl, hlt⟩ := hdr
        have hF : Frm ((pc, some C) :: r) (C.getD 0 0) := fun a ha C' hC' => by
          rcases List.mem_cons.1 ha with rfl | ha
          · cases hC'; exact Int.le_refl _
          · exact hfr a ha C' hC'
        rw [step_far (by omega) _ _ _ _ M _ acc (fun a ha C' hC' => by have := hF a ha C' hC'; omega)]
        refine ⟨[], _, rfl, by rw [List.append_nil], WR.nil, hM, (fun a ha => by cases ha), List.Pairwise.nil, (fun v hv a ha => by cases ha), hMt, ?_, fun e => by cases e⟩
        rw [hitD_nil, List.append_nil]
        exact bestF_far2 M Y _ (fun y hy => by have := hitD_far h hn (k + 1) i _ S hW hF y hy; omega)
      · rw [stepF, if_neg (not_drop hn hdr)]
        by_cases h4 : (ins L pc).f0 = 4
        · rw [if_pos h4, if_pos rfl, hitD_hit k i pc C r S h4]
          simp only
          have htb := told_best hn b M C i hC hdr
          obtain ⟨M1, hM1⟩ : ∃ M1, M1 = (if (decide (0 < n) && (!true || (!b || decide (M.getD 1 0 < (i : Int))))) = true then C.set 1 (i : Int) else M) := ⟨_, rfl⟩
          rw [← hM1] at htb ⊢
          have hl1 : M1.length = n := by rw [hM1]; split <;> simp [hC, hM]
          have ht1 : M1.getD 0 0 ≤ t := by
            by_cases hb : b = true
            · rw [hM1]
              split
              · rw [set1_0]; exact hCt
              · exact hMt hb
            · have : b = false := by simpa using hb
              subst this
              rw [hM1, if_pos (by simp; omega), set1_0]; exact hCt
          obtain ⟨B', r', c1, c2, c3, c4, c5, c6, c7, c8, c9, c10⟩ := ih acc S true M1 Y hS hW.tail hl1 hd hso2 hT.tail (fun _ => ht1) hYr
          refine ⟨B', r', c1, c2, c3, c4, c5, c6, fun v hv => c7 v (hFr v hv), c8, ?_, fun e => by have := (c10 e).1; cases this⟩
          rw [bestF_in _ _ _ _ (fun y hy => ?_), htb, c9]
          refine ⟨?_, ?_⟩
          · rw [set1_0]; exact (hY y hy).2 (pc, some C) (by simp) C rfl
          · rw [set1_1 C _ (by omega)]; exact (hY y hy).1
        · rw [if_neg h4]
          by_cases ht : takesB (ins L pc) (dec s i).1 = true
          · rw [if_pos ht]
            have hg : goB L s i pc = true := by unfold goB; rw [ht, decide_eq_true hd]; rfl
            have hlt := nxt_lt hg
            obtain ⟨y, hy⟩ : ∃ y, y = hitD L s k (nxt s i) (newE L s i pc (S (nxt s i)) C) (put S (nxt s i) (S (nxt s i) ++ (newE L s i pc (S (nxt s i)) C).map Prod.fst)) := ⟨_, rfl⟩
            have hnew : aF L (condN s i) ((nxt s i : Nat) : Int) (L.length + 1) (acc.map Prod.fst) (ins L pc).f1.toNat C = newE L s i pc (S (nxt s i)) C := by rw [hS]; rfl
            have hWn : WR L n (newE L s i pc (S (nxt s i)) C) := WR.new h _ _ _ _ _ _ _ (hW.out h h4) hC
            have hCn : ∀ a ∈ newE L s i pc (S (nxt s i)) C, ∀ C', a.2 = some C' → C'.getD 0 0 = C.getD 0 0 := fun a ha C' e => ((aF_from h _ _ _ _ _ _ (hW.out h h4) a ha).2 C' e).2
            rw [hitD_go k i pc C r S h4 hg y hy]
            simp only
            rw [hnew]
            have hS2 : y.2 (nxt s i) = (acc ++ newE L s i pc (S (nxt s i)) C).map Prod.fst := by
              rw [hy, hitD_keep _ _ _ _ _ (Nat.le_refl _), put_same, List.map_append, hS]
            have hY2 : ∀ z ∈ Y ++ y.1, (i : Int) < z.getD 1 0 ∧ Frm r (z.getD 0 0) := fun z hz => by
              rcases List.mem_append.1 hz with hz | hz
              · exact hYr z hz
              · rw [hy] at hz
                obtain ⟨⟨p1, C1, m1, e1⟩, e2⟩ := hitD_from h hn k (nxt s i) _ _ hWn z hz
                refine ⟨by omega, ?_⟩
                rw [e1, hCn _ m1 C1 rfl]
                exact hfr
            obtain ⟨B2, r', c1, c2, c3, c4, c5, c6, c7, c8, c9, c10⟩ := ih (acc ++ newE L s i pc (S (nxt s i)) C) y.2 b M (Y ++ y.1) hS2 hW.tail hM hd hso2 hT.tail hMt hY2
            have hch := hitD_chain (L := L) (s := s) k (nxt s i) (newE L s i pc (S (nxt s i)) C) B2 S (S (nxt s i) ++ (newE L s i pc (S (nxt s i)) C).map Prod.fst) ((acc ++ (newE L s i pc (S (nxt s i)) C ++ B2)).map Prod.fst)
            rw [← hy] at hch
            have ea : acc ++ newE L s i pc (S (nxt s i)) C ++ B2 = acc ++ (newE L s i pc (S (nxt s i)) C ++ B2) := List.append_assoc _ _ _
            rw [ea] at c2 c9 c10
            refine ⟨newE L s i pc (S (nxt s i)) C ++ B2, r', c1, c2, hWn.append c3, c4, ?_, ?_, ?_, c8, ?_, ?_⟩
            · intro a ha C' e
              rcases List.mem_append.1 ha with ha | ha
              · rw [hCn a ha C' e]; exact hCt
              · exact c5 a ha C' e
            · rw [starts_append, List.pairwise_append]
              refine ⟨?_, c6, ?_⟩
              · have hall : ∀ x ∈ starts (newE L s i pc (S (nxt s i)) C), x = C.getD 0 0 := fun x hx => by
                  unfold starts at hx
                  obtain ⟨a, ha, he⟩ := List.mem_filterMap.1 hx
                  cases hq : a.2 with
                  | none => rw [hq] at he; cases he
                  | some C1 => rw [hq] at he; cases he; exact hCn a ha C1 hq
                exact List.pairwise_iff_forall_sublist.2 fun {x y} hxy => by
                  have h1 := hall x (hxy.subset (by simp))
                  have h2 := hall y (hxy.subset (by simp))
                  omega
              · intro x hx z hz
                unfold starts at hx hz
                obtain ⟨a, ha, he⟩ := List.mem_filterMap.1 hx
                obtain ⟨a2, ha2, he2⟩ := List.mem_filterMap.1 hz
                cases hq : a.2 with
                | none => rw [hq] at he; cases he
                | some C1 =>
                  rw [hq] at he; cases he
                  cases hq2 : a2.2 with
                  | none => rw [hq2] at he2; cases he2
                  | some C2 =>
                    rw [hq2] at he2; cases he2
                    show C1.getD 0 0 ≤ C2.getD 0 0
                    rw [hCn a ha C1 hq]
                    exact c7 _ hfr a2 ha2 C2 hq2
            · intro v hv a ha C' e
              rcases List.mem_append.1 ha with ha | ha
              · rw [hCn a ha C' e]; exact hv (pc, some C) (by simp) C rfl
              · exact c7 v (hFr v hv) a ha C' e
            · rw [hch, ← List.append_assoc, ← List.append_assoc]
              exact c9
            · rw [hch]; exact c10
          · rw [if_neg ht]
            have hg : goB L s i pc = false := by unfold goB; rw [show takesB (ins L pc) (dec s i).1 = false by simpa using ht, Bool.and_false]
            rw [hitD_skip k i pc C r S h4 hg]
            obtain ⟨B', r', c1, c2, c3, c4, c5, c6, c7, c8⟩ := ih acc S b M Y hS hW.tail hM hd hso2 hT.tail hMt hYr
            exact ⟨B', r', c1, c2, c3, c4, c5, c6, fun v hv => c7 v (hFr v hv), c8⟩
theorem step_last_long {st nc most : Int} (h : PSound L st nc most) {n : Nat} (hn : 2 ≤ n) (k i : Nat) (c cond np : Int) : ∀ (A acc : List Ae) (S : Mk) (b : Bool) (M : List Int), WR L n A → M.length = n → (dec s i).2 = 0 → (starts A).Pairwise (· ≤ ·) →
    bestF (oM b M) (hitD L s (k + 1) i A S).1 = oM (stepF L true n c cond (i : Int) np A (acc, b, M)).2.1 (stepF L true n c cond (i : Int) np A (acc, b, M)).2.2 := by
  intro A
  induction A with
  | nil => intro acc S b M hW hM hd hso; rw [stepF, hitD_nil]; rfl
  | cons a r ih =>
    intro acc S b M hW hM hd hso
    obtain ⟨pc, o⟩ := a
    cases o with
    | none => rw [stepF, hitD_none]; rw [starts_none] at hso; exact ih acc S b M hW.tail hM hd hso
    | some C =>
      have hC := hW.len
      obtain ⟨hfr, hso2⟩ := starts_frm hso
      by_cases hdr : b = true ∧ M.getD 0 0 < C.getD 0 0
      · obtain ⟨rfl, hlt⟩ := hdr
        have hF : Frm ((pc, some C) :: r) (C.getD 0 0) := fun a ha C' hC' => by
          rcases List.mem_cons.1 ha with rfl | ha
          · cases hC'; exact Int.le_refl _
          · exact hfr a ha C' hC'
        rw [step_far (by omega) _ _ _ _ M _ acc (fun a ha C' hC' => by have := hF a ha C' hC'; omega)]
        exact bestF_far M _ (fun y hy => by have := hitD_far h hn (k + 1) i _ S hW hF y hy; omega)
      · rw [stepF, if_neg (not_drop hn hdr)]
        by_cases h4 : (ins L pc).f0 = 4
        · rw [if_pos h4, if_pos rfl, hitD_hit k i pc C r S h4, bestF_cons, told_best hn b M C i hC hdr]
          exact ih acc S true _ hW.tail (by split <;> simp [hC, hM]) hd hso2
        · rw [if_neg h4]
          have hg : goB L s i pc = false := by unfold goB; rw [decide_eq_false (by omega)]; rfl
          rw [hitD_skip k i pc C r S h4 hg]
          split
          · exact ih _ S b M hW.tail hM hd hso2
          · exact ih acc S b M hW.tail hM hd hso2
end
end Go.Proofs.YtmccgfjhmbioeaaDoor.PgFnPgThreads
namespace Go.Proofs.YtmccgfjhmbioeaaDoor.PgFnPgThreads
open Go.RowKit Go.Proofs.YtmccgfjhmbioeaaDoor.EvN Go.Proofs.YtmccgfjhmbioeaaDoor.Row Go.Proofs.YtmccgfjhmbioeaaDoor.PFnPgThreads Go.Proofs.YtmccgfjhmbioeaaDoorW.PrintWords Go.Proofs.YtmccgfjhmbioeaaDoorW.PrintLast Go.Proofs.YtmccgfjhmbioeaaDoorW.PrintMore
set_option linter.unusedVariables false
set_option linter.unusedSimpArgs false
section
variable {L : List I} {s : ByteArray}
theorem startE_frm {st nc most : Int} (h : PSound L st nc most) (st' : Nat) (hst : st' < L.length) (last : Int) (i : Nat) (D : List Nat) (M : List Int) (hM : 0 < M.length) : ∀ a ∈ startE L st' s last i D M, ∀ C, a.2 = some C → C.getD 0 0 = (i : Int) := fun a ha C hC => by
  have h1 := ((aF_from h _ _ _ _ _ _ hst a ha).2 C hC).2
  rw [h1, List.getD_eq_getElem?_getD, List.getElem?_set_self hM]; rfl
theorem stD_far {st nc most : Int} (h : PSound L st nc most) {n : Nat} (hn : 2 ≤ n) (st' : Nat) (hst : st' < L.length) : ∀ (k : Nat) (last : Int) (i : Nat) (S : Mk) (M : List Int), M.length = n → ∀ x ∈ stD L st' s k last i S M, (i : Int) ≤ x.getD 0 0 := by
  intro k
  induction k with
  | zero => intro last i S M hM x hx; cases hx
  | succ k ih =>
    intro last i S M hM x hx
    rw [stD] at hx
    rcases List.mem_append.1 hx with hx | hx
    · have hW : WR L n (startE L st' s last i (S i) M) := WR.new h _ _ _ _ _ _ _ hst (by rw [List.length_set]; exact hM)
      unfold oneD at hx
      obtain ⟨⟨p1, C1, m1, e1⟩, _⟩ := hitD_from h hn (k + 1) i _ _ hW x hx
      rw [e1, startE_frm h st' hst last i (S i) M (by omega) _ m1 C1 rfl]
      exact Int.le_refl _
    · split at hx
      · cases hx
      · have := ih _ _ _ M hM x hx
        unfold nxt at this
        omega
theorem sorted_append {A B : List Ae} {t : Int} (h : (starts A).Pairwise (· ≤ ·)) (hA : Top A t) (hB : ∀ a ∈ B, ∀ C, a.2 = some C → C.getD 0 0 = t) : (starts (A ++ B)).Pairwise (· ≤ ·) := by
  have hall : ∀ x ∈ starts B, x = t := fun x hx => by
    unfold starts at hx
    obtain ⟨a, ha, he⟩ := List.mem_filterMap.1 hx
    cases hq : a.2 with
    | none => rw [hq] at he; cases he
    | some C1 => rw [hq] at he; cases he; exact hB a ha C1 hq
  rw [starts_append, List.pairwise_append]
  refine ⟨h, List.pairwise_iff_forall_sublist.2 fun {x y} hxy => ?_, fun x hx z hz => ?_⟩
  · have h1 := hall x (hxy.subset (by simp))
    have h2 := hall y (hxy.subset (by simp))
    omega
  · rw [hall z hz]
    unfold starts at hx
    obtain ⟨a, ha, he⟩ := List.mem_filterMap.1 hx
    cases hq : a.2 with
    | none => rw [hq] at he; cases he
    | some C1 => rw [hq] at he; cases he; exact hA a ha C1 hq
theorem loop_long_round {stI nc most : Int} (h : PSound L stI nc most) {n : Nat} (hn : 2 ≤ n) (st : Nat) (hst : st < L.length) (anch : Bool) (k i : Nat) (A1 : List Ae) (T : Mk) (b : Bool) (M1 : List Int)
    (ih : ∀ (B : List Ae) (S : Mk) (b' : Bool) (M : List Int), (dec s i).2 ≠ 0 → S (nxt s i) = B.map Prod.fst → (∀ j, nxt s i < j → S j = []) → WR L n B → M.length = n → (starts B).Pairwise (· ≤ ·) → Top B (i : Int) → (b' = true → M.getD 0 0 ≤ (i : Int)) →
      oM (mLoop L st true anch s k (dec s i).1 (nxt s i) B b' M).1 (mLoop L st true anch s k (dec s i).1 (nxt s i) B b' M).2 = bestF (oM b' M) ((hitD L s k (nxt s i) B S).1 ++ (if b' = true then [] else stD L st s k (dec s i).1 (nxt s i) (hitD L s k (nxt s i) B S).2 M)))
    (hTn : ∀ j, i < j → T j = []) (hW : WR L n A1) (hM : M1.length = n) (hso : (starts A1).Pairwise (· ≤ ·)) (hT : Top A1 (i : Int)) (hMi : b = true → M1.getD 0 0 ≤ (i : Int)) (R : List (List Int))
    (hR : R = if b = true then [] else if (dec s i).2 = 0 then [] else stD L st s k (dec s i).1 (nxt s i) (hitD L s (k + 1) i A1 T).2 M1) (res : Bool × List Int)
    (hres : res = (if (dec s i).2 = 0 then (stepF L true n (dec s i).1 (condN s i) (i : Int) ((nxt s i : Nat) : Int) A1 ([], b, M1)).2 else
      mLoop L st true anch s k (dec s i).1 (nxt s i) (stepF L true n (dec s i).1 (condN s i) (i : Int) ((nxt s i : Nat) : Int) A1 ([], b, M1)).1 (stepF L true n (dec s i).1 (condN s i) (i : Int) ((nxt s i : Nat) : Int) A1 ([], b, M1)).2.1 (stepF L true n (dec s i).1 (condN s i) (i : Int) ((nxt s i : Nat) : Int) A1 ([], b, M1)).2.2)) :
    oM res.1 res.2 = bestF (oM b M1) ((hitD L s (k + 1) i A1 T).1 ++ R) := by
  by_cases hd : (dec s i).2 = 0
  · rw [if_pos hd] at hres
    have hR0 : R = [] := by rw [hR, if_pos hd]; split <;> rfl
    rw [hR0, List.append_nil, step_last_long h hn k i (dec s i).1 (condN s i) ((nxt s i : Nat) : Int) A1 [] T b M1 hW hM hd hso, hres]
  · rw [if_neg hd] at hres hR
    have hlt : i < nxt s i := by unfold nxt; omega
    obtain ⟨B, r, c1, c2, c3, c4, c5, c6, c7, c8, c9, c10⟩ := step_long (s := s) h hn k i (i : Int) A1 [] T b M1 [] (hTn _ hlt) hW hM hd hso hT hMi (fun y hy => by cases hy)
    rw [← c1] at hres
    rw [List.nil_append] at c2
    simp only [List.nil_append] at c9 c10
    have hSB : ∀ j, nxt s i < j → (put T (nxt s i) (B.map Prod.fst)) j = [] := fun j hj => by rw [put_ne _ _ (by omega)]; exact hTn j (by omega)
    have hrec := ih B (put T (nxt s i) (B.map Prod.fst)) r.2.1 r.2.2 hd (put_same _ _ _) hSB c3 c4 c6 c5 c8
    rw [← c2, ← hres] at hrec
    rw [c2] at hrec
    rw [hrec, bestF_append _ _ R, c9, ← bestF_append]
    cases hr : r.2.1 with
    | false =>
      obtain ⟨d1, d2, d3⟩ := c10 hr
      rw [if_neg (by simp)]
      subst d1
      rw [if_neg (by simp), d3] at hR
      rw [hR, d2]
    | true =>
      rw [if_pos rfl, List.append_nil]
      cases b with
      | true => rw [if_pos rfl] at hR; rw [hR, List.append_nil]
      | false =>
        rw [if_neg (by simp)] at hR
        rw [show oM true r.2.2 = some r.2.2 from rfl, bestF_far2 r.2.2 _ R (fun y hy => ?_)]
        rw [hR] at hy
        have h1 := stD_far h hn st hst k _ _ _ M1 hM y hy
        have h2 := c8 hr
        omega
theorem loop_long {stI nc most : Int} (h : PSound L stI nc most) {n : Nat} (hn : 2 ≤ n) (st : Nat) (hst : st < L.length) (anch : Bool) : ∀ (k : Nat) (last : Int) (i : Nat) (A : List Ae) (S : Mk) (b : Bool) (M : List Int), S i = A.map Prod.fst → (∀ j, i < j → S j = []) → WR L n A → M.length = n →
    (starts A).Pairwise (· ≤ ·) → Top A (i : Int) → (b = true → M.getD 0 0 ≤ (i : Int)) →
    (anch = true → i ≠ 0 → ∀ S M, stD L st s k last i S M = []) → (∀ q, anch = true → (dec s q).2 ≠ 0 → ∀ k S M, stD L st s k (dec s q).1 (nxt s q) S M = []) →
    oM (mLoop L st true anch s k last i A b M).1 (mLoop L st true anch s k last i A b M).2 = bestF (oM b M) ((hitD L s k i A S).1 ++ (if b = true then [] else stD L st s k last i (hitD L s k i A S).2 M)) := by
  intro k
  induction k with
  | zero => intro last i A S b M hA hS hW hM hso hT hMi ha1 ha; cases b <;> rfl
  | succ k ih =>
    intro last i A S b M hA hS hW hM hso hT hMi ha1 ha
    have hround := fun A1 T b' M1 => loop_long_round h hn st hst anch k i A1 T b' M1 (fun B S b'' M hd x1 x2 x3 x4 x5 x6 x7 => ih (dec s i).1 (nxt s i) B S b'' M x1 x2 x3 x4 x5
      (fun a ha C hC => by have := x6 a ha C hC; unfold nxt; omega) (fun e => by have := x7 e; unfold nxt; omega) (fun hA0 _ S M => ha i hA0 hd k S M) ha)
    have hn0 : ∀ x : Bool, ¬ (n = 0 ∧ x = true) := fun x e => by omega
    rw [mLoop]
    by_cases hbr : A = [] ∧ ((anch = true ∧ i ≠ 0) ∨ b = true)
    · rw [if_pos hbr, hbr.1, hitD_nil]
      obtain ⟨_, ⟨h1, h2⟩ | h1⟩ := hbr
      · cases b with
        | true => rfl
        | false => rw [if_neg (by simp), ha1 h1 h2]; rfl
      · rw [if_pos h1]; rfl
    · rw [if_neg hbr]
      cases b with
      | true =>
        simp only [if_true]
        rw [show condZ (dec s i).1 (dec s (i + (dec s i).2)).1 = condN s i from rfl, show i + (dec s i).2 = nxt s i from rfl, hM, if_neg (hn0 _)]
        exact hround A S true M hS hW hM hso hT hMi [] (by rw [if_pos rfl]) _ rfl
      | false =>
        simp only [Bool.false_eq_true, if_false]
        rw [show condZ (dec s i).1 (dec s (i + (dec s i).2)).1 = condN s i from rfl, show i + (dec s i).2 = nxt s i from rfl, hM, if_neg (hn0 _), ← hA]
        rw [show aF L (condZ last (dec s i).1) (i : Int) (L.length + 1) (S i) st (M.set 0 (i : Int)) = startE L st s last i (S i) M from rfl]
        have hN : WR L n (startE L st s last i (S i) M) := WR.new h _ _ _ _ _ _ _ hst (by rw [List.length_set]; exact hM)
        have hM1 : (M.set 0 (i : Int)).length = n := by rw [List.length_set]; exact hM
        have hfrm := startE_frm (s := s) h st hst last i (S i) M (by omega)
        obtain ⟨T, hT'⟩ : ∃ T, T = put S i ((A ++ startE L st s last i (S i) M).map Prod.fst) := ⟨_, rfl⟩
        have hTn : ∀ j, i < j → T j = [] := fun j hj => by rw [hT', put_ne _ _ (by omega)]; exact hS j hj
        have hsum : hitD L s (k + 1) i (A ++ startE L st s last i (S i) M) T = ((hitD L s (k + 1) i A S).1 ++ (oneD L st s (k + 1) last i (hitD L s (k + 1) i A S).2 M).1, (oneD L st s (k + 1) last i (hitD L s (k + 1) i A S).2 M).2) := by
          have hk := hitD_keep (L := L) (s := s) (k + 1) i A S i (Nat.le_refl _)
          rw [hitD_append, hT', hitD_put _ _ _ _ _ _ (Nat.le_refl _)]
          unfold oneD
          rw [hk, List.map_append, ← hA]
        rw [stD, ← List.append_assoc]
        have hs1 : (hitD L s (k + 1) i A S).1 ++ (oneD L st s (k + 1) last i (hitD L s (k + 1) i A S).2 M).1 = (hitD L s (k + 1) i (A ++ startE L st s last i (S i) M) T).1 := by rw [hsum]
        have hs2 : (oneD L st s (k + 1) last i (hitD L s (k + 1) i A S).2 M).2 = (hitD L s (k + 1) i (A ++ startE L st s last i (S i) M) T).2 := by rw [hsum]
        rw [hs1, hs2, ← stD_set st k (dec s i).1 (nxt s i) _ M (i : Int)]
        exact hround (A ++ startE L st s last i (S i) M) T false (M.set 0 (i : Int)) hTn (hW.append hN) hM1 (sorted_append hso hT hfrm)
          (fun a ha C hC => (List.mem_append.1 ha).elim (fun ha => hT a ha C hC) (fun ha => by have := hfrm a ha C hC; omega)) (fun e => by cases e) _ (by rw [if_neg Bool.false_ne_true]) _ rfl
end
end Go.Proofs.YtmccgfjhmbioeaaDoor.PgFnPgThreads
namespace Go.Proofs.YtmccgfjhmbioeaaDoor.PgFnPgThreads
open Go.RowKit Go.Proofs.YtmccgfjhmbioeaaDoor.EvN Go.Proofs.YtmccgfjhmbioeaaDoor.Row Go.Proofs.YtmccgfjhmbioeaaDoor.PFnPgThreads Go.Proofs.YtmccgfjhmbioeaaDoorW.PrintWords Go.Proofs.YtmccgfjhmbioeaaDoorW.PrintLast Go.Proofs.YtmccgfjhmbioeaaDoorW.PrintMore
set_option linter.unusedVariables false
set_option linter.unusedSimpArgs false
section
variable {L : List I} {s : ByteArray}
def cutA (m : Nat) (A : List Ae) : List Ae := A.map fun a => (a.1, a.2.map (·.take m))
theorem cutA_fst (m : Nat) (A : List Ae) : (cutA m A).map Prod.fst = A.map Prod.fst := by unfold cutA; rw [List.map_map]; rfl
theorem cutA_append (m : Nat) (A B : List Ae) : cutA m (A ++ B) = cutA m A ++ cutA m B := by unfold cutA; rw [List.map_append]
theorem take_set' (C : List Int) (j m : Nat) (v : Int) : (C.set j v).take m = (C.take m).set j v := by
  apply List.ext_getElem?
  intro i
  by_cases h : i < m
  · rw [List.getElem?_take_of_lt h]
    by_cases e : i = j
    · subst e
      by_cases g : i < C.length
      · rw [List.getElem?_set_self g, List.getElem?_set_self (by rw [List.length_take]; omega)]
      · rw [List.getElem?_eq_none (by rw [List.length_set]; omega), List.getElem?_eq_none (by rw [List.length_set, List.length_take]; omega)]
    · rw [List.getElem?_set_ne (Ne.symm e), List.getElem?_set_ne (Ne.symm e), List.getElem?_take_of_lt h]
  · rw [List.getElem?_eq_none (by rw [List.length_take]; omega), List.getElem?_eq_none (by rw [List.length_set, List.length_take]; omega)]
theorem aF_cut (m : Nat) (cond pos : Int) : ∀ (n : Nat) (D : List Nat) (pc : Nat) (C : List Int), aF L cond pos n D pc (C.take m) = cutA m (aF L cond pos n D pc C) := by
  intro n
  induction n with
  | zero => intros; rfl
  | succ n ih =>
    intro D pc C
    rw [aF, aF]
    by_cases h0 : pc = 0 ∨ pc ∈ D
    · rw [if_pos h0, if_pos h0]; rfl
    · rw [if_neg h0, if_neg h0]
      by_cases g0 : (ins L pc).f0 = 0
      · rw [if_pos g0, if_pos g0, ih, ih, cutA_fst, ← cutA_append]; rfl
      · rw [if_neg g0, if_neg g0]
        by_cases g6 : (ins L pc).f0 = 6
        · rw [if_pos g6, if_pos g6, ih]; rfl
        · rw [if_neg g6, if_neg g6]
          by_cases g2 : (ins L pc).f0 = 2
          · rw [if_pos g2, if_pos g2, ← take_set', ih]; rfl
          · rw [if_neg g2, if_neg g2]
            by_cases g3 : (ins L pc).f0 = 3
            · rw [if_pos g3, if_pos g3]
              split
              · rw [ih]; rfl
              · rfl
            · rw [if_neg g3, if_neg g3]
              split <;> rfl
theorem hitD_cut (m : Nat) : ∀ (k i : Nat) (A : List Ae) (S : Mk), hitD L s k i (cutA m A) S = ((hitD L s k i A S).1.map (·.take m), (hitD L s k i A S).2) := by
  intro k
  induction k with
  | zero => intros; rfl
  | succ k ihk =>
    intro i A
    induction A with
    | nil => intro S; rfl
    | cons a r ih =>
      intro S
      obtain ⟨pc, o⟩ := a
      cases o with
      | none =>
        rw [show cutA m ((pc, none) :: r) = (pc, none) :: cutA m r from rfl, hitD_none, hitD_none]
        exact ih S
      | some C =>
        rw [show cutA m ((pc, some C) :: r) = (pc, some (C.take m)) :: cutA m r from rfl]
        by_cases h4 : (ins L pc).f0 = 4
        · rw [hitD_hit k i pc C r S h4, hitD_hit k i pc _ _ S h4, ih, ← take_set']; rfl
        · by_cases hg : goB L s i pc = true
          · have hnew : newE L s i pc (S (nxt s i)) (C.take m) = cutA m (newE L s i pc (S (nxt s i)) C) := aF_cut m _ _ _ _ _ _
            rw [hitD_go k i pc C r S h4 hg _ rfl, hitD_go k i pc (C.take m) (cutA m r) S h4 hg _ rfl, hnew, cutA_fst, ihk]
            simp only
            rw [ih, List.map_append]
          · rw [hitD_skip k i pc C r S h4 (by simpa using hg), hitD_skip k i pc _ _ S h4 (by simpa using hg)]
            exact ih S
theorem oneD_cut (m : Nat) (st k : Nat) (last : Int) (i : Nat) (S : Mk) (M : List Int) : oneD L st s k last i S (M.take m) = ((oneD L st s k last i S M).1.map (·.take m), (oneD L st s k last i S M).2) := by
  have he : startE L st s last i (S i) (M.take m) = cutA m (startE L st s last i (S i) M) := by
    unfold startE
    rw [← take_set', aF_cut]
  unfold oneD
  rw [he, cutA_fst, hitD_cut]
theorem stD_cut (m : Nat) (st : Nat) : ∀ (k : Nat) (last : Int) (i : Nat) (S : Mk) (M : List Int), stD L st s k last i S (M.take m) = (stD L st s k last i S M).map (·.take m) := by
  intro k
  induction k with
  | zero => intros; rfl
  | succ k ih =>
    intro last i S M
    rw [stD, stD, oneD_cut]
    simp only
    rw [List.map_append]
    split
    · rfl
    · rw [ih]
theorem take_getD (C : List Int) (j m : Nat) (h : j < m) : (C.take m).getD j 0 = C.getD j 0 := by
  rw [List.getD_eq_getElem?_getD, List.getElem?_take_of_lt h, ← List.getD_eq_getElem?_getD]
theorem better_cut (m : Nat) (hm : 2 ≤ m) (o : Option (List Int)) (h : List Int) : better (o.map (·.take m)) (h.take m) = (better o h).map (·.take m) := by
  cases o with
  | none => rfl
  | some M =>
    simp only [Option.map_some, better, take_getD _ 0 m (by omega), take_getD _ 1 m (by omega)]
    split
    · rfl
    · split <;> rfl
theorem bestF_cut (m : Nat) (hm : 2 ≤ m) : ∀ (H : List (List Int)) (o : Option (List Int)), bestF (o.map (·.take m)) (H.map (·.take m)) = (bestF o H).map (·.take m) := by
  intro H
  induction H with
  | nil => intro o; rfl
  | cons h H ih =>
    intro o
    rw [List.map_cons, bestF_cons, bestF_cons, better_cut m hm, ih]
theorem step_true (c cond pos np : Int) : ∀ (A acc : List Ae) (M : List Int), (stepF L true 0 c cond pos np A (acc, true, M)).2 = (true, M) := by
  intro A
  induction A with
  | nil => intros; rw [stepF]
  | cons a r ih =>
    intro acc M
    obtain ⟨pc, o⟩ := a
    cases o with
    | none => rw [stepF]; exact ih acc M
    | some C =>
      rw [stepF]
      simp only [Nat.lt_irrefl, decide_false, Bool.false_and, Bool.and_false, Bool.false_eq_true, if_false, if_true]
      split
      · exact ih acc M
      · split
        · exact ih _ M
        · exact ih acc M
theorem step_zero (c cond pos np : Int) : ∀ (A acc : List Ae) (M : List Int),
    ((stepF L true 0 c cond pos np A (acc, false, M)).2 = (true, M) ∧ (stepF L false 0 c cond pos np A (acc, false, M)).2 = (true, M)) ∨
      (stepF L true 0 c cond pos np A (acc, false, M) = stepF L false 0 c cond pos np A (acc, false, M) ∧ (stepF L false 0 c cond pos np A (acc, false, M)).2 = (false, M)) := by
  intro A
  induction A with
  | nil => intro acc M; right; rw [stepF, stepF]; exact ⟨rfl, rfl⟩
  | cons a r ih =>
    intro acc M
    obtain ⟨pc, o⟩ := a
    cases o with
    | none => rw [stepF, stepF]; exact ih acc M
    | some C =>
      have e1 := stepF.eq_3 L true 0 c cond pos np (acc, false, M) pc C r
      have e2 := stepF.eq_3 L false 0 c cond pos np (acc, false, M) pc C r
      simp only [Nat.lt_irrefl, decide_false, Bool.false_and, Bool.and_false, Bool.false_eq_true, if_false, if_true] at e1 e2
      rw [e1, e2]
      by_cases h4 : (ins L pc).f0 = 4
      · rw [if_pos h4, if_pos h4]
        exact .inl ⟨step_true c cond pos np r acc M, rfl⟩
      · rw [if_neg h4, if_neg h4]
        split
        · exact ih _ M
        · exact ih acc M
theorem loop_zero (st : Nat) (anch : Bool) : ∀ (k : Nat) (last : Int) (i : Nat) (A : List Ae), mLoop L st true anch s k last i A false [] = mLoop L st false anch s k last i A false [] := by
  intro k
  induction k with
  | zero => intros; rfl
  | succ k ih =>
    intro last i A
    rw [mLoop, mLoop]
    split
    · rfl
    · simp only [Bool.false_eq_true, if_false, List.set_nil, List.length_nil]
      rcases step_zero (L := L) (dec s i).1 (condZ (dec s i).1 (dec s (i + (dec s i).2)).1) (i : Int) ((i + (dec s i).2 : Nat) : Int) (A ++ aF L (condZ last (dec s i).1) (i : Int) (L.length + 1) (A.map Prod.fst) st []) [] [] with ⟨e1, e2⟩ | ⟨e1, e2⟩
      · rw [e1, e2]
        simp
      · rw [e1, e2]
        split
        · rfl
        · rw [if_neg (by simp), if_neg (by simp)]
          exact ih _ _ _
end
end Go.Proofs.YtmccgfjhmbioeaaDoor.PgFnPgThreads
namespace Go.Proofs.YtmccgfjhmbioeaaDoor.PgFnPgThreads
open Go.RowKit Go.Proofs.YtmccgfjhmbioeaaDoor.EvN Go.Proofs.YtmccgfjhmbioeaaDoor.Row Go.Proofs.YtmccgfjhmbioeaaDoor.PFnPgThreads Go.Proofs.YtmccgfjhmbioeaaDoorW.PrintWords Go.Proofs.YtmccgfjhmbioeaaDoorW.PrintLast Go.Proofs.YtmccgfjhmbioeaaDoorW.PrintMore
set_option linter.unusedVariables false
set_option linter.unusedSimpArgs false
section
variable {L : List I} {s : ByteArray}
end
end Go.Proofs.YtmccgfjhmbioeaaDoor.PgFnPgThreads
