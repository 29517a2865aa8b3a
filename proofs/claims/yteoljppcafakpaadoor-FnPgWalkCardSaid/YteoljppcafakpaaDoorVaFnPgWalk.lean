import Derived.Test.YteoljppcafakpaaDoorNdFnPgWalk
namespace Go.Proofs.YteoljppcafakpaaDoor.PgFnPgWalk
open Go.RowKit Go.Proofs.YteoljppcafakpaaDoor.EvN Go.Proofs.YteoljppcafakpaaDoor.Row Go.Proofs.YteoljppcafakpaaDoor.PFnPgWalk Go.Proofs.YteoljppcafakpaaDoorW.PrintWords Go.Proofs.YteoljppcafakpaaDoorW.PrintLast Go.Proofs.YteoljppcafakpaaDoorW.PrintMore
structure Fr (S : Nat → Prop) (w w' : World) : Prop where
  os : w'.os = w.os
  tape : w'.tape = w.tape
  output : w'.output = w.output
  size : w.heap.size ≤ w'.heap.size
  block : ∀ b, b < w.heap.size → ¬ S b → w'.heap[b]? = w.heap[b]?
theorem Fr.refl (S : Nat → Prop) (w : World) : Fr S w w := ⟨rfl, rfl, rfl, Nat.le_refl _, fun _ _ _ => rfl⟩
theorem Fr.trans {S T : Nat → Prop} {a b c : World} (h : Fr S a b) (k : Fr T b c) (hT : ∀ i, i < a.heap.size → ¬ S i → ¬ T i) : Fr S a c :=
  ⟨k.os.trans h.os, k.tape.trans h.tape, k.output.trans h.output, Nat.le_trans h.size k.size, fun i hi hne => (k.block i (Nat.lt_of_lt_of_le hi h.size) (hT i hi hne)).trans (h.block i hi hne)⟩
theorem Fr.mono {S T : Nat → Prop} {a b : World} (h : Fr S a b) (hT : ∀ i, i < a.heap.size → S i → T i) : Fr T a b :=
  ⟨h.os, h.tape, h.output, h.size, fun i hi hne => h.block i hi (fun e => hne (hT i hi e))⟩
theorem Fr.set {S : Nat → Prop} {a b : World} (h : Fr S a b) {g j : Nat} (v : Value) (hg : S g) : Fr S a (b.setCell ⟨g, j, none⟩ v) :=
  ⟨h.os, h.tape, h.output, by have := h.size; simp [World.setCell]; omega, fun i hi hne => (Below.heap_setCell _ _ _ _ (fun e => hne (by rw [e]; exact hg))).trans (h.block i hi hne)⟩
theorem Fr.set_new {S : Nat → Prop} {a b : World} (h : Fr S a b) {g j : Nat} (v : Value) (hg : a.heap.size ≤ g) : Fr S a (b.setCell ⟨g, j, none⟩ v) :=
  ⟨h.os, h.tape, h.output, by have := h.size; simp [World.setCell]; omega, fun i hi hne => (Below.heap_setCell _ _ _ _ (fun e => by have : i = g := e; omega)).trans (h.block i hi hne)⟩
theorem Fr.alloc {S : Nat → Prop} {a b : World} (h : Fr S a b) (o : Obj) : Fr S a (b.alloc o) :=
  ⟨h.os, h.tape, h.output, by have := h.size; simp; omega, fun i hi hne => (Below.heap_alloc _ _ _ (Nat.lt_of_lt_of_le hi h.size)).trans (h.block i hi hne)⟩
theorem Fr.below {S : Nat → Prop} {a b c : World} (h : Fr S a b) (k : Below b.heap.size b c) : Fr S a c :=
  ⟨k.os.trans h.os, k.tape.trans h.tape, k.output.trans h.output, Nat.le_trans h.size k.size, fun i hi hne => (k.block i (Nat.lt_of_lt_of_le hi h.size)).trans (h.block i hi hne)⟩
theorem Fr.to_below {S : Nat → Prop} {a b : World} (h : Fr S a b) {B : Nat} (hB : B ≤ a.heap.size) (hS : ∀ i, S i → B ≤ i) : Below B a b :=
  ⟨h.os, h.tape, h.output, h.size, fun k hk => h.block k (by omega) (fun e => by have := hS k e; omega)⟩
theorem Fr.grown {S : Nat → Prop} {a b : World} (h : Fr S a b) {r : Nat} (hS : ∀ i, S i → i = r) : a.grownBy b (some r) :=
  ⟨h.os, h.tape, h.output, h.size, fun i hi hne => h.block i hi (fun e => hne (by rw [hS i e]))⟩
theorem Fr.own {S : Nat → Prop} {a b : World} (h : Fr S a b) {B n size : Nat} {e : TypeId} {v : Value} {xs : List Value} (ho : a.ownsRow B e size v n xs) (hS : ∀ g, v.ownBlock = some g → ¬ S g) : b.ownsRow B e size v n xs := by
  refine ⟨ho.1, ?_⟩
  rcases ho.2 with hn | ⟨g, cap, cur, rfl, hb, hgg, rest⟩
  · exact .inl hn
  · exact .inr ⟨g, cap, cur, rfl, hb, (h.block g (blk_lt hgg) (hS g rfl)).trans hgg, rest⟩
abbrev Th := Nat × Nat
def CapAt (w : World) (n cc cb : Nat) (C : List Int) : Prop :=
  ∃ rest : List Value, w.heap[cb]? = some (.cells (C.map (Value.int .i64) ++ rest).toArray 3 (0, 0)) ∧ C.length = n ∧ n + rest.length = cc
def ThAt (w : World) (n cc : Nat) (x : Th) (i : Value) (C : List Int) : Prop :=
  w.heap[x.1]? = some (.cells #[i, .slice (some ⟨x.2, 0, none⟩) n cc] 160 (0, 0)) ∧ CapAt w n cc x.2 C
theorem CapAt.keep {w w' : World} {n cc cb : Nat} {C : List Int} (h : CapAt w n cc cb C) (h1 : w'.heap[cb]? = w.heap[cb]?) : CapAt w' n cc cb C := by
  obtain ⟨r, h2, h3⟩ := h
  exact ⟨r, h1.trans h2, h3⟩
theorem CapAt.lt {w : World} {n cc cb : Nat} {C : List Int} (h : CapAt w n cc cb C) : cb < w.heap.size := by
  obtain ⟨r, h2, h3⟩ := h; exact blk_lt h2
theorem ThAt.keep {w w' : World} {n cc : Nat} {x : Th} {i : Value} {C : List Int} (h : ThAt w n cc x i C) (h1 : w'.heap[x.1]? = w.heap[x.1]?) (h2 : w'.heap[x.2]? = w.heap[x.2]?) : ThAt w' n cc x i C := ⟨h1.trans h.1, h.2.keep h2⟩
theorem ThAt.ne {w : World} {n cc : Nat} {x : Th} {i : Value} {C : List Int} (h : ThAt w n cc x i C) : x.1 ≠ x.2 := by
  obtain ⟨h1, r, h2, _⟩ := h
  exact blk_ne h1 h2 (by decide)
theorem ThAt.set {w : World} {n cc : Nat} {x : Th} {i : Value} {C : List Int} (h : ThAt w n cc x i C) (j : Value) : ThAt (w.setCell ⟨x.1, 0, none⟩ j) n cc x j C := by
  refine ⟨?_, h.2.keep (Below.heap_setCell _ _ _ _ (Ne.symm h.ne))⟩
  exact (blk_set h.1 0 j).trans rfl
def mach (mc : Nat → Value) : Obj := .cells #[mc 0, mc 1, mc 2, mc 3, mc 4, mc 5, mc 6, mc 7, mc 8, mc 9, mc 10, mc 11, mc 12, mc 13] 115 (0, 0)
def up (mc : Nat → Value) (j : Nat) (v : Value) : Nat → Value := fun i => if i = j then v else mc i
theorem mach_cell {w : World} {mb : Nat} {mc : Nat → Value} (h : w.heap[mb]? = some (mach mc)) (j : Nat) (hj : j < 14) : w.cell? ⟨mb, j, none⟩ = some (mc j) := by
  rw [blk_cell h j]
  match j, hj with
  | 0, _ => rfl
  | 1, _ => rfl
  | 2, _ => rfl
  | 3, _ => rfl
  | 4, _ => rfl
  | 5, _ => rfl
  | 6, _ => rfl
  | 7, _ => rfl
  | 8, _ => rfl
  | 9, _ => rfl
  | 10, _ => rfl
  | 11, _ => rfl
  | 12, _ => rfl
  | 13, _ => rfl
theorem mach_set {w : World} {mb : Nat} {mc : Nat → Value} (h : w.heap[mb]? = some (mach mc)) (j : Nat) (hj : j < 14) (v : Value) : (w.setCell ⟨mb, j, none⟩ v).heap[mb]? = some (mach (up mc j v)) := by
  refine (blk_set h j v).trans ?_
  match j, hj with
  | 0, _ => rfl
  | 1, _ => rfl
  | 2, _ => rfl
  | 3, _ => rfl
  | 4, _ => rfl
  | 5, _ => rfl
  | 6, _ => rfl
  | 7, _ => rfl
  | 8, _ => rfl
  | 9, _ => rfl
  | 10, _ => rfl
  | 11, _ => rfl
  | 12, _ => rfl
  | 13, _ => rfl
theorem up_same (mc : Nat → Value) (j : Nat) (v : Value) : up mc j v j = v := if_pos rfl
theorem up_ne (mc : Nat → Value) {i j : Nat} (v : Value) (h : i ≠ j) : up mc j v i = mc i := if_neg h
theorem made_ints (c : Nat) : madeCells #[Value.int .i64 0] (c * 1) = ((List.replicate c 0).map (Value.int .i64)).toArray := by
  apply Array.ext
  · simp [madeCells]
  · intro i h1 h2
    simp [madeCells, Nat.mod_one]
theorem make_ints (n c : Nat) (hn : n ≤ c) (hc : c ≤ 1000000) (W : World) : (Instr.makeSlice 32 (.int .i64 (n : Int)) (.int .i64 (c : Int))).run Tryd.prog W = .ok (.slice (some ⟨W.heap.size, 0, none⟩) n c) (W.alloc (.cells ((List.replicate c 0).map (Value.int .i64)).toArray 3)) := by
  obtain ⟨i, hi, hz, hsize, hby⟩ := info_parts iint
  have := run_make (P := Tryd.prog) W 32 3 i (.int .i64 0) Tryd.underlying32 hi hz .i64 .i64 (n : Int) (c : Int) (by omega) (by omega) (by rw [hby]; omega) (by omega)
  rw [hsize, Int.toNat_natCast, Int.toNat_natCast] at this
  rw [this, show (Value.int .i64 0).cells = #[Value.int .i64 0] from rfl, made_ints]
theorem CapAt.made {w : World} {cb n c : Nat} (hn : n ≤ c) (h : w.heap[cb]? = some (.cells ((List.replicate c 0).map (Value.int .i64)).toArray 3 (0, 0))) : CapAt w n c cb (List.replicate n 0) := by
  refine ⟨(List.replicate (c - n) 0).map (Value.int .i64), ?_, by simp, by simp; omega⟩
  rw [h, ← List.map_append, List.replicate_append_replicate, show n + (c - n) = c by omega]
structure Pool (w : World) (B n cc : Nat) (pv : Value) (pool : List Th) : Prop where
  own : w.ownsRow B 150 1 pv pool.length (pool.map fun x => .pointer (some ⟨x.1, 0, none⟩))
  th : ∀ x ∈ pool, ∃ i C, ThAt w n cc x i C
theorem own_pop {w : World} {B n cap g : Nat} {e : TypeId} {xs : List Value} {y : Value} (h : w.ownsRow B e 1 (.slice (some ⟨g, 0, none⟩) (n + 1) cap) (n + 1) (xs ++ [y])) : w.ownsRow B e 1 (.slice (some ⟨g, 0, none⟩) n cap) n xs := by
  have hl : xs.length = n := by have := h.1; simp at this; omega
  rcases h.2 with ⟨h, _⟩ | ⟨g', cap', cur, e', hb, hg, h1, h2, h3, h4⟩
  · cases h
  · cases e'
    refine ⟨by omega, .inr ⟨g, cap, cur, rfl, hb, hg, by omega, h2, h3, ?_⟩⟩
    have := congrArg (List.take n) h4
    rw [List.take_take, Nat.mul_one, Nat.min_eq_left (by omega)] at this
    rw [Nat.mul_one, this, List.take_append_of_le_length (by omega), List.take_of_length_le (by omega)]
theorem blk2 {w : World} {g : Nat} {ty : TypeId} {v0 v1 : Value} (h : w.heap[g]? = some (.cells #[v0, v1] ty (0, 0))) : w.cell? ⟨g, 0, none⟩ = some v0 ∧ w.cell? ⟨g, 1, none⟩ = some v1 := ⟨(blk_cell h 0).trans rfl, (blk_cell h 1).trans rfl⟩
theorem own_ne {w : World} {B n g cap : Nat} {xs : List Value} {mc : Nat → Value} (h : w.ownsRow B 150 1 (.slice (some ⟨g, 0, none⟩) n cap) n xs) (k : w.heap[g]? = some (mach mc)) : False := by
  rcases h.2 with ⟨h, _⟩ | ⟨g', cap', cur, e', hb, hg, _⟩
  · cases h
  · cases e'
    exact blk_ne hg k (by decide) rfl
theorem own_ne2 {w : World} {B n g cap : Nat} {xs : List Value} {cs : Array Value} (h : w.ownsRow B 150 1 (.slice (some ⟨g, 0, none⟩) n cap) n xs) (k : w.heap[g]? = some (.cells cs 160 (0, 0))) : False := by
  rcases h.2 with ⟨h, _⟩ | ⟨g', cap', cur, e', hb, hg, _⟩
  · cases h
  · cases e'
    exact blk_ne hg k (by decide) rfl
def New (w : World) (n cc : Nat) (wc : World) : Prop :=
  wc.heap[w.heap.size]? = some (.cells #[.pointer none, .slice (some ⟨w.heap.size + 1, 0, none⟩) n cc] 160 (0, 0)) ∧ CapAt wc n cc (w.heap.size + 1) (List.replicate n 0) ∧ Fr (fun _ => False) w wc
theorem New.th {w wc : World} {n cc : Nat} (h : New w n cc wc) : ThAt wc n cc (w.heap.size, w.heap.size + 1) (.pointer none) (List.replicate n 0) := ⟨h.1, h.2.1⟩
theorem New.way {w : World} {n cc : Nat} (hn : n ≤ cc) : New w n cc ((w.alloc (.cells #[.pointer none, .slice (some ⟨w.heap.size + 1, 0, none⟩) n cc] 160)).alloc (.cells (Array.replicate cc (.int .i64 0)) 3)).drew := by
  have e1 : (w.alloc (.cells #[.pointer none, .slice (some ⟨w.heap.size + 1, 0, none⟩) n cc] 160)).heap.size = w.heap.size + 1 := by simp
  refine ⟨?_, CapAt.made hn ?_, ⟨rfl, rfl, rfl, by simp [World.drew]; omega, fun i hi _ => ?_⟩⟩
  · exact (Below.heap_alloc _ _ _ (by rw [e1]; omega)).trans (heap_alloc_new w _)
  · have h := heap_alloc_new (w.alloc (.cells #[.pointer none, .slice (some ⟨w.heap.size + 1, 0, none⟩) n cc] 160)) (.cells (Array.replicate cc (.int .i64 0)) 3)
    rw [e1] at h
    refine Eq.trans (show _ = _ from h) ?_
    simp
  · exact (Below.heap_alloc _ _ _ (by rw [e1]; omega)).trans (Below.heap_alloc _ _ _ hi)
theorem own_cap {w : World} {B n g cap size : Nat} {e : TypeId} {xs : List Value} (h : w.ownsRow B e size (.slice (some ⟨g, 0, none⟩) n cap) n xs) : n ≤ cap := by
  rcases h.2 with ⟨h, _⟩ | ⟨g', cap', cur, e', hb, hg, h1, _⟩
  · cases h
  · cases e'; exact h1
set_option maxRecDepth 100000 in
set_option maxHeartbeats 4000000 in
theorem alloc_calls (w : World) (mb B n cc mcb : Nat) (mc : Nat → Value) (pool : List Th) (hm : w.heap[mb]? = some (mach mc)) (hp : Pool w B n cc (mc 6) pool) (h8 : mc 8 = .slice (some ⟨mcb, 0, none⟩) n cc) (hn : n ≤ cc) (hcc : cc ≤ 100000) (hpl : pool.length ≤ 2000000) (ip : Addr) :
    Calls Tryd.prog 88 #[.pointer (some ⟨mb, 0, none⟩), .pointer (some ip)] w fun e w' => ∃ x pool' pv' C, e = .returned (.pointer (some ⟨x.1, 0, none⟩)) ∧ ThAt w' n cc x (.pointer (some ip)) C ∧ w'.heap[mb]? = some (mach (up mc 6 pv')) ∧
      ((pool = pool' ++ [x] ∧ Fr (fun b => b = mb ∨ b = x.1) w w') ∨ (pool = [] ∧ pool' = [] ∧ w.heap.size ≤ x.1 ∧ w.heap.size ≤ x.2 ∧ Fr (fun _ => False) w w')) ∧ w'.ownsRow B 150 1 pv' pool'.length (pool'.map fun x => .pointer (some ⟨x.1, 0, none⟩)) ∧ pv'.ownBlock = (mc 6).ownBlock := by
  have hz6 := mach_cell hm 6 (by omega)
  have hz8 := mach_cell hm 8 (by omega)
  have hf6 := (blk_frozen hm 6 : w.frozen? ⟨mb, 6, none⟩ = false)
  obtain ⟨A, c, e6⟩ := owns_slice hp.own
  have HM := Lib.hid hm
  have HP := Lib.hid hp
  clear hm hp
  rcases List.eq_nil_or_concat pool with rfl | ⟨ps, x, rfl⟩
  · rw [e6] at hz6
    rw [h8] at hz8
    simp only [List.length_nil] at hz6
    have hmk := make_ints n cc hn (by omega)
    go_enter Tryd.func88, Tryd.ntmps88
    have lmb := blk_lt HM.out
    have hb1 : mb ≠ w.heap.size := by omega
    have hb2 : w.heap.size ≠ mb := by omega
    go_upto_region 7 with (fail)
    go_cut [1, 5] (fun v1 v5 wc => (v1 = .pointer (some ip) ∧ v5 = .pointer (some ⟨w.heap.size, 0, none⟩)) ∧ Hid (New w n cc wc))
    case first =>
      go_region
      all_goals
        go_wp2_with fail
        go_meet
        exact ⟨⟨rfl, rfl⟩, Lib.hid (New.way hn)⟩
    obtain ⟨⟨rfl, rfl⟩, HN⟩ := hcut
    have hy0 := (blk2 HN.out.1).1
    have hfy := blk_frozen HN.out.1 0
    go_wp2_with fail
    go_ret
    have HT := HN.out.th.set (.pointer (some ip))
    refine ⟨(w.heap.size, w.heap.size + 1), [], .slice A 0 c, _, rfl, HT, ?_, .inr ⟨trivial, rfl, Nat.le_refl _, Nat.le_succ _, ?_⟩, ?_, ?_⟩
    · have e : up mc 6 (.slice A 0 c) = mc := by
        funext i
        by_cases h : i = 6
        · subst h; rw [up_same, e6]; rfl
        · exact up_ne mc _ h
      rw [e]
      exact (Below.heap_setCell _ _ _ _ hb1).trans ((HN.out.2.2.block mb lmb (fun h => h)).trans HM.out)
    · exact HN.out.2.2.set_new _ (Nat.le_refl _)
    · have := HP.out.own
      rw [e6] at this
      exact (HN.out.2.2.set_new _ (Nat.le_refl _)).own this (fun _ _ h => h)
    · rw [e6]; rfl
  · rw [List.concat_eq_append] at *
    rw [e6] at hz6
    rw [h8] at hz8
    have hlen : (ps ++ [x]).length = ps.length + 1 := by simp
    rw [hlen] at hz6 e6 hpl
    have hown : w.ownsRow B 150 1 (.slice A (ps.length + 1) c) (ps.length + 1) (ps.map (fun x => Value.pointer (some ⟨x.1, 0, none⟩)) ++ [.pointer (some ⟨x.1, 0, none⟩)]) := by
      have := HP.out.own
      rw [e6, hlen, List.map_append] at this
      exact this
    obtain ⟨g, cap, hv, hBg, lg⟩ := hown.form (by omega)
    cases hv
    have hx := hown.cellAt ps.length (by omega)
    rw [List.getElem?_append_right (by simp), List.length_map, Nat.sub_self, List.getElem?_cons_zero] at hx
    obtain ⟨i0, C, hth⟩ := HP.out.th x (by simp)
    have HTH := Lib.hid hth
    have HOW := Lib.hid hown
    obtain ⟨hy0, _⟩ := blk2 hth.1
    have hfx := blk_frozen hth.1 0
    have hne : x.1 ≠ mb := blk_ne hth.1 HM.out (by decide)
    have hne2 := Ne.symm hne
    have hgm : g ≠ mb := by rintro rfl; exact own_ne HOW.out HM.out
    have hcap : ps.length + 1 ≤ c := own_cap HOW.out
    clear hth hown
    go_enter Tryd.func88, Tryd.ntmps88
    go_wp2_with fail
    go_ret
    have HM1 := mach_set HM.out 6 (by omega) (.slice (some ⟨g, 0, none⟩) ps.length c)
    have hgx : x.1 ≠ g := by rintro rfl; exact own_ne2 HOW.out HTH.out.1
    have hg2 : x.2 ≠ mb := by obtain ⟨_, r, h, _⟩ := HTH.out; exact blk_ne h HM.out (by decide)
    refine ⟨x, ps, .slice (some ⟨g, 0, none⟩) ps.length c, C, rfl, ThAt.set (HTH.out.keep (Below.heap_setCell _ _ _ _ hne) (Below.heap_setCell _ _ _ _ hg2)) _, ?_, .inl ⟨rfl, ?_⟩, ?_, ?_⟩
    · exact (Below.heap_setCell _ _ _ _ hne2).trans HM1
    · exact ((Fr.refl _ w).set _ (.inl rfl)).set _ (.inr rfl)
    · have h1 := own_pop HOW.out
      refine Fr.own (((Fr.refl (fun b => b = mb ∨ b = x.1) w).set _ (.inl rfl)).set _ (.inr rfl)) h1 (fun k e => ?_)
      have e2 : g = k := by simpa [Value.ownBlock] using e
      subst e2
      rintro (h | h)
      · exact hgm h
      · exact hgx h.symm
    · rw [e6]; rfl
end Go.Proofs.YteoljppcafakpaaDoor.PgFnPgWalk
