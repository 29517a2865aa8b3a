import Derived.Test.YtmccgfjhmbioeaaDoorNxFnPgThreads
import Derived.Laws.CopyOwn
import Derived.LaidEqlPtr
namespace Go.Proofs.YtmccgfjhmbioeaaDoor.PgFnPgThreads
open Go.RowKit Go.Proofs.YtmccgfjhmbioeaaDoor.EvN Go.Proofs.YtmccgfjhmbioeaaDoor.Row Go.Proofs.YtmccgfjhmbioeaaDoor.PFnPgThreads Go.Proofs.YtmccgfjhmbioeaaDoorW.PrintWords Go.Proofs.YtmccgfjhmbioeaaDoorW.PrintLast Go.Proofs.YtmccgfjhmbioeaaDoorW.PrintMore
structure Fr (S : Nat → Prop) (w w' : World) : Prop where
  os : w'.os = w.os
  tape : w'.tape = w.tape
  output : w'.output = w.output
  size : w.heap.size ≤ w'.heap.size
  block : ∀ b, b < w.heap.size → ¬ S b → w'.heap[b]? = w.heap[b]?
theorem Fr.refl (S : Nat → Prop) (w : World) : Fr S w w := ⟨rfl, rfl, rfl, Nat.le_refl _, fun _ _ _ => rfl⟩
theorem Fr.trans {S T : Nat → Prop} {a b c : World} (h : Fr S a b) (k : Fr T b c) (hT : ∀ i, i < a.heap.size → ¬ S i → ¬ T i) : Fr S a c :=
  ⟨k.os.trans h.os, k.tape.trans h.tape, k.output.trans h.output, Nat.le_trans h.size k.size, fun i hi hne => (k.block i (Nat.lt_of_lt_of_le hi h.size) (hT i hi hne)).trans (h.block i hi hne)⟩
theorem Fr.mono {S T : Nat → Prop} {a b : World} (h : Fr S a b) (hT : ∀ i, i < a.heap.size → S i → T i) : Fr T a b :=
  ⟨h.os, h.tape, h.output, h.size, fun i hi hne => h.block i hi (fun e => hne (hT i hi e))⟩
theorem Fr.set {S : Nat → Prop} {a b : World} (h : Fr S a b) {g j : Nat} (v : Value) (hg : S g) : Fr S a (b.setCell ⟨g, j, none⟩ v) :=
  ⟨h.os, h.tape, h.output, by have := h.size; simp [World.setCell]; omega, fun i hi hne => (Below.heap_setCell _ _ _ _ (fun e => hne (by rw [e]; exact hg))).trans (h.block i hi hne)⟩
theorem Fr.set_new {S : Nat → Prop} {a b : World} (h : Fr S a b) {g j : Nat} (v : Value) (hg : a.heap.size ≤ g) : Fr S a (b.setCell ⟨g, j, none⟩ v) :=
  ⟨h.os, h.tape, h.output, by have := h.size; simp [World.setCell]; omega, fun i hi hne => (Below.heap_setCell _ _ _ _ (fun e => by have : i = g := e; omega)).trans (h.block i hi hne)⟩
theorem Fr.alloc {S : Nat → Prop} {a b : World} (h : Fr S a b) (o : Obj) : Fr S a (b.alloc o) :=
  ⟨h.os, h.tape, h.output, by have := h.size; simp; omega, fun i hi hne => (Below.heap_alloc _ _ _ (Nat.lt_of_lt_of_le hi h.size)).trans (h.block i hi hne)⟩
theorem Fr.below {S : Nat → Prop} {a b c : World} (h : Fr S a b) (k : Below b.heap.size b c) : Fr S a c :=
  ⟨k.os.trans h.os, k.tape.trans h.tape, k.output.trans h.output, Nat.le_trans h.size k.size, fun i hi hne => (k.block i (Nat.lt_of_lt_of_le hi h.size)).trans (h.block i hi hne)⟩
theorem Fr.to_below {S : Nat → Prop} {a b : World} (h : Fr S a b) {B : Nat} (hB : B ≤ a.heap.size) (hS : ∀ i, S i → B ≤ i) : Below B a b :=
  ⟨h.os, h.tape, h.output, h.size, fun k hk => h.block k (by omega) (fun e => by have := hS k e; omega)⟩
theorem Fr.grown {S : Nat → Prop} {a b : World} (h : Fr S a b) {r : Nat} (hS : ∀ i, S i → i = r) : a.grownBy b (some r) :=
  ⟨h.os, h.tape, h.output, h.size, fun i hi hne => h.block i hi (fun e => hne (by rw [hS i e]))⟩
theorem Fr.own {S : Nat → Prop} {a b : World} (h : Fr S a b) {B n size : Nat} {e : TypeId} {v : Value} {xs : List Value} (ho : a.ownsRow B e size v n xs) (hS : ∀ g, v.ownBlock = some g → ¬ S g) : b.ownsRow B e size v n xs := by
  refine ⟨ho.1, ?_⟩
  rcases ho.2 with hn | ⟨g, cap, cur, rfl, hb, hgg, rest⟩
  · exact .inl hn
  · exact .inr ⟨g, cap, cur, rfl, hb, (h.block g (blk_lt hgg) (hS g rfl)).trans hgg, rest⟩
abbrev Th := Nat × Nat
def CapAt (w : World) (n cc cb : Nat) (C : List Int) : Prop :=
  ∃ rest : List Value, w.heap[cb]? = some (.cells (C.map (Value.int .i64) ++ rest).toArray 3 (0, 0)) ∧ C.length = n ∧ n + rest.length = cc
def ThAt (w : World) (n cc : Nat) (x : Th) (i : Value) (C : List Int) : Prop :=
  w.heap[x.1]? = some (.cells #[i, .slice (some ⟨x.2, 0, none⟩) n cc] 110 (0, 0)) ∧ CapAt w n cc x.2 C
theorem CapAt.keep {w w' : World} {n cc cb : Nat} {C : List Int} (h : CapAt w n cc cb C) (h1 : w'.heap[cb]? = w.heap[cb]?) : CapAt w' n cc cb C := by
  obtain ⟨r, h2, h3⟩ := h
  exact ⟨r, h1.trans h2, h3⟩
theorem CapAt.lt {w : World} {n cc cb : Nat} {C : List Int} (h : CapAt w n cc cb C) : cb < w.heap.size := by
  obtain ⟨r, h2, h3⟩ := h; exact blk_lt h2
theorem ThAt.keep {w w' : World} {n cc : Nat} {x : Th} {i : Value} {C : List Int} (h : ThAt w n cc x i C) (h1 : w'.heap[x.1]? = w.heap[x.1]?) (h2 : w'.heap[x.2]? = w.heap[x.2]?) : ThAt w' n cc x i C := ⟨h1.trans h.1, h.2.keep h2⟩
theorem ThAt.ne {w : World} {n cc : Nat} {x : Th} {i : Value} {C : List Int} (h : ThAt w n cc x i C) : x.1 ≠ x.2 := by
  obtain ⟨h1, r, h2, _⟩ := h
  exact blk_ne h1 h2 (by decide)
theorem ThAt.set {w : World} {n cc : Nat} {x : Th} {i : Value} {C : List Int} (h : ThAt w n cc x i C) (j : Value) : ThAt (w.setCell ⟨x.1, 0, none⟩ j) n cc x j C := by
  refine ⟨?_, h.2.keep (Below.heap_setCell _ _ _ _ (Ne.symm h.ne))⟩
  exact (blk_set h.1 0 j).trans rfl
def mach (mc : Nat → Value) : Obj := .cells #[mc 0, mc 1, mc 2, mc 3, mc 4, mc 5, mc 6, mc 7, mc 8, mc 9, mc 10, mc 11, mc 12, mc 13] 81 (0, 0)
def up (mc : Nat → Value) (j : Nat) (v : Value) : Nat → Value := fun i => if i = j then v else mc i
theorem mach_cell {w : World} {mb : Nat} {mc : Nat → Value} (h : w.heap[mb]? = some (mach mc)) (j : Nat) (hj : j < 14) : w.cell? ⟨mb, j, none⟩ = some (mc j) := by
  rw [blk_cell h j]
  match j, hj with
  | 0, _ => rfl
  | 1, _ => rfl
  | 2, _ => rfl
  | 3, _ => rfl
  | 4, _ => rfl
  | 5, _ => rfl
  | 6, _ => rfl
  | 7, _ => rfl
  | 8, _ => rfl
  | 9, _ => rfl
  | 10, _ => rfl
  | 11, _ => rfl
  | 12, _ => rfl
  | 13, _ => rfl
theorem mach_set {w : World} {mb : Nat} {mc : Nat → Value} (h : w.heap[mb]? = some (mach mc)) (j : Nat) (hj : j < 14) (v : Value) : (w.setCell ⟨mb, j, none⟩ v).heap[mb]? = some (mach (up mc j v)) := by
  refine (blk_set h j v).trans ?_
  match j, hj with
  | 0, _ => rfl
  | 1, _ => rfl
  | 2, _ => rfl
  | 3, _ => rfl
  | 4, _ => rfl
  | 5, _ => rfl
  | 6, _ => rfl
  | 7, _ => rfl
  | 8, _ => rfl
  | 9, _ => rfl
  | 10, _ => rfl
  | 11, _ => rfl
  | 12, _ => rfl
  | 13, _ => rfl
theorem up_same (mc : Nat → Value) (j : Nat) (v : Value) : up mc j v j = v := if_pos rfl
theorem up_ne (mc : Nat → Value) {i j : Nat} (v : Value) (h : i ≠ j) : up mc j v i = mc i := if_neg h
theorem made_ints (c : Nat) : madeCells #[Value.int .i64 0] (c * 1) = ((List.replicate c 0).map (Value.int .i64)).toArray := by
  apply Array.ext
  · simp [madeCells]
  · intro i h1 h2
    simp [madeCells, Nat.mod_one]
theorem make_ints (n c : Nat) (hn : n ≤ c) (hc : c ≤ 1000000) (W : World) : (Instr.makeSlice 27 (.int .i64 (n : Int)) (.int .i64 (c : Int))).run Tryd.prog W = .ok (.slice (some ⟨W.heap.size, 0, none⟩) n c) (W.alloc (.cells ((List.replicate c 0).map (Value.int .i64)).toArray 3)) := by
  obtain ⟨i, hi, hz, hsize, hby⟩ := info_parts iint
  have := run_make (P := Tryd.prog) W 27 3 i (.int .i64 0) Tryd.underlying27 hi hz .i64 .i64 (n : Int) (c : Int) (by omega) (by omega) (by rw [hby]; omega) (by omega)
  rw [hsize, Int.toNat_natCast, Int.toNat_natCast] at this
  rw [this, show (Value.int .i64 0).cells = #[Value.int .i64 0] from rfl, made_ints]
theorem CapAt.made {w : World} {cb n c : Nat} (hn : n ≤ c) (h : w.heap[cb]? = some (.cells ((List.replicate c 0).map (Value.int .i64)).toArray 3 (0, 0))) : CapAt w n c cb (List.replicate n 0) := by
  refine ⟨(List.replicate (c - n) 0).map (Value.int .i64), ?_, by simp, by simp; omega⟩
  rw [h, ← List.map_append, List.replicate_append_replicate, show n + (c - n) = c by omega]
structure Pool (w : World) (B n cc : Nat) (pv : Value) (pool : List Th) : Prop where
  own : w.ownsRow B 107 1 pv pool.length (pool.map fun x => .pointer (some ⟨x.1, 0, none⟩))
  th : ∀ x ∈ pool, ∃ i C, ThAt w n cc x i C
theorem own_pop {w : World} {B n cap g : Nat} {e : TypeId} {xs : List Value} {y : Value} (h : w.ownsRow B e 1 (.slice (some ⟨g, 0, none⟩) (n + 1) cap) (n + 1) (xs ++ [y])) : w.ownsRow B e 1 (.slice (some ⟨g, 0, none⟩) n cap) n xs := by
  have hl : xs.length = n := by have := h.1; simp at this; omega
  rcases h.2 with ⟨h, _⟩ | ⟨g', cap', cur, e', hb, hg, h1, h2, h3, h4⟩
  · cases h
  · cases e'
    refine ⟨by omega, .inr ⟨g, cap, cur, rfl, hb, hg, by omega, h2, h3, ?_⟩⟩
    have := congrArg (List.take n) h4
    rw [List.take_take, Nat.mul_one, Nat.min_eq_left (by omega)] at this
    rw [Nat.mul_one, this, List.take_append_of_le_length (by omega), List.take_of_length_le (by omega)]
theorem blk2 {w : World} {g : Nat} {ty : TypeId} {v0 v1 : Value} (h : w.heap[g]? = some (.cells #[v0, v1] ty (0, 0))) : w.cell? ⟨g, 0, none⟩ = some v0 ∧ w.cell? ⟨g, 1, none⟩ = some v1 := ⟨(blk_cell h 0).trans rfl, (blk_cell h 1).trans rfl⟩
theorem own_ne {w : World} {B n g cap : Nat} {xs : List Value} {mc : Nat → Value} (h : w.ownsRow B 107 1 (.slice (some ⟨g, 0, none⟩) n cap) n xs) (k : w.heap[g]? = some (mach mc)) : False := by
  rcases h.2 with ⟨h, _⟩ | ⟨g', cap', cur, e', hb, hg, _⟩
  · cases h
  · cases e'
    exact blk_ne hg k (by decide) rfl
theorem own_ne2 {w : World} {B n g cap : Nat} {xs : List Value} {cs : Array Value} (h : w.ownsRow B 107 1 (.slice (some ⟨g, 0, none⟩) n cap) n xs) (k : w.heap[g]? = some (.cells cs 110 (0, 0))) : False := by
  rcases h.2 with ⟨h, _⟩ | ⟨g', cap', cur, e', hb, hg, _⟩
  · cases h
  · cases e'
    exact blk_ne hg k (by decide) rfl
def New (w : World) (n cc : Nat) (wc : World) : Prop :=
  wc.heap[w.heap.size]? = some (.cells #[.pointer none, .slice (some ⟨w.heap.size + 1, 0, none⟩) n cc] 110 (0, 0)) ∧ CapAt wc n cc (w.heap.size + 1) (List.replicate n 0) ∧ Fr (fun _ => False) w wc
theorem New.th {w wc : World} {n cc : Nat} (h : New w n cc wc) : ThAt wc n cc (w.heap.size, w.heap.size + 1) (.pointer none) (List.replicate n 0) := ⟨h.1, h.2.1⟩
theorem New.way {w : World} {n cc : Nat} (hn : n ≤ cc) : New w n cc ((w.alloc (.cells #[.pointer none, .slice (some ⟨w.heap.size + 1, 0, none⟩) n cc] 110)).alloc (.cells (Array.replicate cc (.int .i64 0)) 3)).drew := by
  have e1 : (w.alloc (.cells #[.pointer none, .slice (some ⟨w.heap.size + 1, 0, none⟩) n cc] 110)).heap.size = w.heap.size + 1 := by simp
  refine ⟨?_, CapAt.made hn ?_, ⟨rfl, rfl, rfl, by simp [World.drew]; omega, fun i hi _ => ?_⟩⟩
  · exact (Below.heap_alloc _ _ _ (by rw [e1]; omega)).trans (heap_alloc_new w _)
  · have h := heap_alloc_new (w.alloc (.cells #[.pointer none, .slice (some ⟨w.heap.size + 1, 0, none⟩) n cc] 110)) (.cells (Array.replicate cc (.int .i64 0)) 3)
    rw [e1] at h
    refine Eq.trans (show _ = _ from h) ?_
    simp
  · exact (Below.heap_alloc _ _ _ (by rw [e1]; omega)).trans (Below.heap_alloc _ _ _ hi)
theorem own_cap {w : World} {B n g cap size : Nat} {e : TypeId} {xs : List Value} (h : w.ownsRow B e size (.slice (some ⟨g, 0, none⟩) n cap) n xs) : n ≤ cap := by
  rcases h.2 with ⟨h, _⟩ | ⟨g', cap', cur, e', hb, hg, h1, _⟩
  · cases h
  · cases e'; exact h1
set_option maxRecDepth 100000 in
set_option maxHeartbeats 4000000 in
theorem alloc_calls (w : World) (mb B n cc mcb : Nat) (mc : Nat → Value) (pool : List Th) (hm : w.heap[mb]? = some (mach mc)) (hp : Pool w B n cc (mc 6) pool) (h8 : mc 8 = .slice (some ⟨mcb, 0, none⟩) n cc) (hn : n ≤ cc) (hcc : cc ≤ 100000) (hpl : pool.length ≤ 2000000) (ip : Addr) :
    Calls Tryd.prog 57 #[.pointer (some ⟨mb, 0, none⟩), .pointer (some ip)] w fun e w' => ∃ x pool' pv' C, e = .returned (.pointer (some ⟨x.1, 0, none⟩)) ∧ ThAt w' n cc x (.pointer (some ip)) C ∧ w'.heap[mb]? = some (mach (up mc 6 pv')) ∧
      ((pool = pool' ++ [x] ∧ Fr (fun b => b = mb ∨ b = x.1) w w') ∨ (pool = [] ∧ pool' = [] ∧ w.heap.size ≤ x.1 ∧ w.heap.size ≤ x.2 ∧ Fr (fun _ => False) w w')) ∧ w'.ownsRow B 107 1 pv' pool'.length (pool'.map fun x => .pointer (some ⟨x.1, 0, none⟩)) ∧ pv'.ownBlock = (mc 6).ownBlock := by
  have hz6 := mach_cell hm 6 (by omega)
  have hz8 := mach_cell hm 8 (by omega)
  have hf6 := (blk_frozen hm 6 : w.frozen? ⟨mb, 6, none⟩ = false)
  obtain ⟨A, c, e6⟩ := owns_slice hp.own
  have HM := Lib.hid hm
  have HP := Lib.hid hp
  clear hm hp
  rcases List.eq_nil_or_concat pool with rfl | ⟨ps, x, rfl⟩
  · rw [e6] at hz6
    rw [h8] at hz8
    simp only [List.length_nil] at hz6
    have hmk := make_ints n cc hn (by omega)
    go_enter Tryd.func57, Tryd.ntmps57
    have lmb := blk_lt HM.out
    have hb1 : mb ≠ w.heap.size := by omega
    have hb2 : w.heap.size ≠ mb := by omega
    go_upto_region 7 with (fail)
    go_cut [1, 5] (fun v1 v5 wc => (v1 = .pointer (some ip) ∧ v5 = .pointer (some ⟨w.heap.size, 0, none⟩)) ∧ Hid (New w n cc wc))
    case first =>
      go_region
      all_goals
        go_wp2_with fail
        go_meet
        exact ⟨⟨rfl, rfl⟩, Lib.hid (New.way hn)⟩
    obtain ⟨⟨rfl, rfl⟩, HN⟩ := hcut
    have hy0 := (blk2 HN.out.1).1
    have hfy := blk_frozen HN.out.1 0
    go_wp2_with fail
    go_ret
    have HT := HN.out.th.set (.pointer (some ip))
    refine ⟨(w.heap.size, w.heap.size + 1), [], .slice A 0 c, _, rfl, HT, ?_, .inr ⟨trivial, rfl, Nat.le_refl _, Nat.le_succ _, ?_⟩, ?_, ?_⟩
    · have e : up mc 6 (.slice A 0 c) = mc := by
        funext i
        by_cases h : i = 6
        · subst h; rw [up_same, e6]; rfl
        · exact up_ne mc _ h
      rw [e]
      exact (Below.heap_setCell _ _ _ _ hb1).trans ((HN.out.2.2.block mb lmb (fun h => h)).trans HM.out)
    · exact HN.out.2.2.set_new _ (Nat.le_refl _)
    · have := HP.out.own
      rw [e6] at this
      exact (HN.out.2.2.set_new _ (Nat.le_refl _)).own this (fun _ _ h => h)
    · rw [e6]; rfl
  · rw [List.concat_eq_append] at *
    rw [e6] at hz6
    rw [h8] at hz8
    have hlen : (ps ++ [x]).length = ps.length + 1 := by simp
    rw [hlen] at hz6 e6 hpl
    have hown : w.ownsRow B 107 1 (.slice A (ps.length + 1) c) (ps.length + 1) (ps.map (fun x => Value.pointer (some ⟨x.1, 0, none⟩)) ++ [.pointer (some ⟨x.1, 0, none⟩)]) := by
      have := HP.out.own
      rw [e6, hlen, List.map_append] at this
      exact this
    obtain ⟨g, cap, hv, hBg, lg⟩ := hown.form (by omega)
    cases hv
    have hx := hown.cellAt ps.length (by omega)
    rw [List.getElem?_append_right (by simp), List.length_map, Nat.sub_self, List.getElem?_cons_zero] at hx
    obtain ⟨i0, C, hth⟩ := HP.out.th x (by simp)
    have HTH := Lib.hid hth
    have HOW := Lib.hid hown
    obtain ⟨hy0, _⟩ := blk2 hth.1
    have hfx := blk_frozen hth.1 0
    have hne : x.1 ≠ mb := blk_ne hth.1 HM.out (by decide)
    have hne2 := Ne.symm hne
    have hgm : g ≠ mb := by rintro rfl; exact own_ne HOW.out HM.out
    have hcap : ps.length + 1 ≤ c := own_cap HOW.out
    clear hth hown
    go_enter Tryd.func57, Tryd.ntmps57
    go_wp2_with fail
    go_ret
    have HM1 := mach_set HM.out 6 (by omega) (.slice (some ⟨g, 0, none⟩) ps.length c)
    have hgx : x.1 ≠ g := by rintro rfl; exact own_ne2 HOW.out HTH.out.1
    have hg2 : x.2 ≠ mb := by obtain ⟨_, r, h, _⟩ := HTH.out; exact blk_ne h HM.out (by decide)
    refine ⟨x, ps, .slice (some ⟨g, 0, none⟩) ps.length c, C, rfl, ThAt.set (HTH.out.keep (Below.heap_setCell _ _ _ _ hne) (Below.heap_setCell _ _ _ _ hg2)) _, ?_, .inl ⟨rfl, ?_⟩, ?_, ?_⟩
    · exact (Below.heap_setCell _ _ _ _ hne2).trans HM1
    · exact ((Fr.refl _ w).set _ (.inl rfl)).set _ (.inr rfl)
    · have h1 := own_pop HOW.out
      refine Fr.own (((Fr.refl (fun b => b = mb ∨ b = x.1) w).set _ (.inl rfl)).set _ (.inr rfl)) h1 (fun k e => ?_)
      have e2 : g = k := by simpa [Value.ownBlock] using e
      subst e2
      rintro (h | h)
      · exact hgm h
      · exact hgx h.symm
    · rw [e6]; rfl
end Go.Proofs.YtmccgfjhmbioeaaDoor.PgFnPgThreads
namespace Go.Proofs.YtmccgfjhmbioeaaDoor.PgFnPgThreads
open Go.RowKit Go.Proofs.YtmccgfjhmbioeaaDoor.EvN Go.Proofs.YtmccgfjhmbioeaaDoor.Row Go.Proofs.YtmccgfjhmbioeaaDoor.PFnPgThreads Go.Proofs.YtmccgfjhmbioeaaDoorW.PrintWords Go.Proofs.YtmccgfjhmbioeaaDoorW.PrintLast Go.Proofs.YtmccgfjhmbioeaaDoorW.PrintMore
abbrev Ae := Nat × Option (List Int)
def aF (L : List I) (cond pos : Int) : Nat → List Nat → Nat → List Int → List Ae
  | 0, _, _, _ => []
  | n + 1, D, pc, C =>
    if pc = 0 ∨ pc ∈ D then []
    else if (ins L pc).f0 = 0 then
      (pc, none) :: (aF L cond pos n (D ++ [pc]) (ins L pc).f1.toNat C ++ aF L cond pos n (D ++ pc :: (aF L cond pos n (D ++ [pc]) (ins L pc).f1.toNat C).map Prod.fst) (ins L pc).f2.toNat C)
    else if (ins L pc).f0 = 6 then (pc, none) :: aF L cond pos n (D ++ [pc]) (ins L pc).f1.toNat C
    else if (ins L pc).f0 = 2 then (pc, none) :: aF L cond pos n (D ++ [pc]) (ins L pc).f1.toNat (C.set (ins L pc).f2.toNat pos)
    else if (ins L pc).f0 = 3 then (pc, none) :: (if holds cond (ins L pc).f2 = true then aF L cond pos n (D ++ [pc]) (ins L pc).f1.toNat C else [])
    else if (ins L pc).f0 = 5 then [(pc, none)]
    else [(pc, some C)]
theorem aF_rF (L : List I) (cond pos : Int) : ∀ (n : Nat) (D : List Nat) (pc : Nat) (C : List Int), D ++ (aF L cond pos n D pc C).map Prod.fst = rF L cond n D pc := by
  intro n
  induction n with
  | zero => intro D pc C; simp [aF, rF]
  | succ n ih =>
    intro D pc C
    rw [aF, rF]
    by_cases h0 : pc = 0 ∨ pc ∈ D
    · rw [if_pos h0, if_pos h0]; simp
    · rw [if_neg h0, if_neg h0]
      by_cases g0 : (ins L pc).f0 = 0
      · rw [if_pos g0, if_pos g0]
        have h1 := ih (D ++ [pc]) (ins L pc).f1.toNat C
        have h2 := ih (D ++ pc :: (aF L cond pos n (D ++ [pc]) (ins L pc).f1.toNat C).map Prod.fst) (ins L pc).f2.toNat C
        have e : D ++ pc :: (aF L cond pos n (D ++ [pc]) (ins L pc).f1.toNat C).map Prod.fst = rF L cond n (D ++ [pc]) (ins L pc).f1.toNat := by rw [← h1]; simp
        rw [e] at h2
        rw [← h2, e, ← h1]
        simp
      · rw [if_neg g0, if_neg g0]
        by_cases g6 : (ins L pc).f0 = 6
        · rw [if_pos g6, if_pos (.inr g6), ← ih (D ++ [pc]) (ins L pc).f1.toNat C]; simp
        · rw [if_neg g6]
          by_cases g2 : (ins L pc).f0 = 2
          · rw [if_pos g2, if_pos (.inl g2), ← ih (D ++ [pc]) (ins L pc).f1.toNat (C.set (ins L pc).f2.toNat pos)]; simp
          · rw [if_neg g2, if_neg (show ¬ ((ins L pc).f0 = 2 ∨ (ins L pc).f0 = 6) from fun e => e.elim g2 g6)]
            by_cases g3 : (ins L pc).f0 = 3
            · rw [if_pos g3, if_pos g3]
              split
              · rw [← ih (D ++ [pc]) (ins L pc).f1.toNat C]; simp
              · simp
            · rw [if_neg g3, if_neg g3]
              split <;> simp
abbrev En := Nat × Option Th
def thr (E : List En) : List Th := E.filterMap (·.2)
theorem thr_append (E F : List En) : thr (E ++ F) = thr E ++ thr F := by simp [thr]
def ptrT : Option Th → Value
  | none => .pointer none
  | some x => .pointer (some ⟨x.1, 0, none⟩)
def RelE (w : World) (ad : Addr) (n cc : Nat) (e : En) (a : Ae) : Prop :=
  e.1 = a.1 ∧ match e.2, a.2 with
    | none, none => True
    | some x, some C => ThAt w n cc x (.pointer (some (ad.add (e.1 * 4)))) C
    | _, _ => False
def Rel (w : World) (ad : Addr) (n cc : Nat) : List En → List Ae → Prop
  | [], [] => True
  | e :: es, a :: bs => RelE w ad n cc e a ∧ Rel w ad n cc es bs
  | _, _ => False
theorem Rel.append {w : World} {ad : Addr} {n cc : Nat} : ∀ {E : List En} {A : List Ae} {E2 : List En} {A2 : List Ae}, Rel w ad n cc E A → Rel w ad n cc E2 A2 → Rel w ad n cc (E ++ E2) (A ++ A2)
  | [], [], _, _, _, h => h
  | [], _ :: _, _, _, h, _ => h.elim
  | _ :: _, [], _, _, h, _ => h.elim
  | _ :: _, _ :: _, _, _, h, k => ⟨h.1, h.2.append k⟩
theorem Rel.fst {w : World} {ad : Addr} {n cc : Nat} : ∀ {E : List En} {A : List Ae}, Rel w ad n cc E A → E.map Prod.fst = A.map Prod.fst
  | [], [], _ => rfl
  | [], _ :: _, h => h.elim
  | _ :: _, [], h => h.elim
  | _ :: _, _ :: _, h => by rw [List.map_cons, List.map_cons, h.1.1, Rel.fst h.2]
theorem Rel.keep {w w' : World} {ad : Addr} {n cc : Nat} : ∀ {E : List En} {A : List Ae}, Rel w ad n cc E A → (∀ x ∈ thr E, w'.heap[x.1]? = w.heap[x.1]? ∧ w'.heap[x.2]? = w.heap[x.2]?) → Rel w' ad n cc E A
  | [], [], _, _ => trivial
  | [], _ :: _, h, _ => h.elim
  | _ :: _, [], h, _ => h.elim
  | (pc, o) :: es, (pc2, c) :: bs, h, k => by
    refine ⟨⟨h.1.1, ?_⟩, Rel.keep h.2 fun x hx => k x ?_⟩
    · have h2 := h.1.2
      cases o with
      | none => cases c <;> exact h2
      | some x =>
        cases c with
        | none => exact h2
        | some C =>
          obtain ⟨k1, k2⟩ := k x (by simp [thr])
          exact ThAt.keep h2 k1 k2
    · cases o <;> simp [thr] at hx ⊢
      · exact hx
      · exact .inr hx
theorem Rel.some {w : World} {ad : Addr} {n cc : Nat} : ∀ {E : List En} {A : List Ae}, Rel w ad n cc E A → E.map (fun e => e.2.isSome) = A.map (fun a => a.2.isSome)
  | [], [], _ => rfl
  | [], _ :: _, h => h.elim
  | _ :: _, [], h => h.elim
  | (_, o) :: es, (_, c) :: bs, h => by
    rw [List.map_cons, List.map_cons, Rel.some h.2]
    have h2 := h.1.2
    cases o <;> cases c <;> first | rfl | exact h2.elim
def Prg (w : World) (L : List I) (p : Nat) (ad : Addr) : Prop :=
  ∃ cap st nc, w.heap[p]? = some (.cells #[.slice (some ad) L.length cap, .int .i64 st, .int .i64 nc] 93 (0, 0)) ∧ L.length ≤ cap ∧
    ∀ k, k < L.length → ∃ A3 c3, w.cell? (ad.add (k * 4)) = some (.int .u8 (pin (ins L k)).f0) ∧ w.cell? ⟨(ad.add (k * 4)).block, (ad.add (k * 4)).off + 1, none⟩ = some (.int .u32 (pin (ins L k)).f1) ∧ w.cell? ⟨(ad.add (k * 4)).block, (ad.add (k * 4)).off + 2, none⟩ = some (.int .u32 (pin (ins L k)).f2) ∧ w.cell? ⟨(ad.add (k * 4)).block, (ad.add (k * 4)).off + 3, none⟩ = some (.slice A3 (pin (ins L k)).f3.length c3) ∧
      (pin (ins L k)).f3.length ≤ c3 ∧ Kd.C (Kd.int .i32) w A3 (pin (ins L k)).f3.length (pin (ins L k)).f3
theorem ProgAt.prg {w : World} {p : Nat} {L : List I} {st nc : Int} (h : ProgAt w p L st nc) (h1 : 1 ≤ L.length) : ∃ ad, Prg w L p ad := by
  obtain ⟨ad, cap, a, b, _, d⟩ := pinst_at h h1
  exact ⟨ad, cap, st, nc, a, b, d⟩
theorem Prg.below {w w' : World} {L : List I} {p : Nat} {ad : Addr} (h : Prg w L p ad) (hb : Below w.heap.size w w') : Prg w' L p ad := by
  obtain ⟨cap, st, nc, a, b, c⟩ := h
  refine ⟨cap, st, nc, blk_below a hb, b, fun k hk => ?_⟩
  obtain ⟨A3, c3, x0, x1, x2, x3, l, g⟩ := c k hk
  have kc : ∀ {a : Addr} {v : Value}, w.cell? a = some v → w'.cell? a = some v := fun hc => (hb.cell (World.block_lt_of_cell? w _ hc)).trans hc
  exact ⟨A3, c3, kc x0, kc x1, kc x2, kc x3, l, Kd.C_below g hb⟩
structure MS (N : Nat) (W0 w : World) (p mb qo sp de lf S n cc : Nat) (F : Int) (mc : Nat → Value) (E : List En) (pool out : List Th) : Prop where
  ma : w.heap[mb]? = some (mach mc)
  m1 : mc 1 = .pointer (some ⟨p, 0, none⟩)
  m8 : ∃ mcb, mc 8 = .slice (some ⟨mcb, 0, none⟩) n cc
  q2 : qo = 2 ∨ qo = 4
  mq : mc qo = .slice (some ⟨sp, 0, none⟩) S S
  md : mc (qo + 1) = .slice (some ⟨de, 0, none⟩) E.length S
  sa : ∃ sa : Array Value, w.heap[sp]? = some (.cells sa 96 (0, 0)) ∧ sa.size = S ∧ (∀ i, i < S → ∃ v, sa[i]? = some (.int .u32 v) ∧ 0 ≤ v ∧ v < 4294967296) ∧ ∀ (i : Nat) (e : En), E[i]? = some e → sa[e.1]? = some (.int .u32 i)
  da : ∃ da : Array Value, w.heap[de]? = some (.cells da 137 (0, 0)) ∧ da.size = S * 2 ∧ ∀ (i : Nat) (e : En), E[i]? = some e → da[i * 2]? = some (.int .u32 e.1) ∧ da[i * 2 + 1]? = some (ptrT e.2)
  fl : w.heap[lf]? = some (.cells #[.int .u64 F] 118 (0, 0))
  pl : Pool w W0.heap.size n cc (mc 6) pool
  th : ∀ x ∈ thr E ++ out, ∃ i C, ThAt w n cc x i C
  n1 : ((thr E ++ (out ++ pool)).map Prod.fst).Nodup
  n2 : ((thr E ++ (out ++ pool)).map Prod.snd).Nodup
  lo : W0.heap.size ≤ mb ∧ W0.heap.size ≤ sp ∧ W0.heap.size ≤ de ∧ ∀ x ∈ thr E ++ (out ++ pool), W0.heap.size ≤ x.1 ∧ W0.heap.size ≤ x.2
  bl : Below W0.heap.size W0 w
  fi : Fine N (E.map Prod.fst)
  ls : N ≤ S
  lm : S ≤ 1000000
  nc : n ≤ cc
  cm : cc ≤ 100000
  pm : pool.length ≤ 2000000
section
variable {N : Nat} {W0 w : World} {p mb qo sp de lf S n cc : Nat} {F : Int} {mc : Nat → Value} {E : List En} {pool out : List Th}
theorem MS.len (h : MS N W0 w p mb qo sp de lf S n cc F mc E pool out) : E.length ≤ N := by have := h.fi.len; simpa using this
theorem MS.sp_ne (h : MS N W0 w p mb qo sp de lf S n cc F mc E pool out) : sp ≠ mb ∧ sp ≠ de ∧ de ≠ mb ∧ lf ≠ mb ∧ lf ≠ sp ∧ lf ≠ de := by
  obtain ⟨sa, h1, _⟩ := h.sa
  obtain ⟨da, h2, _⟩ := h.da
  exact ⟨blk_ne h1 h.ma (by decide), blk_ne h1 h2 (by decide), blk_ne h2 h.ma (by decide), blk_ne h.fl h.ma (by decide), blk_ne h.fl h1 (by decide), blk_ne h.fl h2 (by decide)⟩
theorem MS.th_all (h : MS N W0 w p mb qo sp de lf S n cc F mc E pool out) : ∀ x ∈ thr E ++ (out ++ pool), ∃ i C, ThAt w n cc x i C := by
  intro x hx
  rw [← List.append_assoc] at hx
  rcases List.mem_append.1 hx with hx | hx
  · exact h.th x hx
  · exact h.pl.th x hx
theorem ThAt.far {w : World} {n cc : Nat} {x : Th} {i : Value} {C : List Int} (h : ThAt w n cc x i C) {g : Nat} {cs : Array Value} {t : TypeId} (hg : w.heap[g]? = some (.cells cs t (0, 0))) (h1 : t ≠ 110) (h2 : t ≠ 3) : x.1 ≠ g ∧ x.2 ≠ g := by
  obtain ⟨k1, r, k2, _⟩ := h
  exact ⟨blk_ne k1 hg (Ne.symm h1), blk_ne k2 hg (Ne.symm h2)⟩
theorem MS.th_ne (h : MS N W0 w p mb qo sp de lf S n cc F mc E pool out) {x : Th} {i : Value} {C : List Int} (hx : ThAt w n cc x i C) : (x.1 ≠ mb ∧ x.2 ≠ mb) ∧ (x.1 ≠ sp ∧ x.2 ≠ sp) ∧ (x.1 ≠ de ∧ x.2 ≠ de) ∧ x.1 ≠ lf ∧ x.2 ≠ lf := by
  obtain ⟨sa, h1, _⟩ := h.sa
  obtain ⟨da, h2, _⟩ := h.da
  exact ⟨hx.far h.ma (by decide) (by decide), hx.far h1 (by decide) (by decide), hx.far h2 (by decide) (by decide), hx.far h.fl (by decide) (by decide)⟩
theorem MS.pool_ne (h : MS N W0 w p mb qo sp de lf S n cc F mc E pool out) : ∀ g, (mc 6).ownBlock = some g → g ≠ mb ∧ g ≠ sp ∧ g ≠ de ∧ ∀ x i C, ThAt w n cc x i C → g ≠ x.1 ∧ g ≠ x.2 := by
  intro g hg
  rcases h.pl.own.2 with ⟨e, _⟩ | ⟨g', cap, cur, e, hb, hgg, _⟩
  · rw [e] at hg; simp [Value.ownBlock] at hg
  · rw [e] at hg
    have e2 : g' = g := by simpa [Value.ownBlock] using hg
    subst e2
    obtain ⟨sa, h1, _⟩ := h.sa
    obtain ⟨da, h2, _⟩ := h.da
    exact ⟨blk_ne hgg h.ma (by decide), blk_ne hgg h1 (by decide), blk_ne hgg h2 (by decide), fun x i C hx => ⟨blk_ne hgg hx.1 (by decide), by obtain ⟨_, r, k, _⟩ := hx; exact blk_ne hgg k (by decide)⟩⟩
def push (w : World) (mb qo sp de S j pc : Nat) : World :=
  (((w.setCell ⟨mb, qo + 1, none⟩ (.slice (some ⟨de, 0, none⟩) (j + 1) S)).setCell ⟨de, j * 2 + 1, none⟩ (.pointer none)).setCell ⟨de, j * 2, none⟩ (.int .u32 pc)).setCell ⟨sp, pc, none⟩ (.int .u32 j)
theorem push_fr (w : World) (mb qo sp de S j pc : Nat) : Fr (fun b => b = mb ∨ b = sp ∨ b = de) w (push w mb qo sp de S j pc) :=
  ((((Fr.refl _ w).set _ (.inl rfl)).set _ (.inr (.inr rfl))).set _ (.inr (.inr rfl))).set _ (.inr (.inl rfl))
theorem MS.push (h : MS N W0 w p mb qo sp de lf S n cc F mc E pool out) (pc : Nat) (hpc : pc < N) (hd : pc ∉ E.map Prod.fst) :
    MS N W0 (push w mb qo sp de S E.length pc) p mb qo sp de lf S n cc F (up mc (qo + 1) (.slice (some ⟨de, 0, none⟩) (E.length + 1) S)) (E ++ [(pc, none)]) pool out := by
  obtain ⟨e1, e2, e3, e4, e5, e6⟩ := h.sp_ne
  have hfr := push_fr w mb qo sp de S E.length pc
  have hfi := h.fi.add hpc hd
  have hlen : E.length < N := by have := hfi.len; simp at this; omega
  have hls := h.ls
  have hqo := h.q2
  have ht : thr (E ++ [(pc, none)]) = thr E := by simp [thr]
  have hkeep : ∀ {x : Th} {i : Value} {C : List Int}, ThAt w n cc x i C → ThAt (PgFnPgThreads.push w mb qo sp de S E.length pc) n cc x i C := fun {x i C} hx => by
    obtain ⟨k1, k2, k3, _⟩ := h.th_ne hx
    have l1 := blk_lt hx.1
    have l2 := hx.2.lt
    exact hx.keep (hfr.block _ l1 (by rintro (a | a | a); exact k1.1 a; exact k2.1 a; exact k3.1 a)) (hfr.block _ l2 (by rintro (a | a | a); exact k1.2 a; exact k2.2 a; exact k3.2 a))
  have u6 : up mc (qo + 1) (.slice (some ⟨de, 0, none⟩) (E.length + 1) S) 6 = mc 6 := up_ne _ _ (by omega)
  refine ⟨?_, ?_, ?_, h.q2, ?_, ?_, ?_, ?_, ?_, ?_, ?_, ?_, ?_, ?_, ?_, ?_, h.ls, h.lm, h.nc, h.cm, h.pm⟩
  · have := mach_set h.ma (qo + 1) (by omega) (.slice (some ⟨de, 0, none⟩) (E.length + 1) S)
    exact (Below.heap_setCell _ _ _ _ (Ne.symm e1)).trans ((Below.heap_setCell _ _ _ _ (Ne.symm e3)).trans ((Below.heap_setCell _ _ _ _ (Ne.symm e3)).trans this))
  · rw [up_ne _ _ (by omega)]; exact h.m1
  · rw [up_ne _ _ (by omega)]; exact h.m8
  · rw [up_ne _ _ (by omega)]; exact h.mq
  · rw [up_same]; simp
  · obtain ⟨sa, h1, h2, h3, h4⟩ := h.sa
    have hb : (((w.setCell ⟨mb, qo + 1, none⟩ (.slice (some ⟨de, 0, none⟩) (E.length + 1) S)).setCell ⟨de, E.length * 2 + 1, none⟩ (.pointer none)).setCell ⟨de, E.length * 2, none⟩ (.int .u32 pc)).heap[sp]? = some (.cells sa 96 (0, 0)) :=
      (Below.heap_setCell _ _ _ _ e2).trans ((Below.heap_setCell _ _ _ _ e2).trans ((Below.heap_setCell _ _ _ _ e1).trans h1))
    refine ⟨sa.setIfInBounds pc (.int .u32 E.length), blk_set hb pc _, by simpa using h2, fun i hi => ?_, fun i e he => ?_⟩
    · by_cases hip : i = pc
      · subst hip
        exact ⟨E.length, by rw [Array.getElem?_setIfInBounds_self_of_lt (by omega)], by omega, by have := h.lm; omega⟩
      · rw [Array.getElem?_setIfInBounds_ne (Ne.symm hip)]; exact h3 i hi
    · by_cases hi : i < E.length
      · rw [List.getElem?_append_left hi] at he
        have : e.1 ≠ pc := fun e' => hd (e' ▸ List.mem_map_of_mem (List.mem_of_getElem? he))
        rw [Array.getElem?_setIfInBounds_ne (Ne.symm this)]
        exact h4 i e he
      · rw [List.getElem?_append_right (by omega)] at he
        have hi2 : i - E.length = 0 := by
          rcases Nat.eq_zero_or_pos (i - E.length) with h | h
          · exact h
          · rw [List.getElem?_eq_none (by simp; omega)] at he; cases he
        rw [hi2] at he
        cases he
        have : i = E.length := by omega
        subst this
        rw [Array.getElem?_setIfInBounds_self_of_lt (by omega)]
  · obtain ⟨da, h1, h2, h3⟩ := h.da
    have hb0 : (w.setCell ⟨mb, qo + 1, none⟩ (.slice (some ⟨de, 0, none⟩) (E.length + 1) S)).heap[de]? = some (.cells da 137 (0, 0)) := (Below.heap_setCell _ _ _ _ e3).trans h1
    have hb1 := blk_set (blk_set hb0 (E.length * 2 + 1) (.pointer none)) (E.length * 2) (.int .u32 pc)
    refine ⟨_, (Below.heap_setCell _ _ _ _ (Ne.symm e2)).trans hb1, by simpa using h2, fun i e he => ?_⟩
    by_cases hi : i < E.length
    · rw [List.getElem?_append_left hi] at he
      rw [Array.getElem?_setIfInBounds_ne (by omega), Array.getElem?_setIfInBounds_ne (by omega), Array.getElem?_setIfInBounds_ne (by omega), Array.getElem?_setIfInBounds_ne (by omega)]
      exact h3 i e he
    · rw [List.getElem?_append_right (by omega)] at he
      have hi2 : i - E.length = 0 := by
        rcases Nat.eq_zero_or_pos (i - E.length) with h | h
        · exact h
        · rw [List.getElem?_eq_none (by simp; omega)] at he; cases he
      rw [hi2] at he
      cases he
      have : i = E.length := by omega
      subst this
      refine ⟨?_, ?_⟩
      · rw [Array.getElem?_setIfInBounds_self_of_lt (by simp; omega)]
      · rw [Array.getElem?_setIfInBounds_ne (by omega), Array.getElem?_setIfInBounds_self_of_lt (by omega)]; rfl
  · exact (hfr.block lf (blk_lt h.fl) (by rintro (a | a | a); exact e4 a; exact e5 a; exact e6 a)).trans h.fl
  · rw [u6]
    refine ⟨hfr.own h.pl.own (fun g hg => ?_), fun x hx => ?_⟩
    · obtain ⟨a1, a2, a3, _⟩ := h.pool_ne g hg
      rintro (a | a | a)
      exact a1 a; exact a2 a; exact a3 a
    · obtain ⟨i, C, hC⟩ := h.pl.th x hx
      exact ⟨i, C, hkeep hC⟩
  · rw [ht]
    intro x hx
    obtain ⟨i, C, hC⟩ := h.th x hx
    exact ⟨i, C, hkeep hC⟩
  · rw [ht]; exact h.n1
  · rw [ht]; exact h.n2
  · rw [ht]; exact h.lo
  · exact h.bl.trans (hfr.to_below h.bl.size (by rintro i (a | a | a); exact a ▸ h.lo.1; exact a ▸ h.lo.2.1; exact a ▸ h.lo.2.2.1))
  · rw [List.map_append]; exact hfi
end
end Go.Proofs.YtmccgfjhmbioeaaDoor.PgFnPgThreads
namespace Go.Proofs.YtmccgfjhmbioeaaDoor.PgFnPgThreads
open Go.RowKit Go.Proofs.YtmccgfjhmbioeaaDoor.EvN Go.Proofs.YtmccgfjhmbioeaaDoor.Row Go.Proofs.YtmccgfjhmbioeaaDoor.PFnPgThreads Go.Proofs.YtmccgfjhmbioeaaDoorW.PrintWords Go.Proofs.YtmccgfjhmbioeaaDoorW.PrintLast Go.Proofs.YtmccgfjhmbioeaaDoorW.PrintMore
section
variable {N : Nat} {W0 w w' : World} {p mb qo sp de lf S n cc : Nat} {F : Int} {mc : Nat → Value} {E : List En} {pool out : List Th}
theorem MS.mod (h : MS N W0 w p mb qo sp de lf S n cc F mc E pool out) {b : Nat} (hfr : Fr (fun i => i = b) w w') (hb : W0.heap.size ≤ b) (h1 : b ≠ mb) (h2 : b ≠ sp) (h3 : b ≠ de) (h4 : b ≠ lf) (h5 : (mc 6).ownBlock ≠ some b)
    (hth : ∀ x i C, ThAt w n cc x i C → ∃ i C, ThAt w' n cc x i C) : MS N W0 w' p mb qo sp de lf S n cc F mc E pool out := by
  have kp : ∀ {g : Nat} {o : Obj}, w.heap[g]? = some o → b ≠ g → w'.heap[g]? = some o := fun hg hne => (hfr.block _ (blk_lt hg) (Ne.symm hne)).trans hg
  obtain ⟨sa, s1, s2⟩ := h.sa
  obtain ⟨da, d1, d2⟩ := h.da
  refine ⟨kp h.ma h1, h.m1, h.m8, h.q2, h.mq, h.md, ⟨sa, kp s1 h2, s2⟩, ⟨da, kp d1 h3, d2⟩, kp h.fl h4, ⟨hfr.own h.pl.own (fun g hg e => h5 (by rw [hg]; exact congrArg some e)), fun x hx => ?_⟩, fun x hx => ?_, h.n1, h.n2, h.lo, h.bl.trans (hfr.to_below h.bl.size (fun i e => by rw [e]; exact hb)), h.fi, h.ls, h.lm, h.nc, h.cm, h.pm⟩
  · obtain ⟨i, C, hC⟩ := h.pl.th x hx; exact hth x i C hC
  · obtain ⟨i, C, hC⟩ := h.th x hx; exact hth x i C hC
theorem MS.cap (h : MS N W0 w p mb qo sp de lf S n cc F mc E pool out) {b : Nat} {C C' : List Int} (hc : CapAt w n cc b C) (hfr : Fr (fun i => i = b) w w') (hb : W0.heap.size ≤ b) (hc' : CapAt w' n cc b C') : MS N W0 w' p mb qo sp de lf S n cc F mc E pool out := by
  obtain ⟨r, k1, _⟩ := hc
  obtain ⟨sa, s1, _⟩ := h.sa
  obtain ⟨da, d1, _⟩ := h.da
  refine h.mod hfr hb (blk_ne k1 h.ma (by decide)) (blk_ne k1 s1 (by decide)) (blk_ne k1 d1 (by decide)) (blk_ne k1 h.fl (by decide)) (fun e => ?_) (fun x i C hx => ?_)
  · rcases h.pl.own.2 with ⟨e2, _⟩ | ⟨g', cap, cur, e2, _, hgg, _⟩
    · rw [e2] at e; simp [Value.ownBlock] at e
    · rw [e2] at e
      have e3 : g' = b := by simpa [Value.ownBlock] using e
      exact blk_ne hgg k1 (by decide) e3
  · have hne : x.1 ≠ b := blk_ne hx.1 k1 (by decide)
    have hx1 := (hfr.block x.1 (blk_lt hx.1) hne).trans hx.1
    by_cases e : x.2 = b
    · exact ⟨i, C', hx1, e ▸ hc'⟩
    · exact ⟨i, C, hx1, hx.2.keep (hfr.block _ hx.2.lt e)⟩
theorem MS.inst (h : MS N W0 w p mb qo sp de lf S n cc F mc E pool out) {x : Th} {i : Value} {C : List Int} (hx : ThAt w n cc x i C) (hb : W0.heap.size ≤ x.1) (j : Value) : MS N W0 (w.setCell ⟨x.1, 0, none⟩ j) p mb qo sp de lf S n cc F mc E pool out := by
  obtain ⟨k1, k2, k3, k4, _⟩ := h.th_ne hx
  refine h.mod ((Fr.refl _ w).set _ rfl) hb k1.1 k2.1 k3.1 k4 (fun e => ((h.pool_ne _ e).2.2.2 x i C hx).1 rfl) (fun y i2 C2 hy => ?_)
  by_cases e : y.1 = x.1
  · have e2 : y.2 = x.2 := by
      have := hy.1
      rw [e, hx.1] at this
      simp only [Option.some.injEq, Obj.cells.injEq, Array.mk.injEq, List.cons.injEq, Value.slice.injEq, Addr.mk.injEq, and_true] at this
      exact this.2.symm
    obtain ⟨y1, y2⟩ := y
    simp only at e e2
    subst e; subst e2
    exact ⟨j, C, hx.set j⟩
  · refine ⟨i2, C2, hy.keep (Below.heap_setCell _ _ _ _ e) (Below.heap_setCell _ _ _ _ ?_)⟩
    obtain ⟨_, r, k, _⟩ := hy
    exact blk_ne k hx.1 (by decide)
theorem MS.leaf {pc : Nat} {x : Th} (h : MS N W0 w p mb qo sp de lf S n cc F mc (E ++ [(pc, none)]) pool (x :: out)) :
    MS N W0 (w.setCell ⟨de, E.length * 2 + 1, none⟩ (ptrT (some x))) p mb qo sp de lf S n cc F mc (E ++ [(pc, some x)]) pool out := by
  obtain ⟨e1, e2, e3, e4, e5, e6⟩ := h.sp_ne
  have hfr : Fr (fun b => b = de) w (w.setCell ⟨de, E.length * 2 + 1, none⟩ (ptrT (some x))) := (Fr.refl _ w).set _ rfl
  have kp : ∀ {g : Nat} {o : Obj}, w.heap[g]? = some o → g ≠ de → (w.setCell ⟨de, E.length * 2 + 1, none⟩ (ptrT (some x))).heap[g]? = some o := fun hg hne => (hfr.block _ (blk_lt hg) hne).trans hg
  have kt : ∀ {y : Th} {i : Value} {C : List Int}, ThAt w n cc y i C → ThAt (w.setCell ⟨de, E.length * 2 + 1, none⟩ (ptrT (some x))) n cc y i C := fun {y i C} hx => by
    obtain ⟨_, _, k3, _⟩ := h.th_ne hx
    exact hx.keep (Below.heap_setCell _ _ _ _ k3.1) (Below.heap_setCell _ _ _ _ k3.2)
  have t1 : thr (E ++ [(pc, none)]) = thr E := by simp [thr]
  have t2 : thr (E ++ [(pc, some x)]) = thr E ++ [x] := by simp [thr]
  have hlen : E.length < S := by have h1 := h.len; have h2 := h.ls; rw [List.length_append, List.length_singleton] at h1; omega
  obtain ⟨sa, s1, s2, s3, s4⟩ := h.sa
  obtain ⟨da, d1, d2, d3⟩ := h.da
  have g1 := h.n1; have g2 := h.n2; have g3 := h.lo; have g4 := h.th
  rw [t1] at g1 g2 g3 g4
  have e : thr E ++ (x :: out ++ pool) = thr E ++ [x] ++ (out ++ pool) := by simp
  rw [e] at g1 g2 g3
  refine ⟨kp h.ma (Ne.symm e3), h.m1, h.m8, h.q2, h.mq, ?_, ⟨sa, kp s1 e2, s2, s3, fun i y hy => ?_⟩, ⟨_, blk_set d1 _ _, by simpa using d2, fun i y hy => ?_⟩, kp h.fl e6, ⟨hfr.own h.pl.own (fun g hg e => (h.pool_ne g hg).2.2.1 e), fun y hy => ?_⟩, ?_, by rw [t2]; exact g1, by rw [t2]; exact g2, by rw [t2]; exact g3, h.bl.trans (hfr.to_below h.bl.size (fun i e => by rw [e]; exact h.lo.2.2.1)), ?_, h.ls, h.lm, h.nc, h.cm, h.pm⟩
  · have := h.md; simpa using this
  · by_cases hi : i < E.length
    · exact s4 i y (by rw [List.getElem?_append_left hi] at hy ⊢; exact hy)
    · have hy2 := hy
      rw [List.getElem?_append_right (by omega)] at hy
      cases hq : i - E.length with
      | zero =>
        rw [hq] at hy
        cases hy
        exact s4 i (pc, none) (by rw [List.getElem?_append_right (by omega), hq]; rfl)
      | succ k => rw [hq] at hy; simp at hy
  · by_cases hi : i < E.length
    · have := d3 i y (by rw [List.getElem?_append_left hi] at hy ⊢; exact hy)
      rw [Array.getElem?_setIfInBounds_ne (by omega), Array.getElem?_setIfInBounds_ne (by omega)]
      exact this
    · rw [List.getElem?_append_right (by omega)] at hy
      cases hq : i - E.length with
      | zero =>
        rw [hq] at hy
        cases hy
        have hi2 : i = E.length := by omega
        subst hi2
        have := d3 E.length (pc, none) (by rw [List.getElem?_append_right (by omega), Nat.sub_self]; rfl)
        rw [Array.getElem?_setIfInBounds_ne (by omega), Array.getElem?_setIfInBounds_self_of_lt (by omega)]
        exact ⟨this.1, rfl⟩
      | succ k => rw [hq] at hy; simp at hy
  · obtain ⟨i, C, hC⟩ := h.pl.th y hy; exact ⟨i, C, kt hC⟩
  · rw [t2]
    intro y hy
    obtain ⟨i, C, hC⟩ := g4 y (by simpa using hy)
    exact ⟨i, C, kt hC⟩
  · have := h.fi; simpa using this
theorem MS.pop {x : Th} {pool' : List Th} {pv' : Value} (h : MS N W0 w p mb qo sp de lf S n cc F mc E pool out) (hma : w'.heap[mb]? = some (mach (up mc 6 pv'))) (he : pool = pool' ++ [x]) (hfr : Fr (fun b => b = mb ∨ b = x.1) w w') {i : Value} {C : List Int} (hx : ThAt w' n cc x i C)
    (hown : w'.ownsRow W0.heap.size 107 1 pv' pool'.length (pool'.map fun x => .pointer (some ⟨x.1, 0, none⟩))) : MS N W0 w' p mb qo sp de lf S n cc F (up mc 6 pv') E pool' (x :: out) := by
  subst he
  obtain ⟨e1, e2, e3, e4, e5, e6⟩ := h.sp_ne
  obtain ⟨i0, C0, hx0⟩ := h.pl.th x (by simp)
  obtain ⟨k1, k2, k3, k4, k5⟩ := h.th_ne hx0
  have kp : ∀ {g : Nat} {o : Obj}, w.heap[g]? = some o → g ≠ mb → x.1 ≠ g → w'.heap[g]? = some o := fun hg a b => (hfr.block _ (blk_lt hg) (by rintro (e | e); exact a e; exact b e.symm)).trans hg
  obtain ⟨sa, s1, s2⟩ := h.sa
  obtain ⟨da, d1, d2⟩ := h.da
  have hq := h.q2
  have u : ∀ i, i ≠ 6 → up mc 6 pv' i = mc i := fun i hi => up_ne _ _ hi
  have hperm : (thr E ++ (x :: out ++ pool')).Perm (thr E ++ (out ++ (pool' ++ [x]))) := by
    refine List.Perm.append_left _ ?_
    rw [← List.append_assoc]
    exact (List.perm_append_singleton x (out ++ pool')).symm
  have kt : ∀ {y : Th}, y ∈ thr E ++ (out ++ pool') → (∃ i C, ThAt w n cc y i C) → ∃ i C, ThAt w' n cc y i C := fun {y} hy ⟨i, C, hC⟩ => by
    have hne : y.1 ≠ x.1 := by
      intro e
      have hn := h.n1
      rw [← List.append_assoc, ← List.append_assoc, List.map_append, List.nodup_append] at hn
      refine hn.2.2 y.1 (List.mem_map_of_mem (by rwa [List.append_assoc])) x.1 (by simp) e
    have hn2 : y.2 ≠ x.1 := by obtain ⟨_, r, k, _⟩ := hC; exact blk_ne k hx0.1 (by decide)
    obtain ⟨c1, _⟩ := h.th_ne hC
    exact ⟨i, C, hC.keep (hfr.block _ (blk_lt hC.1) (by rintro (e | e); exact c1.1 e; exact hne e)) (hfr.block _ hC.2.lt (by rintro (e | e); exact c1.2 e; exact hn2 e))⟩
  refine ⟨hma, by rw [u 1 (by omega)]; exact h.m1, by rw [u 8 (by omega)]; exact h.m8, h.q2, by rw [u qo (by omega)]; exact h.mq, by rw [u (qo + 1) (by omega)]; exact h.md, ⟨sa, kp s1 e1 k2.1, s2⟩, ⟨da, kp d1 e3 k3.1, d2⟩, kp h.fl e4 k4, ⟨by rw [up_same]; exact hown, fun y hy => ?_⟩, fun y hy => ?_, ?_, ?_, ?_, h.bl.trans (hfr.to_below h.bl.size ?_), h.fi, h.ls, h.lm, h.nc, h.cm, by have := h.pm; simp at this; omega⟩
  · exact kt (by simp [hy]) (h.pl.th y (by simp [hy]))
  · rcases List.mem_append.1 hy with hy1 | hy1
    · exact kt (by simp [hy1]) (h.th y (by simp [hy1]))
    · rcases List.mem_cons.1 hy1 with e | hy2
      · subst e; exact ⟨i, C, hx⟩
      · exact kt (by simp [hy2]) (h.th y (by simp [hy2]))
  · exact ((hperm.map Prod.fst).nodup_iff).2 h.n1
  · exact ((hperm.map Prod.snd).nodup_iff).2 h.n2
  · exact ⟨h.lo.1, h.lo.2.1, h.lo.2.2.1, fun y hy => h.lo.2.2.2 y (hperm.mem_iff.1 hy)⟩
  · rintro b (e | e)
    · rw [e]; exact h.lo.1
    · rw [e]; exact (h.lo.2.2.2 x (by simp)).1
theorem MS.fresh {x : Th} {pv' : Value} (h : MS N W0 w p mb qo sp de lf S n cc F mc E [] out) (hma : w'.heap[mb]? = some (mach (up mc 6 pv'))) (h1 : w.heap.size ≤ x.1) (h2 : w.heap.size ≤ x.2) (hfr : Fr (fun _ => False) w w') {i : Value} {C : List Int} (hx : ThAt w' n cc x i C)
    (hown : w'.ownsRow W0.heap.size 107 1 pv' 0 []) : MS N W0 w' p mb qo sp de lf S n cc F (up mc 6 pv') E [] (x :: out) := by
  have kp : ∀ {g : Nat} {o : Obj}, w.heap[g]? = some o → w'.heap[g]? = some o := fun hg => (hfr.block _ (blk_lt hg) (fun h => h)).trans hg
  obtain ⟨sa, s1, s2⟩ := h.sa
  obtain ⟨da, d1, d2⟩ := h.da
  have hq := h.q2
  have u : ∀ i, i ≠ 6 → up mc 6 pv' i = mc i := fun i hi => up_ne _ _ hi
  have kt : ∀ {y : Th}, (∃ i C, ThAt w n cc y i C) → ∃ i C, ThAt w' n cc y i C := fun {y} ⟨i, C, hC⟩ => ⟨i, C, hC.keep (hfr.block _ (blk_lt hC.1) (fun h => h)) (hfr.block _ hC.2.lt (fun h => h))⟩
  have hperm : (x :: (thr E ++ (out ++ []))).Perm (thr E ++ (x :: out ++ [])) := by
    rw [List.cons_append]; exact List.perm_middle.symm
  have hbs := h.bl.size
  refine ⟨hma, by rw [u 1 (by omega)]; exact h.m1, by rw [u 8 (by omega)]; exact h.m8, h.q2, by rw [u qo (by omega)]; exact h.mq, by rw [u (qo + 1) (by omega)]; exact h.md, ⟨sa, kp s1, s2⟩, ⟨da, kp d1, d2⟩, kp h.fl, ⟨by rw [up_same]; exact hown, fun y hy => by cases hy⟩, fun y hy => ?_, ?_, ?_, ?_, h.bl.trans (hfr.to_below h.bl.size (fun _ h => h.elim)), h.fi, h.ls, h.lm, h.nc, h.cm, h.pm⟩
  · rcases List.mem_append.1 hy with hy1 | hy1
    · exact kt (h.th y (by simp [hy1]))
    · rcases List.mem_cons.1 hy1 with e | hy2
      · subst e; exact ⟨i, C, hx⟩
      · exact kt (h.th y (by simp [hy2]))
  · refine ((hperm.map Prod.fst).nodup_iff).1 (List.nodup_cons.2 ⟨fun hm => ?_, h.n1⟩)
    obtain ⟨y, hy, e⟩ := List.mem_map.1 hm
    obtain ⟨i, C, hC⟩ := h.th_all y hy
    have := blk_lt hC.1
    omega
  · refine ((hperm.map Prod.snd).nodup_iff).1 (List.nodup_cons.2 ⟨fun hm => ?_, h.n2⟩)
    obtain ⟨y, hy, e⟩ := List.mem_map.1 hm
    obtain ⟨i, C, hC⟩ := h.th_all y hy
    have := hC.2.lt
    omega
  · refine ⟨h.lo.1, h.lo.2.1, h.lo.2.2.1, fun y hy => ?_⟩
    rcases List.mem_cons.1 (hperm.mem_iff.2 hy) with e | hy
    · subst e; omega
    · exact h.lo.2.2.2 y hy
end
end Go.Proofs.YtmccgfjhmbioeaaDoor.PgFnPgThreads
namespace Go.Proofs.YtmccgfjhmbioeaaDoor.PgFnPgThreads
open Go.RowKit Go.Proofs.YtmccgfjhmbioeaaDoor.EvN Go.Proofs.YtmccgfjhmbioeaaDoor.Row Go.Proofs.YtmccgfjhmbioeaaDoor.PFnPgThreads Go.Proofs.YtmccgfjhmbioeaaDoorW.PrintWords Go.Proofs.YtmccgfjhmbioeaaDoorW.PrintLast Go.Proofs.YtmccgfjhmbioeaaDoorW.PrintMore
def touched (mb sp de : Nat) (pool : List Th) (t : Option Th) : Nat → Prop := fun b => b = mb ∨ b = sp ∨ b = de ∨ (∃ x ∈ pool, b = x.1 ∨ b = x.2) ∨ (∃ x, t = some x ∧ b = x.1)
section
variable {N : Nat} {W0 w w1 w2 : World} {p mb qo sp de lf S n cc : Nat} {F : Int} {ad : Addr} {mc mc1 mc2 : Nat → Value} {E : List En} {pool pool1 pool2 out : List Th} {t t1 t2 : Option Th} {A A1 A2 : List Ae} {new1 new2 : List En}
structure AR (N : Nat) (W0 : World) (p mb qo sp de lf S n cc : Nat) (F : Int) (ad : Addr) (A : List Ae) (w : World) (mc : Nat → Value) (E : List En) (pool : List Th) (t : Option Th) (out : List Th) (w' : World) (mc' : Nat → Value) (new : List En) (pool' : List Th) (t' : Option Th) : Prop where
  ms : MS N W0 w' p mb qo sp de lf S n cc F mc' (E ++ new) pool' (t'.toList ++ out)
  rel : Rel w' ad n cc new A
  tt : t' = t ∨ t' = none
  pp : ∃ r, pool = pool' ++ r
  nt : ∀ x ∈ thr new, x ∈ pool ∨ t = some x ∨ (w.heap.size ≤ x.1 ∧ w.heap.size ≤ x.2)
  fr : Fr (touched mb sp de pool t) w w'
  mm : ∀ i, i ≠ qo + 1 → i ≠ 6 → mc' i = mc i
  m6 : (mc' 6).ownBlock = (mc 6).ownBlock
theorem MS.untouched (h : MS N W0 w p mb qo sp de lf S n cc F mc E pool (t.toList ++ out)) {x : Th} (hx : x ∈ thr E ++ out) : ¬ touched mb sp de pool t x.1 ∧ ¬ touched mb sp de pool t x.2 := by
  have hx' : x ∈ thr E ++ (t.toList ++ out ++ pool) := by
    rcases List.mem_append.1 hx with h | h <;> simp [h]
  obtain ⟨i, C, hC⟩ := h.th_all x hx'
  obtain ⟨k1, k2, k3, _⟩ := h.th_ne hC
  have hy : ∀ y, y ∈ pool ∨ t = some y → x.1 ≠ y.1 ∧ x.2 ≠ y.2 ∧ x.1 ≠ y.2 ∧ x.2 ≠ y.1 := by
    intro y hy
    have hyin : y ∈ t.toList ++ pool := by rcases hy with h | h <;> simp [h]
    have hyall : y ∈ thr E ++ (t.toList ++ out ++ pool) := by rcases hy with h | h <;> simp [h]
    obtain ⟨j, C2, hC2⟩ := h.th_all y hyall
    have hperm : (thr E ++ (t.toList ++ out ++ pool)).Perm (thr E ++ out ++ (t.toList ++ pool)) := by
      rw [List.append_assoc, List.append_assoc]
      refine List.Perm.append_left _ ?_
      rw [← List.append_assoc, ← List.append_assoc]
      exact List.Perm.append_right _ List.perm_append_comm
    have g1 := ((hperm.map Prod.fst).nodup_iff).1 h.n1
    have g2 := ((hperm.map Prod.snd).nodup_iff).1 h.n2
    rw [List.map_append, List.nodup_append] at g1 g2
    refine ⟨g1.2.2 _ (List.mem_map_of_mem hx) _ (List.mem_map_of_mem hyin), g2.2.2 _ (List.mem_map_of_mem hx) _ (List.mem_map_of_mem hyin), ?_, ?_⟩
    · obtain ⟨_, r, k, _⟩ := hC2; exact blk_ne hC.1 k (by decide)
    · obtain ⟨_, r, k, _⟩ := hC; exact blk_ne k hC2.1 (by decide)
  refine ⟨?_, ?_⟩
  · rintro (a | a | a | ⟨y, hy1, a | a⟩ | ⟨y, hy1, a⟩)
    · exact k1.1 a
    · exact k2.1 a
    · exact k3.1 a
    · exact (hy y (.inl hy1)).1 a
    · exact (hy y (.inl hy1)).2.2.1 a
    · exact (hy y (.inr hy1)).1 a
  · rintro (a | a | a | ⟨y, hy1, a | a⟩ | ⟨y, hy1, a⟩)
    · exact k1.2 a
    · exact k2.2 a
    · exact k3.2 a
    · exact (hy y (.inl hy1)).2.2.2 a
    · exact (hy y (.inl hy1)).2.1 a
    · exact (hy y (.inr hy1)).2.2.2 a
theorem touched_mono {b : Nat} (hp : ∀ x ∈ pool1, x ∈ pool) (ht : t1 = t ∨ t1 = none) (h : touched mb sp de pool1 t1 b) : touched mb sp de pool t b := by
  rcases h with a | a | a | ⟨y, hy1, a⟩ | ⟨y, hy1, a⟩
  · exact .inl a
  · exact .inr (.inl a)
  · exact .inr (.inr (.inl a))
  · exact .inr (.inr (.inr (.inl ⟨y, hp y hy1, a⟩)))
  · rcases ht with e | e
    · exact .inr (.inr (.inr (.inr ⟨y, by rw [← e]; exact hy1, a⟩)))
    · rw [e] at hy1; cases hy1
theorem AR.refl (h : MS N W0 w p mb qo sp de lf S n cc F mc E pool (t.toList ++ out)) : AR N W0 p mb qo sp de lf S n cc F ad [] w mc E pool t out w mc [] pool t :=
  ⟨by simpa using h, trivial, .inl rfl, ⟨[], by simp⟩, fun x hx => by simp [thr] at hx, Fr.refl _ _, fun _ _ _ => rfl, rfl⟩
theorem AR.trans (h1 : AR N W0 p mb qo sp de lf S n cc F ad A1 w mc E pool t out w1 mc1 new1 pool1 t1) (h2 : AR N W0 p mb qo sp de lf S n cc F ad A2 w1 mc1 (E ++ new1) pool1 t1 out w2 mc2 new2 pool2 t2) :
    AR N W0 p mb qo sp de lf S n cc F ad (A1 ++ A2) w mc E pool t out w2 mc2 (new1 ++ new2) pool2 t2 := by
  obtain ⟨r1, p1⟩ := h1.pp
  obtain ⟨r2, p2⟩ := h2.pp
  have hp : ∀ x ∈ pool1, x ∈ pool := fun x hx => by rw [p1]; simp [hx]
  refine ⟨by rw [← List.append_assoc]; exact h2.ms, Rel.append (h1.rel.keep fun x hx => ?_) h2.rel, ?_, ⟨r2 ++ r1, by rw [p1, p2, List.append_assoc]⟩, fun x hx => ?_, h1.fr.trans h2.fr (fun i _ hn ht => hn (touched_mono hp h1.tt ht)), fun i a b => (h2.mm i a b).trans (h1.mm i a b), h2.m6.trans h1.m6⟩
  · have hx2 : x ∈ thr (E ++ new1) ++ out := by rw [thr_append]; simp [hx]
    obtain ⟨u1, u2⟩ := h1.ms.untouched hx2
    obtain ⟨i, C, hC⟩ := h1.ms.th x (by rw [thr_append]; simp [hx])
    exact ⟨h2.fr.block _ (blk_lt hC.1) u1, h2.fr.block _ hC.2.lt u2⟩
  · rcases h2.tt with e | e
    · rw [e]; exact h1.tt
    · exact .inr e
  · rw [thr_append] at hx
    rcases List.mem_append.1 hx with hx | hx
    · exact h1.nt x hx
    · rcases h2.nt x hx with a | a | ⟨a, b⟩
      · exact .inl (hp x a)
      · rcases h1.tt with e | e
        · exact .inr (.inl (by rw [← e]; exact a))
        · rw [e] at a; cases a
      · have := h1.fr.size
        exact .inr (.inr ⟨by omega, by omega⟩)
theorem AR.push (h : MS N W0 w p mb qo sp de lf S n cc F mc E pool (t.toList ++ out)) {pc : Nat} (hpc : pc < N) (hd : pc ∉ E.map Prod.fst) :
    AR N W0 p mb qo sp de lf S n cc F ad [(pc, none)] w mc E pool t out (PgFnPgThreads.push w mb qo sp de S E.length pc) (up mc (qo + 1) (.slice (some ⟨de, 0, none⟩) (E.length + 1) S)) [(pc, none)] pool t := by
  have hq := h.q2
  refine ⟨h.push pc hpc hd, ⟨⟨rfl, trivial⟩, trivial⟩, .inl rfl, ⟨[], by simp⟩, fun x hx => by simp [thr] at hx, (push_fr w mb qo sp de S E.length pc).mono (fun i _ a => ?_), fun i a b => up_ne _ _ a, by rw [up_ne _ _ (by omega)]⟩
  rcases a with a | a | a
  · exact .inl a
  · exact .inr (.inl a)
  · exact .inr (.inr (.inl a))
theorem AR.leaf {pc : Nat} {x : Th} {C : List Int} (h : MS N W0 w1 p mb qo sp de lf S n cc F mc1 (E ++ [(pc, none)]) pool1 (x :: out)) (hx : ThAt w1 n cc x (.pointer (some (ad.add (pc * 4)))) C) (hfr : Fr (touched mb sp de pool t) w w1) (hpp : ∃ r, pool = pool1 ++ r) (hnt : x ∈ pool ∨ t = some x ∨ (w.heap.size ≤ x.1 ∧ w.heap.size ≤ x.2))
    (hmm : ∀ i, i ≠ qo + 1 → i ≠ 6 → mc1 i = mc i) (h6 : (mc1 6).ownBlock = (mc 6).ownBlock) :
    AR N W0 p mb qo sp de lf S n cc F ad [(pc, some C)] w mc E pool t out (w1.setCell ⟨de, E.length * 2 + 1, none⟩ (ptrT (some x))) mc1 [(pc, some x)] pool1 none := by
  obtain ⟨_, _, k3, _⟩ := h.th_ne hx
  refine ⟨h.leaf, ⟨⟨rfl, hx.keep (Below.heap_setCell _ _ _ _ k3.1) (Below.heap_setCell _ _ _ _ k3.2)⟩, trivial⟩, .inr rfl, hpp, fun y hy => ?_, hfr.set _ (.inr (.inr (.inl rfl))), hmm, h6⟩
  simp [thr] at hy
  subst hy
  exact hnt
theorem CapAt.set {cb k : Nat} {C : List Int} (h : CapAt w n cc cb C) (hk : k < n) (v : Int) : CapAt (w.setCell ⟨cb, k, none⟩ (.int .i64 v)) n cc cb (C.set k v) := by
  obtain ⟨r, h1, h2, h3⟩ := h
  refine ⟨r, ?_, by simpa using h2, h3⟩
  rw [blk_set h1 k, List.setIfInBounds_toArray, List.set_append_left k _ (by simp; omega), ← List.map_set]
theorem CapAt.cell {cb k : Nat} {C : List Int} (h : CapAt w n cc cb C) (hk : k < C.length) : w.cell? ⟨cb, k, none⟩ = some (.int .i64 C[k]) := by
  obtain ⟨r, h1, h2, h3⟩ := h
  rw [blk_cell h1]
  simp [List.getElem?_append_left, hk]
theorem AR.capt {cb k : Nat} {C : List Int} {v : Int} (h : MS N W0 w p mb qo sp de lf S n cc F mc E pool (t.toList ++ out)) (hc : CapAt w n cc cb C) (hcb : ∀ x ∈ pool, x.2 ≠ cb) (hlo : W0.heap.size ≤ cb) (hk : k < n) (hkC : k < C.length)
    (h1 : AR N W0 p mb qo sp de lf S n cc F ad A (w.setCell ⟨cb, k, none⟩ (.int .i64 v)) mc E pool none (t.toList ++ out) w1 mc1 new1 pool1 t1) :
    AR N W0 p mb qo sp de lf S n cc F ad A w mc E pool t out (w1.setCell ⟨cb, k, none⟩ (.int .i64 C[k])) mc1 new1 pool1 t := by
  have ht1 : t1 = none := by rcases h1.tt with e | e <;> exact e
  subst ht1
  have hsz : (w.setCell ⟨cb, k, none⟩ (.int .i64 v)).heap.size = w.heap.size := by simp [World.setCell]
  have lcb := hc.lt
  obtain ⟨r, hb, hl, hr⟩ := hc
  have hc : CapAt w n cc cb C := ⟨r, hb, hl, hr⟩
  obtain ⟨sa, s1, _⟩ := h.sa
  obtain ⟨da, d1, _⟩ := h.da
  have hun : ¬ touched mb sp de pool none cb := by
    rintro (a | a | a | ⟨y, hy1, a | a⟩ | ⟨y, hy1, a⟩)
    · exact blk_ne hb h.ma (by decide) a
    · exact blk_ne hb s1 (by decide) a
    · exact blk_ne hb d1 (by decide) a
    · obtain ⟨i, C2, hC2⟩ := h.pl.th y hy1
      exact blk_ne hb hC2.1 (by decide) a
    · exact hcb y hy1 a.symm
    · cases hy1
  have hb1 : w1.heap[cb]? = some (.cells (C.map (Value.int .i64) ++ r).toArray.toList.toArray 3 (0, 0)) → True := fun _ => trivial
  have e1 := h1.fr.block cb (by omega) hun
  have hc1 : CapAt w1 n cc cb (C.set k v) := (hc.set hk v).keep e1
  have e2 : (w1.setCell ⟨cb, k, none⟩ (.int .i64 C[k])).heap[cb]? = w.heap[cb]? := by
    have a := e1.trans (blk_set hb k (.int .i64 v))
    rw [blk_set a k, hb, List.setIfInBounds_toArray, List.setIfInBounds_toArray, List.set_set, List.set_append_left k _ (by simp; omega), ← List.map_set, List.set_getElem_self]
  have hnx : ∀ x ∈ thr new1, x.2 ≠ cb := by
    intro x hx
    rcases h1.nt x hx with a | a | ⟨a, b⟩
    · exact hcb x a
    · cases a
    · omega
  have hnx1 : ∀ x ∈ thr new1, x.1 ≠ cb := by
    intro x hx
    obtain ⟨i, C2, hC2⟩ := h1.ms.th x (by rw [thr_append]; simp [hx])
    obtain ⟨r1, k1, _⟩ := hc1
    exact blk_ne hC2.1 k1 (by decide)
  refine ⟨?_, h1.rel.keep fun x hx => ⟨Below.heap_setCell _ _ _ _ (hnx1 x hx), Below.heap_setCell _ _ _ _ (hnx x hx)⟩, .inl rfl, h1.pp, fun x hx => ?_, ⟨?_, ?_, ?_, ?_, fun b hb hn => ?_⟩, h1.mm, h1.m6⟩
  · have := h1.ms
    refine MS.cap (by simpa using this) hc1 ((Fr.refl _ w1).set _ rfl) hlo (hc.keep e2)
  · rcases h1.nt x hx with a | a | ⟨a, b⟩
    · exact .inl a
    · cases a
    · exact .inr (.inr ⟨by omega, by omega⟩)
  · exact h1.fr.os
  · exact h1.fr.tape
  · exact h1.fr.output
  · have := h1.fr.size; simp [World.setCell] at this ⊢; exact this
  · by_cases e : b = cb
    · rw [e]; exact e2
    · refine (Below.heap_setCell _ _ _ _ e).trans ((h1.fr.block b (by omega) (fun a => hn (touched_mono (fun _ h => h) (.inr rfl) a))).trans (Below.heap_setCell _ _ _ _ e))
end
section
variable {N : Nat} {W0 w w1 : World} {p mb qo sp de lf S n cc : Nat} {F : Int} {ad : Addr} {mc mc1 : Nat → Value} {E : List En} {pool pool1 out : List Th} {t t1 : Option Th} {A : List Ae} {new : List En}
theorem MS.drewN (h : MS N W0 w p mb qo sp de lf S n cc F mc E pool out) (m : Nat) : MS N W0 (w.drewN m) p mb qo sp de lf S n cc F mc E pool out :=
  ⟨h.ma, h.m1, h.m8, h.q2, h.mq, h.md, h.sa, h.da, h.fl, ⟨h.pl.own, h.pl.th⟩, h.th, h.n1, h.n2, h.lo, ⟨h.bl.os, h.bl.tape, h.bl.output, h.bl.size, h.bl.block⟩, h.fi, h.ls, h.lm, h.nc, h.cm, h.pm⟩
theorem Fr.drewN {T : Nat → Prop} (h : Fr T w w1) (m : Nat) : Fr T w (w1.drewN m) := ⟨h.os, h.tape, h.output, h.size, h.block⟩
theorem AR.drewN (h : AR N W0 p mb qo sp de lf S n cc F ad A w mc E pool t out w1 mc1 new pool1 t1) (m : Nat) : AR N W0 p mb qo sp de lf S n cc F ad A w mc E pool t out (w1.drewN m) mc1 new pool1 t1 :=
  ⟨h.ms.drewN m, h.rel.keep (fun _ _ => ⟨rfl, rfl⟩), h.tt, h.pp, h.nt, h.fr.drewN m, h.mm, h.m6⟩
theorem alloc_ms {cb : Nat} {C C3 : List Int} {x : Th} {pv : Value} {iv : Value} (h : MS N W0 w p mb qo sp de lf S n cc F mc E pool out) (hc : CapAt w n cc cb C) (hcb : ∀ x ∈ pool, x.2 ≠ cb) (hth : ThAt w1 n cc x iv C3) (hma : w1.heap[mb]? = some (mach (up mc 6 pv)))
    (hor : (pool = pool1 ++ [x] ∧ Fr (fun b => b = mb ∨ b = x.1) w w1) ∨ (pool = [] ∧ pool1 = [] ∧ w.heap.size ≤ x.1 ∧ w.heap.size ≤ x.2 ∧ Fr (fun _ => False) w w1)) (hown : w1.ownsRow W0.heap.size 107 1 pv pool1.length (pool1.map fun x => .pointer (some ⟨x.1, 0, none⟩))) :
    MS N W0 w1 p mb qo sp de lf S n cc F (up mc 6 pv) E pool1 (x :: out) ∧ Fr (touched mb sp de pool none) w w1 ∧ (∃ r, pool = pool1 ++ r) ∧ (x ∈ pool ∨ (w.heap.size ≤ x.1 ∧ w.heap.size ≤ x.2)) ∧ x.2 ≠ cb ∧ CapAt w1 n cc cb C ∧ W0.heap.size ≤ x.2 := by
  have hx0 : ∀ b, CapAt w n cc b C → b ≠ mb := fun b hb => by obtain ⟨r, k, _⟩ := hb; exact blk_ne k h.ma (by decide)
  rcases hor with ⟨he, hfr⟩ | ⟨he1, he2, h1, h2, hfr⟩
  · have hxp : x ∈ pool := by rw [he]; simp
    obtain ⟨i0, C0, hx⟩ := h.pl.th x hxp
    refine ⟨h.pop hma he hfr hth hown, hfr.mono (fun i _ a => ?_), ⟨_, he⟩, .inl hxp, hcb x hxp, hc.keep (hfr.block cb hc.lt ?_), (h.lo.2.2.2 x (by simp [hxp])).2⟩
    · rcases a with a | a
      · exact .inl a
      · exact .inr (.inr (.inr (.inl ⟨x, hxp, .inl a⟩)))
    · rintro (a | a)
      · exact hx0 cb hc a
      · obtain ⟨r, k, _⟩ := hc; exact blk_ne k hx.1 (by decide) a
  · subst he1; subst he2
    have := hc.lt
    have hb := h.bl.size
    exact ⟨h.fresh hma h1 h2 hfr hth hown, hfr.mono (fun _ _ a => a.elim), ⟨[], rfl⟩, .inr ⟨h1, h2⟩, by omega, hc.keep (hfr.block cb hc.lt (fun a => a)), by omega⟩
end
section
variable {N : Nat} {W0 w1 w2 w4 : World} {p mb qo sp de lf S n cc : Nat} {F : Int} {ad : Addr} {mc1 mc2 : Nat → Value} {E : List En} {pool1 pool3 out : List Th}
theorem AR.leafN {pc : Nat} {x : Th} {C : List Int} {pv : Value} (hPU : AR N W0 p mb qo sp de lf S n cc F ad [(pc, none)] w1 mc1 E pool1 none out w2 mc2 [(pc, none)] pool1 none) (hM : MS N W0 w4 p mb qo sp de lf S n cc F (up mc2 6 pv) (E ++ [(pc, none)]) pool3 (x :: out)) (hF : Fr (touched mb sp de pool1 none) w2 w4)
    (hpp : ∃ r, pool1 = pool3 ++ r) (hnt : x ∈ pool1 ∨ (w2.heap.size ≤ x.1 ∧ w2.heap.size ≤ x.2)) (hob : pv.ownBlock = (mc2 6).ownBlock) (hT : ThAt w4 n cc x (.pointer (some (ad.add (pc * 4)))) C) :
    AR N W0 p mb qo sp de lf S n cc F ad [(pc, some C)] w1 mc1 E pool1 none out (w4.setCell ⟨de, E.length * 2 + 1, none⟩ (ptrT (some x))) (up mc2 6 pv) [(pc, some x)] pool3 none := by
  have hs := hPU.fr.size
  refine AR.leaf hM hT (hPU.fr.trans hF (fun _ _ a b => a b)) hpp ?_ (fun i a b => (up_ne _ _ b).trans (hPU.mm i a b)) (by rw [up_same, hob]; exact hPU.m6)
  rcases hnt with a | ⟨a, b⟩
  · exact .inl a
  · exact .inr (.inr ⟨by omega, by omega⟩)
theorem AR.leafT {pc : Nat} {x : Th} {C : List Int} (hPU : AR N W0 p mb qo sp de lf S n cc F ad [(pc, none)] w1 mc1 E pool1 (some x) out w2 mc2 [(pc, none)] pool1 (some x)) (hM : MS N W0 w4 p mb qo sp de lf S n cc F mc2 (E ++ [(pc, none)]) pool1 (x :: out)) (hF : Fr (fun b => b = x.1) w2 w4) (hT : ThAt w4 n cc x (.pointer (some (ad.add (pc * 4)))) C) :
    AR N W0 p mb qo sp de lf S n cc F ad [(pc, some C)] w1 mc1 E pool1 (some x) out (w4.setCell ⟨de, E.length * 2 + 1, none⟩ (ptrT (some x))) mc2 [(pc, some x)] pool1 none :=
  AR.leaf hM hT (hPU.fr.trans hF (fun _ _ a b => a (.inr (.inr (.inr (.inr ⟨x, rfl, b⟩)))))) ⟨[], by simp⟩ (.inr (.inl rfl)) hPU.mm hPU.m6
end
theorem Fr.via {w1 w2 w3 : World} {mb sp de b : Nat} {pool : List Th} {t : Option Th} (h : Fr (touched mb sp de pool t) w1 w2) (k : Fr (fun i => i = b) w2 w3) (hb : (∃ x ∈ pool, b = x.2) ∨ w1.heap.size ≤ b) : Fr (touched mb sp de pool t) w1 w3 :=
  h.trans k (fun i hi hn e => by
    rcases hb with ⟨x, hx, e2⟩ | hb
    · exact hn (.inr (.inr (.inr (.inl ⟨x, hx, .inr (e.trans e2)⟩))))
    · omega)
theorem neq_same (a : Addr) (W : World) : (binOp .neq 141 (.pointer (some a)) (.pointer (some a))).run Tryd.prog W = .ok (.bool false) W := by
  obtain ⟨i, hi, _⟩ := info_parts iint
  have h : ∀ d : Nat, (Op.equalIn (d + 1) 141 (.pointer (some a)) (.pointer (some a))).run Tryd.prog W = .ok true W := fun d => by
    simp [Op.equalIn, run_underlying Tryd.underlying141, sizeOf, typeInfo, hi, run_sameAddr_same]
  simp only [binOp]
  simp [Op.equal, Op.maxDepth, h 9999]
theorem neq_other {a b : Addr} {ca cb : Array Value} (W : World) (hne : a ≠ b) (ha : W.heap[a.block]? = some (.cells ca 3 (0, 0))) (hb : W.heap[b.block]? = some (.cells cb 3 (0, 0))) :
    (binOp .neq 141 (.pointer (some a)) (.pointer (some b))).run Tryd.prog W = .ok (.bool true) W := by
  obtain ⟨i, hi, hz, hsize, hby⟩ := info_parts iint
  have h : ∀ d : Nat, (Op.equalIn (d + 1) 141 (.pointer (some a)) (.pointer (some b))).run Tryd.prog W = .ok false W := fun d => by
    simp [Op.equalIn, run_underlying Tryd.underlying141, sizeOf, typeInfo, hi, hsize, run_sameAddr_other W hne ha hb]
  simp only [binOp]
  simp [Op.equal, Op.maxDepth, h 9999]
theorem run_copy_cap (w : World) (x cb n cc : Nat) (C C3 : List Int) (hx : CapAt w n cc x C3) (hc : CapAt w n cc cb C) :
    ∃ w', (Builtin.copy_ #[27, 27] 3 #[.slice (some ⟨x, 0, none⟩) n cc, .slice (some ⟨cb, 0, none⟩) n cc]).run Tryd.prog w = .ok (goInt n) w' ∧ Fr (fun i => i = x) w w' ∧ CapAt w' n cc x C := by
  obtain ⟨r3, g3, l3, m3⟩ := hx
  have hCn : C.length = n := by obtain ⟨_, _, h, _⟩ := hc; exact h
  obtain ⟨i, hi, hz, hsize, hby⟩ := info_parts iint
  have hsz : (Tryd.prog.info? 3).map (·.size) = some 1 := by rw [hi]; simp [hsize]
  have e1 : (C.map (Value.int .i64)).length = n := by simpa using hCn
  have hrun := run_copy_row (P := Tryd.prog) w 27 27 3 3 x 0 n cc ⟨cb, 0, none⟩ n cc _ 3 (C.map (Value.int .i64)) Tryd.underlying27 hsz g3 (by rw [e1]; exact (Nat.min_self n).symm) (fun j v hj => by
    rw [List.getElem?_map] at hj
    cases hq : C[j]? with
    | none => rw [hq] at hj; cases hj
    | some y =>
      rw [hq] at hj
      cases hj
      obtain ⟨hj1, hj2⟩ := List.getElem?_eq_some_iff.1 hq
      have := hc.cell hj1
      rw [hj2] at this
      have e : (⟨cb, 0, none⟩ : Addr).add j = ⟨cb, j, none⟩ := by unfold Addr.add; split <;> simp_all
      rw [e]; exact this) (by simp [hCn, l3]) (fun v hv => by obtain ⟨y, _, rfl⟩ := List.mem_map.1 hv; rfl)
  rw [e1] at hrun
  refine ⟨_, hrun, ⟨rfl, rfl, rfl, by simp [World.setRow], fun b _ hn => setRow_other w x b _ hn⟩, ⟨r3, ?_, hCn, m3⟩⟩
  have e2 : ((C3.map (Value.int .i64) ++ r3).toArray.toList.take 0 ++ C.map (Value.int .i64) ++ (C3.map (Value.int .i64) ++ r3).toArray.toList.drop (0 + n)) = C.map (Value.int .i64) ++ r3 := by
    rw [List.take_zero, List.nil_append, Nat.zero_add]
    exact congrArg _ (List.drop_left' (by simpa using l3))
  exact (setRow_heap w x _ _ 3 (0, 0) g3).trans (by rw [e2])
end Go.Proofs.YtmccgfjhmbioeaaDoor.PgFnPgThreads
