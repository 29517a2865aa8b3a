import Derived.Test.YteoljppcafakpaaDoorVdFnPgWalk
namespace Go.Proofs.YteoljppcafakpaaDoor.PgFnPgWalk
open Go.RowKit Go.Proofs.YteoljppcafakpaaDoor.EvN Go.Proofs.YteoljppcafakpaaDoor.Row Go.Proofs.YteoljppcafakpaaDoor.PFnPgWalk Go.Proofs.YteoljppcafakpaaDoorW.PrintWords Go.Proofs.YteoljppcafakpaaDoorW.PrintLast Go.Proofs.YteoljppcafakpaaDoorW.PrintMore
set_option linter.unusedSimpArgs false
set_option linter.unusedVariables false
theorem iu32 : (Tryd.prog.info? 54).map (fun i => (i.zero, i.size, i.bytes)) = some (some (.int .u32 0), 1, 4) := by kernel_rfl
theorem ient : (Tryd.prog.info? 158).map (fun i => (i.zero, i.size, i.bytes)) = some (some (.agg #[.int .u32 0, .pointer none]), 2, 16) := by kernel_rfl
theorem make_u32 (c : Nat) (hc : c ≤ 1000000) (W : World) : (Instr.makeSlice 65 (.int .i64 (c : Int)) (.int .i64 (c : Int))).run Tryd.prog W = .ok (.slice (some ⟨W.heap.size, 0, none⟩) c c) (W.alloc (.cells (madeCells #[.int .u32 0] c) 54)) := by
  obtain ⟨i, hi, hz, hsize, hby⟩ := info_parts iu32
  have := run_make (P := Tryd.prog) W 65 54 i (.int .u32 0) Tryd.underlying65 hi hz .i64 .i64 (c : Int) (c : Int) (by omega) (by omega) (by rw [hby]; omega) (by omega)
  rw [hsize, Int.toNat_natCast] at this
  rw [this, show (Value.int .u32 0).cells = #[Value.int .u32 0] from rfl, Nat.mul_one]
theorem make_ent (c : Nat) (hc : c ≤ 1000000) (W : World) : (Instr.makeSlice 99 (.int .i64 0) (.int .i64 (c : Int))).run Tryd.prog W = .ok (.slice (some ⟨W.heap.size, 0, none⟩) 0 c) (W.alloc (.cells (madeCells #[.int .u32 0, .pointer none] (c * 2)) 158)) := by
  obtain ⟨i, hi, hz, hsize, hby⟩ := info_parts ient
  have := run_make (P := Tryd.prog) W 99 158 i (.agg #[.int .u32 0, .pointer none]) Tryd.underlying99 hi hz .i64 .i64 0 (c : Int) (by omega) (by omega) (by rw [hby]; omega) (by omega)
  rw [hsize, Int.toNat_natCast] at this
  rw [this]; rfl
theorem made_u32 (c i : Nat) (hi : i < c) : (madeCells #[Value.int .u32 0] c)[i]? = some (.int .u32 0) := by
  simp [madeCells, hi, Nat.mod_one]
structure New0 (w w' : World) (rb mb sp de sp1 de1 mcb p S nc : Nat) (mc : Nat → Value) (m8 : Value) : Prop where
  ma : w'.heap[mb]? = some (mach mc)
  m0 : mc 0 = .pointer (some ⟨rb, 0, none⟩)
  m1 : mc 1 = .pointer (some ⟨p, 0, none⟩)
  m6 : mc 6 = .slice none 0 0
  m8 : mc 8 = m8
  q2 : mc 2 = .slice (some ⟨sp, 0, none⟩) S S
  q3 : mc 3 = .slice (some ⟨de, 0, none⟩) 0 S
  q4 : mc 4 = .slice (some ⟨sp1, 0, none⟩) S S
  q5 : mc 5 = .slice (some ⟨de1, 0, none⟩) 0 S
  sa : w'.heap[sp]? = some (.cells (madeCells #[.int .u32 0] S) 54 (0, 0))
  da : w'.heap[de]? = some (.cells (madeCells #[.int .u32 0, .pointer none] (S * 2)) 158 (0, 0))
  sb : w'.heap[sp1]? = some (.cells (madeCells #[.int .u32 0] S) 54 (0, 0))
  db : w'.heap[de1]? = some (.cells (madeCells #[.int .u32 0, .pointer none] (S * 2)) 158 (0, 0))
  cb : w'.heap[mcb]? = some (.cells ((List.replicate nc 0).map (Value.int .i64)).toArray 3 (0, 0))
  lo : w.heap.size ≤ mb ∧ w.heap.size ≤ sp ∧ w.heap.size ≤ de ∧ w.heap.size ≤ mcb ∧ w.heap.size ≤ sp1 ∧ w.heap.size ≤ de1
  ne : sp1 ≠ sp ∧ de1 ≠ de
  bl : Below w.heap.size w w'
theorem New0.keep {w w1 w2 : World} {rb mb sp de sp1 de1 mcb p S nc : Nat} {mc : Nat → Value} {m8 : Value} (h : New0 w w1 rb mb sp de sp1 de1 mcb p S nc mc m8) (k : Below w1.heap.size w1 w2) : New0 w w2 rb mb sp de sp1 de1 mcb p S nc mc m8 :=
  ⟨blk_below h.ma k, h.m0, h.m1, h.m6, h.m8, h.q2, h.q3, h.q4, h.q5, blk_below h.sa k, blk_below h.da k, blk_below h.sb k, blk_below h.db k, blk_below h.cb k, h.lo, h.ne, h.bl.trans (k.mono h.bl.size)⟩
theorem New0.ms {w w' : World} {rb mb sp de sp1 de1 mcb p S nc N lf : Nat} {mc : Nat → Value} {F : Int} (h : New0 w w' rb mb sp de sp1 de1 mcb p S nc mc (.slice (some ⟨mcb, 0, none⟩) 0 nc)) (hf : w'.heap[lf]? = some (.cells #[.int .u64 F] 117 (0, 0))) (hN : N ≤ S) (hS : S ≤ 1000000) (hc : nc ≤ 100000) :
    MS N w w' p mb 2 sp de lf S 0 nc F mc [] [] [] ∧ CapAt w' 0 nc mcb [] := by
  refine ⟨⟨h.ma, h.m1, ⟨mcb, h.m8⟩, .inl rfl, h.q2, h.q3, ⟨_, h.sa, by simp [size_madeCells], fun i hi => ⟨0, made_u32 S i hi, by omega, by omega⟩, fun i e he => by simp at he⟩, ⟨_, h.da, by simp [size_madeCells], fun i e he => by simp at he⟩, hf, ⟨?_, fun x hx => by simp at hx⟩, fun x hx => by simp [thr] at hx, by simp [thr], by simp [thr], ⟨h.lo.1, h.lo.2.1, h.lo.2.2.1, fun x hx => by simp [thr] at hx⟩, h.bl, ⟨by simp, by simp⟩, hN, hS, by omega, hc, by simp⟩, ?_⟩
  · rw [h.m6]; exact ⟨rfl, .inl ⟨rfl, rfl⟩⟩
  · exact ⟨_, by rw [h.cb, List.map_nil, List.nil_append], rfl, by simp⟩
end Go.Proofs.YteoljppcafakpaaDoor.PgFnPgWalk
