/- strings.Builder: copyCheck and WriteRune, walked (of a builder of the caller's own). -/
import Derived.Test.YteoljppcafakpaaDoorShelf
import Derived.Test.YteoljppcafakpaaDoorRow
import Derived.Shelf.Strings.Builder1
import Derived.Shelf.Utf8.AppendRunePlain
namespace Go.Proofs.YteoljppcafakpaaDoor.Bd
open Go.RowKit Go.Proofs.YteoljppcafakpaaDoor.Row Go.Proofs.YteoljppcafakpaaDoorW.PrintWords Go.Proofs.YteoljppcafakpaaDoorW.PrintLast Go.Proofs.YteoljppcafakpaaDoorW.PrintMore
set_option linter.unusedSimpArgs false
set_option linter.unusedVariables false

abbrev bT : TypeId := 140
abbrev bE : TypeId := 5
theorem sizeBuilder : (Tryd.prog.info? bT).map (·.size) = some 2 := by kernel_rfl
theorem neBE : bT ≠ bE := by decide

set_option maxRecDepth 100000 in
set_option maxHeartbeats 4000000 in
theorem check_used (b : Nat) (w : World) (h0 : w.cell? ⟨b, 0, none⟩ = some (.pointer (some ⟨b, 0, none⟩))) :
    Calls Tryd.prog 83 #[.pointer (some ⟨b, 0, none⟩)] w fun e w' => e = .returned (.tuple #[]) ∧ w' = w := by
  obtain ⟨j, hj, hjs⟩ := Option.map_eq_some_iff.1 sizeBuilder
  go_enter Tryd.func83, Tryd.ntmps83
  go_wp2
  rw [Lib.run_neq_ptr_same w _ Tryd.underlying138 hj]
  go_wp2
  go_end0
  exact ⟨rfl, rfl⟩

set_option maxRecDepth 100000 in
set_option maxHeartbeats 4000000 in
theorem check_fresh (b : Nat) (w : World) (h0 : w.cell? ⟨b, 0, none⟩ = some (.pointer none)) (hsh : w.shape? b = some (bT, 2)) (hfz : w.frozen? ⟨b, 0, none⟩ = false) :
    Calls Tryd.prog 83 #[.pointer (some ⟨b, 0, none⟩)] w fun e w' => e = .returned (.tuple #[]) ∧ w' = w.setCell ⟨b, 0, none⟩ (.pointer (some ⟨b, 0, none⟩)) := by
  obtain ⟨j, hj, hjs⟩ := Option.map_eq_some_iff.1 sizeBuilder
  go_enter Tryd.func83, Tryd.ntmps83
  go_wp2
  rw [Lib.run_to_unsafe w ⟨b, 0, none⟩ Tryd.underlying138 Tryd.underlying195 hj (by rw [hjs]; decide) hsh (Nat.zero_lt_succ 1)]
  simp only [Result.andThen]
  rw [Oper.upon_value]
  go_wp2
  rw [run_callFunc_extern Tryd.func91 (by kernel_rfl) (by kernel_rfl) (by kernel_rfl) (e := Extern.AbiNoEscape.same) (by kernel_rfl)]
  rw [Lib.run_noEscape]
  simp only [Result.andThen]
  rw [Oper.upon_value]
  go_wp2
  rw [Lib.run_from_unsafe w ⟨b, 0, none⟩ Tryd.underlying195 Tryd.underlying138 hj hsh (by kernel_rfl)]
  simp only [Result.andThen]
  rw [Oper.upon_value]
  go_wp2
  go_end0
  exact ⟨rfl, rfl⟩

theorem check_calls (B b : Nat) (bs : List Value) (w : World) (h : Lib.IsBuilder bT bE B b bs w) :
    Calls Tryd.prog 83 #[.pointer (some ⟨b, 0, none⟩)] w fun e w' => e = .returned (.tuple #[]) ∧ Lib.BuilderAt bT bE B b (.pointer (some ⟨b, 0, none⟩)) bs w' ∧ Below B w w' := by
  rcases h with h | h
  · refine (check_fresh b w h.cell0 h.shape h.frozen0).mono ?_
    rintro e w' ⟨rfl, rfl⟩
    exact ⟨rfl, h.used _, (Below.refl B w).setCell (p := ⟨b, 0, none⟩) h.1 _⟩
  · refine (check_used b w h.cell0).mono ?_
    rintro e w' ⟨rfl, rfl⟩
    exact ⟨rfl, h, Below.refl B _⟩

set_option maxRecDepth 100000 in
set_option maxHeartbeats 4000000 in
theorem write_calls (B b : Nat) (bs : List Value) (r : Int) (hr0 : -2147483648 ≤ r) (hr1 : r ≤ 2147483647) (w : World) (h : Lib.IsBuilder bT bE B b bs w) (hlen : bs.length + 4 ≤ 140737488355328) (hBw : B ≤ w.heap.size) :
    Calls Tryd.prog 69 #[.pointer (some ⟨b, 0, none⟩), .int .i32 r] w fun e w' => e = .returned (.tuple #[.int .i64 (Lib.runeCells r).length, .nilIface]) ∧ Lib.BuilderAt bT bE B b (.pointer (some ⟨b, 0, none⟩)) (bs ++ Lib.runeCells r) w' ∧ Below B w w' := by
  have hk4 := Lib.runeCells_le r
  have HB := Lib.hid h
  clear h
  go_enter Tryd.func69, Tryd.ntmps69
  go_wp2_with fail
  refine (check_calls B b bs _ HB.out).mono ?_
  rintro e w1 ⟨rfl, h1, hb1⟩
  obtain ⟨hB, v, hbk, hown, hne⟩ := h1
  obtain ⟨ao, cap, rfl⟩ : ∃ ao cap, v = .slice ao bs.length cap := by
    rcases hown.2 with ⟨hv, h0⟩ | ⟨g, cap, cur, hv, _⟩
    · exact ⟨none, 0, by rw [hv, h0]⟩
    · exact ⟨_, _, hv⟩
  have c0 : w1.cell? ⟨b, 0, none⟩ = some (.pointer (some ⟨b, 0, none⟩)) := by rw [Lib.cell_of_heap hbk]; rfl
  have c1 : w1.cell? ⟨b, 1, none⟩ = some (.slice ao bs.length cap) := by rw [Lib.cell_of_heap hbk]; rfl
  have hlt : b < w1.heap.size := blk_lt hbk
  have HO := Lib.hid hown
  have HN := Lib.hid hne
  have HK := Lib.hid hbk
  have HB1 := Lib.hid hb1
  clear hown hne hbk hb1
  go_wp2_with fail
  refine (Tryd.utf8_AppendRune_plain B _ bs.length bs r hr0 hr1 _ HO.out hlen (by have := HB1.out.size; omega)).mono ?_
  rintro e w2 ⟨v', rfl, hown', o, hgrow⟩
  have hb2 : w2.heap[b]? = some (.cells #[.pointer (some ⟨b, 0, none⟩), .slice ao bs.length cap] bT (0, 0)) := by
    rw [hgrow.block b (by simp; omega) (fun e => HN.out e.symm), Lib.alloc_old w1 _ b hlt]
    exact HK.out
  have d0 : w2.cell? ⟨b, 0, none⟩ = some (.pointer (some ⟨b, 0, none⟩)) := by rw [Lib.cell_of_heap hb2]; rfl
  have d1 : w2.cell? ⟨b, 1, none⟩ = some (.slice ao bs.length cap) := by rw [Lib.cell_of_heap hb2]; rfl
  have f1 : w2.frozen? ⟨b, 1, none⟩ = false := Lib.frozen_of_heap hb2 1
  obtain ⟨g, cap', rfl⟩ : ∃ g cap', v' = .slice (some ⟨g, 0, none⟩) (bs.length + (Lib.runeCells r).length) cap' := by
    rcases hown'.2 with ⟨_, h0⟩ | ⟨g, cap', cur, hv, _⟩
    · omega
    · exact ⟨g, cap', hv⟩
  have HO2 := Lib.hid hown'
  have HG := Lib.hid hgrow
  have HK2 := Lib.hid hb2
  have hd : decide (bs.length ≤ bs.length + (Lib.runeCells r).length) = true := decide_eq_true (by omega)
  clear hown' hgrow hb2 c0 c1
  go_wp2_with fail
  go_ret2
  refine ⟨?_, ?_, ?_⟩
  · have e : ((bs.length : Int) + ((Lib.runeCells r).length : Int) - (bs.length : Int)) = ((Lib.runeCells r).length : Int) := by omega
    simp [e]
  · exact Lib.BuilderAt.put (T := bT) (e := bE) hB HK2.out (bs' := bs ++ Lib.runeCells r) (by simpa using HO2.out) neBE
  · exact ((HB1.out.alloc (by have := HB1.out.size; omega) o).grown HG.out (by have := HB1.out.size; simp; omega) (fun k hk => (HO.out.lt k hk).1)).setCell (p := ⟨b, 1, none⟩) hB _
end Go.Proofs.YteoljppcafakpaaDoor.Bd
