/- Machine-made: walks of functions of the program, out of the print's own lines. -/
import Derived.Test.YtofkpinikkfmeaaDoorProg
import Derived.Below
import Derived.Deep.Draws
import Derived.Deep.AppendLies
import Derived.Maps.AppendAt
import Derived.OwnWalk
import Derived.Laws.BytesArg
import Derived.Laws.MakeOwn
import Derived.Laws.OwnMore
import Derived.Deep.OwnRows
import Derived.Tactics
import Derived.Lib.ConvBytes
import Derived.Laws.Slices
import Derived.WalkKit
import Derived.KernelRfl
import Derived.RowKit3
import Derived.Deep.LoopGhost
import Derived.Deep.QuietTactic
import Derived.BigQuiet
import Derived.WideLaws
import Derived.Deep.DeepCutAuto
import Derived.Deep.CutBlock
import Derived.Deep.RegionHeld3
import Derived.Laws.Rows
import Derived.Lib.AppendStr
import Derived.ArgAppend
import Derived.Laws.IdiomCopy
import Derived.OrdersHeld
import Derived.Laws.BitsLemmas
import Derived.RowKit
import Derived.Test.YtofkpinikkfmeaaDoorWz
namespace Go.Proofs.YtofkpinikkfmeaaDoor.PFnMtLeast
open Go.RowKit Go.Proofs.YtofkpinikkfmeaaDoorW.PrintWords Go.Proofs.YtofkpinikkfmeaaDoorW.PrintLast Go.Proofs.YtofkpinikkfmeaaDoorW.PrintMore
attribute [local go_sem] max2_int min2_int max_two min_two max_three min_three max_four min_four   -- for this text's walks alone
set_option linter.unusedVariables false
set_option linter.unusedSimpArgs false



def errW : Option Int → Value
  | none => .nilIface
  | some c => .iface 0 (.int .i64 c)
theorem errW_none : errW none = .nilIface := rfl
theorem errW_some (c : Int) : errW (some c) = .iface 0 (.int .i64 c) := rfl

theorem info4 : (Tryd.prog.info? 4).map (fun i => (i.zero, i.size, i.bytes)) = some (some (.bool false), 1, 1) := by kernel_rfl
-- the values' own types
def rd_L2 (xs : List (List Int)) (i : Int) : (List Int) := xs.getD i.toNat ([] : List Int)
theorem at_L2 {w : World} {A : Option Addr} {n : Nat} {xs : List (List Int)} (h : Kd.C (Kd.slice 21 (Kd.int .i32)) w A n xs) (i : Int) (h0 : 0 ≤ i) (h1 : i < n) : ∃ ad A0 c0, A = some ad ∧ w.cell? (ad.add i.toNat) = some (.slice A0 (rd_L2 xs i).length c0) ∧ (rd_L2 xs i).length ≤ c0 ∧ (Kd.int .i32).C w A0 (rd_L2 xs i).length (rd_L2 xs i) := by
  obtain ⟨ad, c, e, _, hK, hc0⟩ := Kd.C_get h ([] : List Int) i h0 h1
  have hc : ∀ j u, c[j]? = some u → w.cell? (ad.add (i.toNat * 1 + j)) = some u := hc0
  obtain ⟨A0, c0, rfl, l0, g0⟩ := hK
  exact ⟨ad, A0, c0, e, by have hq := hc 0 _ rfl; rwa [Nat.mul_one, Nat.add_zero] at hq, l0, g0⟩

/-! #### struct type 25, nested in itself -/
structure S25 where
  f0 : Int
  f1 : Int
  f2 : (List Int)
  f3 : Int
  f4 : Int
  f5 : Int
  f6 : ByteArray
  f7 : (List S25)
def z25 : S25 := ⟨(0 : Int), (0 : Int), ([] : List Int), (0 : Int), (0 : Int), (0 : Int), (⟨#[]⟩ : ByteArray), ([] : List S25)⟩
def F25 (d : Kd S25) : Kd S25 := Kd.iso (Kd.pair (Kd.int .i64) (Kd.pair (Kd.int .i64) (Kd.pair (Kd.slice 21 (Kd.int .i32)) (Kd.pair (Kd.int .i64) (Kd.pair (Kd.int .i64) (Kd.pair (Kd.int .i64) (Kd.pair Kd.string (Kd.slice 25 d)))))))) (fun x : S25 => (x.f0, x.f1, x.f2, x.f3, x.f4, x.f5, x.f6, x.f7))
theorem mono25 : Kd.Mono F25 := Kd.mono_iso _ (Kd.mono_pair (Kd.mono_const _) (Kd.mono_pair (Kd.mono_const _) (Kd.mono_pair (Kd.mono_const _) (Kd.mono_pair (Kd.mono_const _) (Kd.mono_pair (Kd.mono_const _) (Kd.mono_pair (Kd.mono_const _) (Kd.mono_pair (Kd.mono_const _) (Kd.mono_slice 25 Kd.mono_id))))))))
theorem sub25 : Kd.Sub F25 [21, 25] := Kd.sub_iso _ (Kd.sub_pair (Kd.sub_const _ (by decide)) (Kd.sub_pair (Kd.sub_const _ (by decide)) (Kd.sub_pair (Kd.sub_const _ (by decide)) (Kd.sub_pair (Kd.sub_const _ (by decide)) (Kd.sub_pair (Kd.sub_const _ (by decide)) (Kd.sub_pair (Kd.sub_const _ (by decide)) (Kd.sub_pair (Kd.sub_const _ (by decide)) (Kd.sub_slice 25 (by decide) Kd.sub_id))))))))
theorem sz25 : ∀ n, (Kd.upto F25 8 [21, 25] n).sz = 8 := Kd.upto_sz (fun _ => rfl)
def k25 : Kd S25 := Kd.fix F25 8 [21, 25] sz25 (Kd.upto_E sub25)
theorem k25_open {w : World} {x : S25} {cs : List Value} (h : k25.K w x cs) : ∃ A2 c2 A7 c7, cs = [.int .i64 x.f0, .int .i64 x.f1, .slice A2 x.f2.length c2, .int .i64 x.f3, .int .i64 x.f4, .int .i64 x.f5, .string x.f6, .slice A7 x.f7.length c7] ∧ x.f2.length ≤ c2 ∧ (Kd.int .i32).C w A2 x.f2.length x.f2 ∧ x.f7.length ≤ c7 ∧ k25.C w A7 x.f7.length x.f7 := by
  obtain ⟨n, h⟩ := h
  cases n with
  | zero => exact h.elim
  | succ n =>
    obtain ⟨_, _, rfl, rfl, ⟨_, _, rfl, rfl, ⟨_, _, rfl, ⟨A2, c2, rfl, l2, g2⟩, ⟨_, _, rfl, rfl, ⟨_, _, rfl, rfl, ⟨_, _, rfl, rfl, ⟨_, _, rfl, rfl, ⟨A7, c7, rfl, l7, g7⟩⟩⟩⟩⟩⟩⟩⟩ := h
    exact ⟨A2, c2, A7, c7, rfl, l2, g2, l7, Kd.fix_C g7⟩
theorem k25_openM {w : World} {base : Nat} {ok : Nat → Prop} {x : S25} {cs : List Value} (h : k25.M w base ok x cs) : ∃ v2 v7, cs = [.int .i64 x.f0, .int .i64 x.f1, v2, .int .i64 x.f3, .int .i64 x.f4, .int .i64 x.f5, .string x.f6, v7] ∧ (Kd.int .i32).R 21 w base ok v2 x.f2 ∧ k25.R 25 w base ok v7 x.f7 := by
  obtain ⟨n, h⟩ := h
  cases n with
  | zero => exact h.elim
  | succ n =>
    obtain ⟨_, _, rfl, rfl, ⟨_, _, rfl, rfl, ⟨_, _, rfl, ⟨v2, rfl, g2⟩, ⟨_, _, rfl, rfl, ⟨_, _, rfl, rfl, ⟨_, _, rfl, rfl, ⟨_, _, rfl, rfl, ⟨v7, rfl, g7⟩⟩⟩⟩⟩⟩⟩⟩ := h
    exact ⟨v2, v7, rfl, g2, Kd.fix_R g7⟩
theorem k25_mk (w : World) (x : S25) {A2 : Option Addr} {c2 : Nat} (l2 : x.f2.length ≤ c2) (g2 : (Kd.int .i32).C w A2 x.f2.length x.f2) {A7 : Option Addr} {c7 : Nat} (l7 : x.f7.length ≤ c7) (g7 : k25.C w A7 x.f7.length x.f7) : k25.K w x [.int .i64 x.f0, .int .i64 x.f1, .slice A2 x.f2.length c2, .int .i64 x.f3, .int .i64 x.f4, .int .i64 x.f5, .string x.f6, .slice A7 x.f7.length c7] := by
  obtain ⟨n7, q7⟩ := Kd.fix_C_back mono25 g7
  have r7 := Kd.upto_C_le mono25 sz25 (show n7 ≤ n7 by omega) q7
  exact ⟨n7 + 1, ⟨[.int .i64 x.f0], [.int .i64 x.f1, .slice A2 x.f2.length c2, .int .i64 x.f3, .int .i64 x.f4, .int .i64 x.f5, .string x.f6, .slice A7 x.f7.length c7], rfl, rfl, ⟨[.int .i64 x.f1], [.slice A2 x.f2.length c2, .int .i64 x.f3, .int .i64 x.f4, .int .i64 x.f5, .string x.f6, .slice A7 x.f7.length c7], rfl, rfl, ⟨[.slice A2 x.f2.length c2], [.int .i64 x.f3, .int .i64 x.f4, .int .i64 x.f5, .string x.f6, .slice A7 x.f7.length c7], rfl, ⟨A2, c2, rfl, l2, g2⟩, ⟨[.int .i64 x.f3], [.int .i64 x.f4, .int .i64 x.f5, .string x.f6, .slice A7 x.f7.length c7], rfl, rfl, ⟨[.int .i64 x.f4], [.int .i64 x.f5, .string x.f6, .slice A7 x.f7.length c7], rfl, rfl, ⟨[.int .i64 x.f5], [.string x.f6, .slice A7 x.f7.length c7], rfl, rfl, ⟨[.string x.f6], [.slice A7 x.f7.length c7], rfl, rfl, ⟨A7, c7, rfl, l7, r7⟩⟩⟩⟩⟩⟩⟩⟩⟩
theorem k25_mkM (w : World) (base : Nat) (ok : Nat → Prop) (x : S25) {v2 : Value} (g2 : (Kd.int .i32).R 21 w base ok v2 x.f2) {v7 : Value} (g7 : k25.R 25 w base ok v7 x.f7) : k25.M w base ok x [.int .i64 x.f0, .int .i64 x.f1, v2, .int .i64 x.f3, .int .i64 x.f4, .int .i64 x.f5, .string x.f6, v7] := by
  obtain ⟨n7, q7⟩ := Kd.fix_R_back mono25 g7
  have r7 := Kd.upto_R_le mono25 sz25 (show n7 ≤ n7 by omega) q7
  exact ⟨n7 + 1, ⟨[.int .i64 x.f0], [.int .i64 x.f1, v2, .int .i64 x.f3, .int .i64 x.f4, .int .i64 x.f5, .string x.f6, v7], rfl, rfl, ⟨[.int .i64 x.f1], [v2, .int .i64 x.f3, .int .i64 x.f4, .int .i64 x.f5, .string x.f6, v7], rfl, rfl, ⟨[v2], [.int .i64 x.f3, .int .i64 x.f4, .int .i64 x.f5, .string x.f6, v7], rfl, ⟨v2, rfl, g2⟩, ⟨[.int .i64 x.f3], [.int .i64 x.f4, .int .i64 x.f5, .string x.f6, v7], rfl, rfl, ⟨[.int .i64 x.f4], [.int .i64 x.f5, .string x.f6, v7], rfl, rfl, ⟨[.int .i64 x.f5], [.string x.f6, v7], rfl, rfl, ⟨[.string x.f6], [v7], rfl, rfl, ⟨v7, rfl, r7⟩⟩⟩⟩⟩⟩⟩⟩⟩
def rd_T25 (xs : List S25) (i : Int) : S25 := xs.getD i.toNat z25
theorem at_T25 {w : World} {A : Option Addr} {n : Nat} {xs : List S25} (h : Kd.C k25 w A n xs) (i : Int) (h0 : 0 ≤ i) (h1 : i < n) : ∃ ad A2 c2 A7 c7, A = some ad ∧ w.cell? (ad.add (i.toNat * 8)) = some (.int .i64 (rd_T25 xs i).f0) ∧ w.cell? ⟨(ad.add (i.toNat * 8)).block, (ad.add (i.toNat * 8)).off + 1, none⟩ = some (.int .i64 (rd_T25 xs i).f1) ∧ w.cell? ⟨(ad.add (i.toNat * 8)).block, (ad.add (i.toNat * 8)).off + 2, none⟩ = some (.slice A2 (rd_T25 xs i).f2.length c2) ∧ w.cell? ⟨(ad.add (i.toNat * 8)).block, (ad.add (i.toNat * 8)).off + 3, none⟩ = some (.int .i64 (rd_T25 xs i).f3) ∧ w.cell? ⟨(ad.add (i.toNat * 8)).block, (ad.add (i.toNat * 8)).off + 4, none⟩ = some (.int .i64 (rd_T25 xs i).f4) ∧ w.cell? ⟨(ad.add (i.toNat * 8)).block, (ad.add (i.toNat * 8)).off + 5, none⟩ = some (.int .i64 (rd_T25 xs i).f5) ∧ w.cell? ⟨(ad.add (i.toNat * 8)).block, (ad.add (i.toNat * 8)).off + 6, none⟩ = some (.string (rd_T25 xs i).f6) ∧ w.cell? ⟨(ad.add (i.toNat * 8)).block, (ad.add (i.toNat * 8)).off + 7, none⟩ = some (.slice A7 (rd_T25 xs i).f7.length c7) ∧ (rd_T25 xs i).f2.length ≤ c2 ∧ (Kd.int .i32).C w A2 (rd_T25 xs i).f2.length (rd_T25 xs i).f2 ∧ (rd_T25 xs i).f7.length ≤ c7 ∧ k25.C w A7 (rd_T25 xs i).f7.length (rd_T25 xs i).f7 := by
  obtain ⟨ad, c, e, _, hK, hc0⟩ := Kd.C_get h z25 i h0 h1
  have hc : ∀ j u, c[j]? = some u → w.cell? (ad.add (i.toNat * 8 + j)) = some u := hc0
  obtain ⟨A2, c2, A7, c7, rfl, l2, g2, l7, g7⟩ := k25_open hK
  exact ⟨ad, A2, c2, A7, c7, e, hc 0 _ rfl, by rw [← add_field _ _ 1 (by omega)]; exact hc 1 _ rfl, by rw [← add_field _ _ 2 (by omega)]; exact hc 2 _ rfl, by rw [← add_field _ _ 3 (by omega)]; exact hc 3 _ rfl, by rw [← add_field _ _ 4 (by omega)]; exact hc 4 _ rfl, by rw [← add_field _ _ 5 (by omega)]; exact hc 5 _ rfl, by rw [← add_field _ _ 6 (by omega)]; exact hc 6 _ rfl, by rw [← add_field _ _ 7 (by omega)]; exact hc 7 _ rfl, l2, g2, l7, g7⟩

end Go.Proofs.YtofkpinikkfmeaaDoor.PFnMtLeast
