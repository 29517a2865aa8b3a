/- Words that my walks share: an append of one value to a slice of the call's own; a made row; small facts. No program is named here. -/
import Derived.WalkKit
import Derived.WalkSpells
import Derived.WalkLawsBesides
import Derived.BigRegion
import Derived.RegionTactic
import Derived.BigQuiet
import Derived.Deep.QuietTactic
import Derived.Deep.OwnRows
import Derived.Deep.LoopGhost
import Derived.Lib.Hide
import Derived.LoopN
import Derived.LoopTactic
import Derived.Laws.Rows
namespace Go.Proofs.YtkcnodkojllobaaDoor.My
open Go.RowKit

theorem ret_bool {a b : Bool} (h : a = b) : Ending.returned (.bool a) = .returned (.bool b) := by rw [h]
theorem ret_int {k : IntKind} {a b : Int} (h : a = b) : Ending.returned (.int k a) = .returned (.int k b) := by rw [h]
theorem ret_str {a b : ByteArray} (h : a = b) : Ending.returned (.string a) = .returned (.string b) := by rw [h]

/-- append(v, u): one value of one cell, to a slice that the call owns. -/
theorem app1 {P : Program} {w : World} {ops : Array Oper} {rest : List Oper} {o : Oper} {a : Act} {Q : Exit → Act → World → Prop} (hgd : o.guard = none) (s x : Operand) (t : TypeId)
    (ho : o.op = .call { callee := .builtin .append, args := #[s, x], argTypes := #[t, t] })
    (e : TypeId) (z : Value) (bytes : Nat) (ht : P.underlying t = some (.slice e)) (hinfo : (P.info? e).map (fun i => (i.zero, i.size, i.bytes)) = some (some z, 1, bytes)) (hz1 : z.cells.size = 1)
    (v : Value) (n : Nat) (xs : List Value) (hs : a.eval s = v) (B : Nat) (w0 : World) (hown : w.ownsRow B e 1 v n xs) (hB : Below B w0 w) (hBw : B ≤ w0.heap.size)
    (g : Nat) (hx : a.eval x = .slice (some ⟨g, 0, none⟩) 1 1) (u : Value) (hc : w.cell? ⟨g, 0, none⟩ = some u) (h1 : u.oneCell' = true)
    (hbytes : (n + 1) * bytes ≤ 140737488355328) (hn : n + 1 ≤ maxLen)
    (h : ∀ v' w', Hid (w'.ownsRow B e 1 v' (n + 1) (xs ++ [u])) → Hid (Below B w0 w') → Hid (w.grownBy w' v.ownBlock) → wpList P ops Q rest (a.put o.dst v') w') : wpList P ops Q (o :: rest) a w := by
  obtain ⟨i, hi, hz, hsize, hby⟩ := info_parts hinfo
  refine wpList_append_own w hgd s x t ho B e i z 1 bytes ht hi hz hsize hby hz1 (by decide) v n xs hs hown ⟨g, 0, none⟩ 1 1 [u] hx rfl ?_ ?_ hn hbytes (Nat.le_trans hBw hB.size) ?_
  · intro j y hj
    match j, hj with
    | 0, hj => simp at hj; subst hj; simpa [Addr.add] using hc
  · intro y hy; simp at hy; subst hy; exact h1
  · intro v' w' hown' hgrow _
    exact h v' w' hown' (hB.grown hgrow (Nat.le_trans hBw hB.size) (fun k hk => (hown.lt k hk).1)) hgrow

end Go.Proofs.YtkcnodkojllobaaDoor.My
