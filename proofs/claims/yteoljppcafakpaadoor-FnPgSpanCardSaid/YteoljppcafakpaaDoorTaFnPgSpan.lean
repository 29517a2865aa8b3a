import Derived.Test.YteoljppcafakpaaDoorNcFnPgSpan
import Derived.Test.YteoljppcafakpaaDoorCbFnPgSpan
import Derived.Test.YteoljppcafakpaaDoorSi
import Derived.Test.YteoljppcafakpaaDoorShelf
import Derived.Lib.TrimU
import Derived.Lib.RuneCountTail
import Derived.Shelf.Unicode.DecodeLastEight
import Derived.Deep.AppendLies
namespace Go.Proofs.YteoljppcafakpaaDoor.PgFnPgSpan
open Go.RowKit Go.Proofs.YteoljppcafakpaaDoor.EvN Go.Proofs.YteoljppcafakpaaDoor.Row Go.Proofs.YteoljppcafakpaaDoor.Sf Go.Proofs.YteoljppcafakpaaDoor.PFnPgSpan Go.Proofs.YteoljppcafakpaaDoorW.PrintWords Go.Proofs.YteoljppcafakpaaDoorW.PrintLast Go.Proofs.YteoljppcafakpaaDoorW.PrintMore
set_option linter.unusedSimpArgs false
set_option linter.unusedVariables false
theorem app2 {P : Program} {w : World} {ops : Array Oper} {rest : List Oper} {o : Oper} {a : Act} {Q : Exit → Act → World → Prop} (hgd : o.guard = none) (s x : Operand) (t : TypeId)
    (ho : o.op = .call { callee := .builtin .append, args := #[s, x], argTypes := #[t, t] })
    (e : TypeId) (z : Value) (bytes : Nat) (ht : P.underlying t = some (.slice e)) (hinfo : (P.info? e).map (fun i => (i.zero, i.size, i.bytes)) = some (some z, 1, bytes)) (hz1 : z.cells.size = 1)
    (v : Value) (n : Nat) (xs : List Value) (hs : a.eval s = v) (B B2 : Nat) (w0 : World) (hown : w.ownsRow B e 1 v n xs) (hB : Below B2 w0 w) (hB2 : B2 ≤ B) (hBw : B2 ≤ w0.heap.size) (hBs : B ≤ w.heap.size)
    (g : Nat) (hx : a.eval x = .slice (some ⟨g, 0, none⟩) 1 1) (u : Value) (hc : w.cell? ⟨g, 0, none⟩ = some u) (h1 : u.oneCell' = true)
    (hbytes : (n + 1) * bytes ≤ 140737488355328) (hn : n + 1 ≤ maxLen)
    (h : ∀ gn cap w', Hid (w'.ownsRow B e 1 (.slice (some ⟨gn, 0, none⟩) (n + 1) cap) (n + 1) (xs ++ [u])) → Hid (Below B2 w0 w') → Hid (w.grownBy w' v.ownBlock) → Hid ((v.ownBlock = some gn ∨ gn = w.heap.size) ∧ gn < w'.heap.size) →
      wpList P ops Q rest (a.put o.dst (.slice (some ⟨gn, 0, none⟩) (n + 1) cap)) w') : wpList P ops Q (o :: rest) a w := by
  obtain ⟨i, hi, hz, hsize, hby⟩ := info_parts hinfo
  refine wpList_append_lies _ hgd s x t ho B e i z 1 bytes ht hi hz hsize hby hz1 (by decide) v n xs hs hown ⟨g, 0, none⟩ 1 1 [u] hx rfl ?_ ?_ (by decide) hn hbytes hBs _ rfl ?_
  · intro j y hj
    match j, hj with
    | 0, hj => simp at hj; subst hj; simpa [Addr.add] using hc
  · intro y hy; simp at hy; subst hy; exact h1
  · intro gn cap w' hown' hgrow hat hlt
    exact h gn cap w' hown' (hB.grown hgrow (Nat.le_trans hBw hB.size) (fun k hk => Nat.le_trans hB2 (hown.lt k hk).1)) hgrow ⟨hat, hlt⟩
def inCls : List Int → Int → Bool
  | a :: b :: r, c => (decide (a ≤ c) && decide (c ≤ b)) || inCls r c
  | _, _ => false
def takesB (i : I) (c : Int) : Bool :=
  if i.f0 = 8 then i.f3.getD 0 0 == c else if i.f0 = 9 then true else if i.f0 = 10 then c != 10
  else if i.f3.length = 1 then (c == i.f3.getD 0 0) || ((i.f2 == 1) && foldsB (i.f3.getD 0 0).toNat c) else inCls i.f3 c
theorem decode_tail (s : ByteArray) (pos : Nat) (h : pos < s.size) : Lib.decodeGo (s.extract pos s.size) = Utf8.decode s pos := by
  unfold Lib.decodeGo
  rw [if_neg (by rw [Lib.tail_size]; omega), Lib.tail_decode, Nat.add_zero]
def dec (s : ByteArray) (i : Nat) : Int × Nat := if s.size ≤ i then (-1, 0) else (((Utf8.decode s i).1 : Int), (Utf8.decode s i).2)
def lastR (s : ByteArray) (i : Nat) : Int := if i = 0 then -1 else ((Lib.decodeLastL (s.data.toList.take i)).1 : Int)
def hasM (L : List I) (D : List Nat) : Bool := D.any fun pc => (ins L pc).f0 == 4
def goes (L : List I) (c : Int) (pc : Nat) : Bool := !((ins L pc).f0 == 4) && waitsB (ins L pc) && takesB (ins L pc) c
def nextP (L : List I) (c : Int) (D : List Nat) : List Nat := (D.filter (goes L c)).map fun pc => (ins L pc).f1.toNat
def endsF (L : List I) (s : ByteArray) : Nat → List Nat → Int → Nat → List Nat
  | 0, _, _, _ => []
  | n + 1, pcs, last, i =>
    if pcs = [] then []
    else (if hasM L (reachA L (condZ last (dec s i).1) [] pcs) then [i] else []) ++
      endsF L s n (if (dec s i).2 = 0 then [] else nextP L (dec s i).1 (reachA L (condZ last (dec s i).1) [] pcs)) (dec s i).1 (i + (dec s i).2)
theorem endsF_nil (L : List I) (s : ByteArray) (n : Nat) (last : Int) (i : Nat) : endsF L s n [] last i = [] := by
  cases n with
  | zero => rfl
  | succ n => rw [endsF, if_pos rfl]
theorem dec_w (s : ByteArray) (i : Nat) : (dec s i).2 = 0 ↔ s.size ≤ i := by
  unfold dec
  by_cases h : s.size ≤ i
  · rw [if_pos h]; simp [h]
  · rw [if_neg h]
    have := Lib.width_pos s i
    simp only; omega
theorem dec_le (s : ByteArray) (i : Nat) (h : i ≤ s.size) : i + (dec s i).2 ≤ s.size := by
  unfold dec
  by_cases h1 : s.size ≤ i
  · rw [if_pos h1]; exact h
  · rw [if_neg h1]
    have h2 := Lib.decodeGo_le_size (s.extract i s.size)
    rw [decode_tail s i (by omega)] at h2
    have h3 : (s.extract i s.size).size = s.size - i := by simp
    simp only; omega
end Go.Proofs.YteoljppcafakpaaDoor.PgFnPgSpan
