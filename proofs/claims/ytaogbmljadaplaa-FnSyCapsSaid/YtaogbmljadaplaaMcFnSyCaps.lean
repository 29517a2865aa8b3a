/- The walks of MaxCap, capNames and CapNames. -/
import Derived.Test.YtaogbmljadaplaaTfFnSyCaps
namespace Go.Proofs.Ytaogbmljadaplaa.TrFnSyCaps
open Go.RowKit Go.Proofs.Ytaogbmljadaplaa.PFnSyCaps Go.Proofs.YtaogbmljadaplaaW.PrintWords Go.Proofs.YtaogbmljadaplaaW.PrintLast Go.Proofs.YtaogbmljadaplaaW.PrintMore

mutual
def mc : T → Int
  | ⟨op, _, _, _, _, cp, _, l⟩ => mcL (if op % 256 = 13 then cp else 0) l
def mcL : Int → List T → Int
  | m, [] => m
  | m, t :: r => mcL (if m < mc t then mc t else m) r
end
theorem mc_eq (t : T) : mc t = mcL (if t.f0 % 256 = 13 then t.f5 else 0) t.f7 := by cases t; rw [mc]
theorem mcL_take (l : List T) (m : Int) (k : Nat) (h : k < l.length) : mcL m (l.take (k + 1)) = if mcL m (l.take k) < mc l[k] then mc l[k] else mcL m (l.take k) := by
  induction l generalizing k m with
  | nil => simp at h
  | cons a l ih =>
    cases k with
    | zero => simp [mcL]
    | succ k =>
      simp only [List.take_succ_cons, mcL, List.getElem_cons_succ]
      exact ih _ k (by simpa using h)

mutual
def cn : List ByteArray → T → List ByteArray
  | ns, ⟨op, _, _, _, _, cp, nm, l⟩ => cnL (if op % 256 = 13 then ns.set cp.toNat nm else ns) l
def cnL : List ByteArray → List T → List ByteArray
  | ns, [] => ns
  | ns, t :: r => cnL (cn ns t) r
end
theorem cn_eq (ns : List ByteArray) (t : T) : cn ns t = cnL (if t.f0 % 256 = 13 then ns.set t.f5.toNat t.f6 else ns) t.f7 := by cases t; rw [cn]
theorem cnL_take (l : List T) (ns : List ByteArray) (k : Nat) (h : k < l.length) : cnL ns (l.take (k + 1)) = cn (cnL ns (l.take k)) l[k] := by
  induction l generalizing k ns with
  | nil => simp at h
  | cons a l ih =>
    cases k with
    | zero => simp [cnL]
    | succ k =>
      simp only [List.take_succ_cons, cnL, List.getElem_cons_succ]
      exact ih _ k (by simpa using h)

theorem cn_length (t : T) : ∀ ns, (cn ns t).length = ns.length := by
  refine tree_ind (p := fun t => ∀ ns, (cn ns t).length = ns.length) ?_ t
  intro t ih ns
  rw [cn_eq]
  have hL : ∀ (l : List T), (∀ s ∈ l, ∀ ns, (cn ns s).length = ns.length) → ∀ ns, (cnL ns l).length = ns.length := by
    intro l
    induction l with
    | nil => intro _ ns; rw [cnL]
    | cons a l ihl => intro h ns; rw [cnL, ihl (fun s hs => h s (by simp [hs])), h a (by simp)]
  rw [hL _ ih]
  split <;> simp
theorem cnL_length (l : List T) (ns : List ByteArray) : (cnL ns l).length = ns.length := by
  induction l generalizing ns with
  | nil => rw [cnL]
  | cons a l ih => rw [cnL, ih, cn_length]

abbrev MaxSaid (t : T) : Prop := ∀ (w : World) (S : Nat → Prop) (b : Nat), RegAt w S b t → Calls Try.prog 40 #[ptr b] w fun e w' => e = .returned (.int .i64 (mc t)) ∧ Below w.heap.size w w'

set_option maxRecDepth 100000 in
set_option maxHeartbeats 4000000 in
theorem max_calls (t : T) : MaxSaid t := by
  refine tree_ind (p := MaxSaid) ?_ t
  intro t ih w S b hR
  obtain ⟨As, cs, Ar, cr, bs, hc, l7, m7, m2, hl, hk, _, _⟩ := hR.open_
  have HIH := Lib.hid ih
  have HK := Lib.hid hk
  have HC := Lib.hid hc
  have HL := Lib.hid hl
  clear ih hk hl hR
  obtain ⟨hy0, hy1, hy2, hy3, hy4, hy5, hy6, hy7, hy8, hy9, hy10⟩ := blk11 hc
  clear hc
  by_cases h13 : t.f0 % 256 = 13
  all_goals
    go_enter Try.func40, Try.ntmps40
    go_wp2_with fail
    clear hy0 hy1 hy2 hy3 hy4 hy5 hy6 hy7 hy8 hy9 hy10
    have H13 := Lib.hid h13
    clear h13
    try generalize (t.f0 % 256 == 13) = bb
    go_loopg [3, 21] t.f7.length (fun gk s3 s21 wr => ∃ (k : Nat) (m : Int), Hid (gk + k = t.f7.length ∧ m = mcL (if t.f0 % 256 = 13 then t.f5 else 0) (t.f7.take k) ∧ Below w.heap.size w wr) ∧ k ≤ t.f7.length ∧ s3 = .int .i64 m ∧ s21 = .int .i64 k)
    case atStart => exact ⟨0, _, ⟨by omega, by first | rw [if_pos H13.out, List.take_zero, mcL] | rw [if_neg H13.out, List.take_zero, mcL], Below.refl _ _⟩, Nat.zero_le _, rfl, rfl⟩
    case round =>
      obtain ⟨k, m, HI, hk, rfl, rfl⟩ := hrel
      by_cases hlt : k < t.f7.length
      · obtain ⟨⟨ad, e, hsa, hx⟩, hr⟩ := HK.out k (by have := HL.out; omega) hlt
        cases e
        replace hx := (HI.out.2.2.cell (World.block_lt_of_cell? w _ hx)).trans hx
        have HR := Lib.hid hr
        clear hr
        go_wp2_with fail
        refine (HIH.out t.f7[k] (List.getElem_mem hlt) _ S _ (HR.out.mono fun i hi hs => ⟨hs, HI.out.2.2.block i hi⟩)).mono ?_
        rintro e w2 ⟨rfl, hb2⟩
        have HB2 := Lib.hid (below_step HI.out.2.2 hb2)
        clear hb2 hx
        have HT := Lib.hid (mcL_take t.f7 (if t.f0 % 256 = 13 then t.f5 else 0) k hlt)
        rw [← HI.out.2.1] at HT
        by_cases hm : m < mc t.f7[k]
        · go_wp2_with fail
          go_roundg (gk - 1)
          case measure => have := HI.out.1; omega
          case rel => exact ⟨k + 1, _, ⟨by have := HI.out.1; omega, by rw [HT.out, if_pos hm], HB2.out⟩, by omega, rfl, by go_num⟩
        · go_wp2_with fail
          go_roundg (gk - 1)
          case measure => have := HI.out.1; omega
          case rel => exact ⟨k + 1, _, ⟨by have := HI.out.1; omega, by rw [HT.out, if_neg (by omega)], HB2.out⟩, by omega, rfl, by go_num⟩
      · have hke : k = t.f7.length := by omega
        subst hke
        go_wp2_with fail
        go_ret
        exact ⟨by rw [mc_eq, HI.out.2.1, List.take_length]; rfl, HI.out.2.2⟩

/-- Where the names lie. -/
abbrev NamesAt (w : World) (g : Nat) (ns : List ByteArray) : Prop := w.heap[g]? = some (.cells (ns.map Value.string).toArray 9 (0, 0))

/-- Every group's number is one of those below n. -/
inductive CapsIn (n : Int) : T → Prop
  | mk (t : T) (h : t.f0 % 256 = 13 → 0 ≤ t.f5 ∧ t.f5 < n) (hs : ∀ s ∈ t.f7, CapsIn n s) : CapsIn n t

abbrev NamesSaid (t : T) : Prop := ∀ (w : World) (S : Nat → Prop) (b g : Nat) (ns : List ByteArray), RegAt w S b t → ¬ S g → NamesAt w g ns → CapsIn ns.length t → ns.length ≤ 9223372036854775807 →
    Calls Try.prog 57 #[ptr b, .slice (some ⟨g, 0, none⟩) ns.length ns.length] w fun e w' => e = .returned (.tuple #[]) ∧ NamesAt w' g (cn ns t) ∧ w.grownBy w' (some g)

theorem RegAt.self {w : World} {S : Nat → Prop} {b : Nat} {t : T} (h : RegAt w S b t) : S b := by cases h; assumption

theorem NamesAt.set {w : World} {g : Nat} {ns : List ByteArray} (h : NamesAt w g ns) (k : Nat) (s : ByteArray) : NamesAt (w.setCell ⟨g, k, none⟩ (.string s)) g (ns.set k s) := by
  have := blk_set h k (.string s)
  rw [List.setIfInBounds_toArray, ← List.map_set] at this
  exact this

set_option maxRecDepth 100000 in
set_option maxHeartbeats 4000000 in
theorem names_calls (t : T) : NamesSaid t := by
  refine tree_ind (p := NamesSaid) ?_ t
  intro t ih w S b g ns hR hg hN hC hnl
  obtain ⟨As, cs, Ar, cr, bs, hc, l7, m7, m2, hl, hk, _, _⟩ := hR.open_
  have hgb : b ≠ g := fun e => hg (e ▸ hR.self)
  obtain ⟨_, hcp, hcs⟩ := hC
  have HIH := Lib.hid ih
  have HK := Lib.hid hk
  have HC := Lib.hid hc
  have HL := Lib.hid hl
  have HN := Lib.hid hN
  have HCS := Lib.hid hcs
  have HCP := Lib.hid hcp
  have HS := Lib.hid hg
  clear ih hk hl hR hN hcs hcp hg
  obtain ⟨hy0, hy1, hy2, hy3, hy4, hy5, hy6, hy7, hy8, hy9, hy10⟩ := blk11 hc
  clear hc
  go_enter Try.func57, Try.ntmps57
  go_upto_if 10 with (fail)
  go_cut [20] (fun _v wc => Hid (NamesAt wc g (if t.f0 % 256 = 13 then ns.set t.f5.toNat t.f6 else ns) ∧ w.grownBy wc (some g)))
  case first =>
    by_cases h13 : t.f0 % 256 = 13
    · obtain ⟨hp0, hp1⟩ := HCP.out h13
      go_upto_region 1 with (fail)
      have hgf := blk_frozen HN.out t.f5.toNat
      have hgc : w.cell? ⟨g, t.f5.toNat, none⟩ = some (.string (ns[t.f5.toNat]'(by omega))) := by
        rw [blk_cell HN.out]; simp
      go_region
      all_goals
        go_wp2_with fail
        go_meet
        first
          | exact Lib.hid ⟨by rw [if_pos h13]; exact (HN.out.set t.f5.toNat t.f6), grown_drew (grown_set (grown_refl w (some g)) _ _)⟩
          | (case rel => exact Lib.hid ⟨by rw [if_pos h13]; exact (HN.out.set t.f5.toNat t.f6), grown_drew (grown_set (grown_refl w (some g)) _ _)⟩)
    · go_wp2_with fail
      go_meet
      exact Lib.hid ⟨by rw [if_neg h13]; exact HN.out, grown_refl w (some g)⟩
  case rest =>
    have HNS : Hid (∃ ns' : List ByteArray, ns' = (if t.f0 % 256 = 13 then ns.set t.f5.toNat t.f6 else ns) ∧ ns'.length = ns.length) := ⟨_, rfl, by split <;> simp⟩
    obtain ⟨ns', hns', hnl'⟩ := HNS.out
    rw [← hns'] at hcut
    have HE := Lib.hid hns'
    have HLE := Lib.hid hnl'
    clear HNS hns' hnl' hy0 hy1 hy2 hy3 hy4 hy5 hy6 hy7 hy8 hy9 hy10
    have HCW := Lib.hid ((hcut.out.2.block b (blk_lt HC.out) (fun e => by cases e; exact hgb rfl)).trans HC.out)
    obtain ⟨hy0, hy1, hy2, hy3, hy4, hy5, hy6, hy7, hy8, hy9, hy10⟩ := blk11 HCW.out
    go_wp2_with fail
    clear hy0 hy1 hy2 hy3 hy4 hy5 hy6 hy7 hy8 hy9 hy10
    go_loopg [26] t.f7.length (fun gk s26 wr => ∃ (k : Nat), Hid (gk + k = t.f7.length ∧ NamesAt wr g (cnL ns' (t.f7.take k)) ∧ w.grownBy wr (some g)) ∧ k ≤ t.f7.length ∧ s26 = .int .i64 k)
    case atStart => exact ⟨0, ⟨by omega, by simpa [cnL] using hcut.out.1, hcut.out.2⟩, Nat.zero_le _, rfl⟩
    case round =>
      obtain ⟨k, HI, hk, rfl⟩ := hrel
      by_cases hlt : k < t.f7.length
      · obtain ⟨⟨ad, e, hsa, hx⟩, hr⟩ := HK.out k (by have := HL.out; omega) hlt
        cases e
        have hab : (ad.add k).block = ad.block := by unfold Addr.add; split <;> rfl
        have hxg : (ad.add k).block ≠ g := fun e => HS.out (e ▸ hab ▸ hsa)
        clear hab
        replace hx := (World.cell?_of_block (HI.out.2.2.block (ad.add k).block (World.block_lt_of_cell? w _ hx) (fun e => by cases e; exact hxg rfl))).trans hx
        have HR := Lib.hid hr
        clear hr
        go_wp2_with fail
        have HLN : Hid ((cnL ns' (t.f7.take k)).length = ns.length) := Lib.hid (by rw [cnL_length, HLE.out])
        rw [← HLN.out]
        refine (HIH.out t.f7[k] (List.getElem_mem hlt) _ S _ g (cnL ns' (t.f7.take k)) (HR.out.mono fun i hi hs => ⟨hs, HI.out.2.2.block i hi (fun e => by cases e; exact HS.out hs)⟩) HS.out HI.out.2.1 (by rw [HLN.out]; exact HCS.out _ (List.getElem_mem hlt)) (by rw [HLN.out]; exact hnl)).mono ?_
        rintro e w2 ⟨rfl, hn2, hg2⟩
        have HN2 := Lib.hid hn2
        have HG2 := Lib.hid (grown_trans HI.out.2.2 hg2)
        clear hn2 hg2 hx
        rw [HLN.out]
        go_wp2_with fail
        go_roundg (gk - 1)
        case measure => have := HI.out.1; omega
        case rel => exact ⟨k + 1, ⟨by have := HI.out.1; omega, by rw [cnL_take t.f7 ns' k hlt]; exact HN2.out, HG2.out⟩, by omega, by go_num⟩
      · have hke : k = t.f7.length := by omega
        subst hke
        go_wp2_with fail
        go_end0
        exact ⟨rfl, by rw [cn_eq, ← HE.out]; have := HI.out.2.1; rwa [List.take_length] at this, HI.out.2.2⟩

end Go.Proofs.Ytaogbmljadaplaa.TrFnSyCaps
