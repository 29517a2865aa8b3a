/- The walks of slices.EqualFunc and of Equal. -/
import Derived.Test.YtaogbmljadaplaaEaFnSyEqual
import Derived.Test.YtaogbmljadaplaaTfFnSyEqual
namespace Go.Proofs.Ytaogbmljadaplaa.TrFnSyEqual
open Go.RowKit Go.Proofs.Ytaogbmljadaplaa.PFnSyEqual Go.Proofs.YtaogbmljadaplaaW.PrintWords Go.Proofs.YtaogbmljadaplaaW.PrintLast Go.Proofs.YtaogbmljadaplaaW.PrintMore

theorem RegAt.drawn {w w' : World} {S : Nat → Prop} {b : Nat} {t : T} (h : RegAt w S b t) (hd : Drawn0 w w') : RegAt w' S b t :=
  h.mono fun i hi hs => ⟨hs, hd.below.block i hi⟩
theorem drawn_trans {a b c : World} (h : Drawn0 a b) (k : Drawn0 b c) : Drawn0 a c := by
  obtain ⟨n, rfl⟩ := h
  obtain ⟨m, rfl⟩ := k
  exact ⟨⟨n + m, by rw [World.drewN_drewN]⟩⟩

abbrev EqSaid (x : T) : Prop := ∀ y : T, AllN Shp x → AllN Shp y → ∀ (w : World) (S S' : Nat → Prop) (a b : Nat), RegAt w S a x → RegAt w S' b y →
    Calls Try.prog 45 #[ptr a, ptr b] w fun e w' => e = .returned (.bool (same x y)) ∧ Drawn0 w w'

theorem EqSaid.quiet {x y : T} (h : EqSaid x) (hX : AllN Shp x) (hY : AllN Shp y) {w w1 : World} {S S' : Nat → Prop} {a b : Nat} (hx : RegAt w S a x) (hy : RegAt w S' b y) (hd : Drawn0 w w1) (n : Nat) :
    Calls Try.prog 45 #[ptr a, ptr b] (w1.drewN n) fun e w' => e = .returned (.bool (same x y)) ∧ ∃ m, w' = w1.drewN m :=
  Calls.quiet_of ((h y hX hY (w1.drewN n) S S' a b (hx.drawn (hd.step n)) (hy.drawn (hd.step n))).mono fun _ _ ⟨he, hw⟩ => ⟨he, hw.out⟩)

theorem sleq_quiet {x y : List Int} (hl : x.length ≤ 4611686018427387000) {w w1 : World} {A B : Option Addr} {ca cb : Nat} (hx : Kd.C (Kd.int .i32) w A x.length x) (h1 : x.length ≤ ca) (hy : Kd.C (Kd.int .i32) w B y.length y) (h2 : y.length ≤ cb) (hd : Drawn0 w w1) (n : Nat) :
    Calls Try.prog 58 #[.slice A x.length ca, .slice B y.length cb] (w1.drewN n) fun e w' => e = .returned (.bool (decide (x = y))) ∧ ∃ m, w' = w1.drewN m := by
  obtain ⟨K, hK⟩ := ev_slEq x y hl
  refine Calls.quiet_of ((slices_Equal_rune_rune.calls K A ca x B cb y (decide (x = y)) (w1.drewN n) (Kd.C_below hx (hd.step n).below) h1 (Kd.C_below hy (hd.step n).below) h2 (hK K (Nat.le_refl _))).mono fun _ _ ⟨he, hw⟩ => ⟨he, hw.out⟩)

/-- Where pointers to trees lie, one behind the other. -/
abbrev RowR (w : World) (S : Nat → Prop) (A : Option Addr) (l : List T) (bs : List Nat) : Prop :=
  bs.length = l.length ∧ ∀ k (h : k < bs.length) (h' : k < l.length), (∃ ad, A = some ad ∧ S ad.block ∧ w.cell? (ad.add k) = some (ptr bs[k])) ∧ RegAt w S bs[k] l[k]

theorem RowR.first {w w1 : World} {S : Nat → Prop} {A : Option Addr} {l : List T} {bs : List Nat} (h : RowR w S A l bs) {s : T} (hl : l = [s]) (hd : Drawn0 w w1) :
    ∃ ad p, A = some ad ∧ w1.cell? (ad.add 0) = some (ptr p) ∧ w1.cell? ad = some (ptr p) ∧ RegAt w S p s := by
  subst hl
  obtain ⟨h1, h2⟩ := h
  obtain ⟨⟨ad, e, _, hc⟩, hr⟩ := h2 0 (by rw [h1]; simp) (by simp)
  have hc' := (hd.below.cell (World.block_lt_of_cell? w _ hc)).trans hc
  refine ⟨ad, _, e, hc', ?_, hr⟩
  have : ad.add 0 = ad := by unfold Addr.add; split <;> simp_all
  rwa [this] at hc'

set_option maxRecDepth 100000 in
set_option maxHeartbeats 4000000 in
theorem eqf_calls (l m : List T) (ih : ∀ s ∈ l, EqSaid s) (hl : ∀ s ∈ l, AllN Shp s) (hm : ∀ s ∈ m, AllN Shp s) (w : World) (S S' : Nat → Prop) (A B : Option Addr) (ca cb : Nat) (bs cs : List Nat)
    (h1 : RowR w S A l bs) (h2 : RowR w S' B m cs) (l1 : l.length ≤ ca) (l2 : m.length ≤ cb) (b1 : l.length ≤ 9223372036854775807) (b2 : m.length ≤ 9223372036854775807) :
    Calls Try.prog 59 #[.slice A l.length ca, .slice B m.length cb, .func (.func 45) #[] #[]] w
      fun e w' => e = .returned (.bool (if l.length = m.length then sameL l m else false)) ∧ Drawn0 w w' := by
  have H1 := Lib.hid h1
  have H2 := Lib.hid h2
  have HIH := Lib.hid ih
  have HL := Lib.hid hl
  have HM := Lib.hid hm
  clear h1 h2 ih hl hm
  by_cases hlm : l.length = m.length
  · have HLM := Lib.hid hlm
    rw [if_pos hlm]
    rw [← hlm] at l2 b2 ⊢
    clear hlm
    go_enter Try.func59, Try.ntmps59
    go_wp2_with fail
    go_loopg [17] l.length (fun gk s17 wr => ∃ k : Nat, Hid (gk + k = l.length ∧ Drawn0 w wr ∧ sameL (l.take k) (m.take k) = true) ∧ k ≤ l.length ∧ s17 = .int .i64 k)
    case atStart => exact ⟨0, ⟨by omega, Drawn0.refl _, by simp [sameL]⟩, Nat.zero_le _, rfl⟩
    case round =>
      obtain ⟨k, HI, hk, rfl⟩ := hrel
      by_cases hlt : k < l.length
      · have hlt2 : k < m.length := by rw [← HLM.out]; exact hlt
        obtain ⟨⟨ad, e, _, hx⟩, hr⟩ := H1.out.2 k (by rw [H1.out.1]; exact hlt) hlt
        obtain ⟨⟨ad2, e2, _, hx2⟩, hr2⟩ := H2.out.2 k (by rw [H2.out.1]; exact hlt2) hlt2
        cases e
        cases e2
        have HB := Lib.hid HI.out.2.1.below
        replace hx := (HB.out.cell (World.block_lt_of_cell? w _ hx)).trans hx
        replace hx2 := (HB.out.cell (World.block_lt_of_cell? w _ hx2)).trans hx2
        have HR := Lib.hid (hr.drawn HI.out.2.1)
        have HR2 := Lib.hid (hr2.drawn HI.out.2.1)
        clear hr hr2
        go_wp2_with fail
        refine (HIH.out l[k] (List.getElem_mem hlt) m[k] (HL.out _ (List.getElem_mem hlt)) (HM.out _ (List.getElem_mem hlt2)) _ S S' _ _ HR.out HR2.out).mono ?_
        rintro e w2 ⟨rfl, hd2⟩
        have HD2 := Lib.hid (drawn_trans HI.out.2.1 hd2)
        clear hd2 hx hx2
        have HT := Lib.hid (sameL_take l m k hlt hlt2)
        have HN := Lib.hid (sameL_no l m HLM.out k hlt hlt2)
        generalize same l[k] m[k] = sb at *
        cases sb
        · go_wp2_with fail
          go_ret
          exact ⟨by rw [HN.out trivial]; rfl, HD2.out⟩
        · go_wp2_with fail
          go_roundg (gk - 1)
          case measure => have := HI.out.1; omega
          case rel => exact ⟨k + 1, ⟨by have := HI.out.1; omega, HD2.out, by rw [HT.out, HI.out.2.2]; rfl⟩, by omega, by go_num⟩
      · have hke : k = l.length := by omega
        subst hke
        go_wp2_with fail
        go_ret
        exact ⟨by have := HI.out.2.2; rw [List.take_length, HLM.out, List.take_length] at this; rw [this]; rfl, HI.out.2.1⟩
  · rw [if_neg hlm]
    go_enter Try.func59, Try.ntmps59
    go_wp2_with fail
    go_ret
    exact ⟨rfl, Drawn0.refl _⟩

theorem eqf_quiet (l m : List T) (ih : ∀ s ∈ l, EqSaid s) (hl : ∀ s ∈ l, AllN Shp s) (hm : ∀ s ∈ m, AllN Shp s) (w w1 : World) (hd : Drawn0 w w1) (n : Nat) (S S' : Nat → Prop) (A B : Option Addr) (ca cb : Nat) (bs cs : List Nat)
    (h1 : RowR w S A l bs) (h2 : RowR w S' B m cs) (l1 : l.length ≤ ca) (l2 : m.length ≤ cb) (b1 : l.length ≤ 9223372036854775807) (b2 : m.length ≤ 9223372036854775807) :
    Calls Try.prog 59 #[.slice A l.length ca, .slice B m.length cb, .func (.func 45) #[] #[]] (w1.drewN n)
      fun e w' => e = .returned (.bool (if l.length = m.length then sameL l m else false)) ∧ ∃ m, w' = w1.drewN m := by
  have mv : ∀ {S : Nat → Prop} {A : Option Addr} {l : List T} {bs : List Nat}, RowR w S A l bs → RowR (w1.drewN n) S A l bs := fun h => ⟨h.1, fun k a b => by
    obtain ⟨⟨ad, e, hs, hc⟩, hr⟩ := h.2 k a b
    exact ⟨⟨ad, e, hs, ((hd.step n).below.cell (World.block_lt_of_cell? w _ hc)).trans hc⟩, hr.drawn (hd.step n)⟩⟩
  exact Calls.quiet_of ((eqf_calls l m ih hl hm (w1.drewN n) S S' A B ca cb bs cs (mv h1) (mv h2) l1 l2 b1 b2).mono fun _ _ ⟨he, hw⟩ => ⟨he, hw.out⟩)

end Go.Proofs.Ytaogbmljadaplaa.TrFnSyEqual
