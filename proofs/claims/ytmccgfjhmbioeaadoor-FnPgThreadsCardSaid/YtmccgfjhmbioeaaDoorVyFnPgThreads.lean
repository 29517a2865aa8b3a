import Derived.Test.YtmccgfjhmbioeaaDoorVeFnPgThreads
import Derived.Test.YtmccgfjhmbioeaaDoorCbFnPgThreads
import Derived.StillTailTactics
import Derived.Test.YtmccgfjhmbioeaaDoorVxFnPgThreads
import Derived.Test.YtmccgfjhmbioeaaDoorWaFnPgThreads
import Derived.Test.YtmccgfjhmbioeaaDoorFiFnPgThreads
namespace Go.Proofs.YtmccgfjhmbioeaaDoor.PgFnPgThreads
open Go.RowKit Go.Proofs.YtmccgfjhmbioeaaDoor.EvN Go.Proofs.YtmccgfjhmbioeaaDoor.Row Go.Proofs.YtmccgfjhmbioeaaDoor.PFnPgThreads Go.Proofs.YtmccgfjhmbioeaaDoorW.PrintWords Go.Proofs.YtmccgfjhmbioeaaDoorW.PrintLast Go.Proofs.YtmccgfjhmbioeaaDoorW.PrintMore
set_option linter.unusedSimpArgs false
set_option linter.unusedVariables false
theorem isWord_f (x : Int) : regexpsyntax_IsWordChar.f x = some (wdB x) := by
  unfold regexpsyntax_IsWordChar.f wdB
  by_cases h1 : 97 ≤ x <;> by_cases h2 : x ≤ 122 <;> by_cases h3 : 65 ≤ x <;> by_cases h4 : x ≤ 90 <;> by_cases h5 : 48 ≤ x <;> by_cases h6 : x ≤ 57 <;> simp [h1, h2, h3, h4, h5, h6] <;> omega
def m3 (x : Int) (wb : Bool) : Bool := if x = 0 then true else if wb then Go.bits .andNot .u8 x 16 == 0 else Go.bits .andNot .u8 x 32 == 0
def m2 (x : Int) (fge wb : Bool) : Bool := if Go.bits .and .u8 x 8 = 0 then m3 x wb else if fge then false else m3 (Go.bits .andNot .u8 x 8) wb
def m1 (x : Int) (f10 fge wb : Bool) : Bool := if x = 0 then true else if Go.bits .and .u8 x 2 = 0 then m2 x fge wb else if f10 then m2 (Go.bits .andNot .u8 x 2) fge wb else if fge then false else m2 (Go.bits .andNot .u8 x 2) fge wb
def m0 (x : Int) (ege f10 fge wb : Bool) : Bool := if Go.bits .and .u8 x 4 = 0 then m1 x f10 fge wb else if ege then false else m1 (Go.bits .andNot .u8 x 4) f10 fge wb
def mP (x : Int) (e10 ege f10 fge wb : Bool) : Bool := if x = 0 then true else if Go.bits .and .u8 x 1 = 0 then m0 x ege f10 fge wb else if e10 then m0 (Go.bits .andNot .u8 x 1) ege f10 fge wb else if ege then false else m0 (Go.bits .andNot .u8 x 1) ege f10 fge wb
theorem j3_m (k : Nat) (x r1 r2 : Int) : regexp_lazyFlag_match.j3 (k + 1) x r1 r2 = some (m3 x (wdB r1 != wdB r2)) := by
  rw [regexp_lazyFlag_match.j3, isWord_f, isWord_f]
  unfold m3
  split
  · rfl
  · simp only [Option.bind_some]
    split <;> simp_all
theorem j2_m (k : Nat) (x r1 r2 : Int) : regexp_lazyFlag_match.j2 (k + 2) x r1 r2 = some (m2 x (decide (r2 ≥ 0)) (wdB r1 != wdB r2)) := by
  rw [regexp_lazyFlag_match.j2, j3_m, j3_m]
  unfold m2
  split
  · rfl
  · by_cases h : r2 ≥ 0 <;> simp [h]
theorem j1_m (k : Nat) (F x r1 : Int) : regexp_lazyFlag_match.j1 (k + 3) F x r1 = some (m1 x (decide (wrap32 F = 10)) (decide (wrap32 F ≥ 0)) (wdB r1 != wdB (wrap32 F))) := by
  rw [regexp_lazyFlag_match.j1, j2_m, j2_m]
  unfold m1
  split
  · rfl
  · split
    · rfl
    · by_cases h : wrap32 F = 10
      · simp [h]
      · by_cases h2 : wrap32 F ≥ 0 <;> simp [h, h2]
theorem j0_m (k : Nat) (F x r1 : Int) : regexp_lazyFlag_match.j0 (k + 4) F x r1 = some (m0 x (decide (r1 ≥ 0)) (decide (wrap32 F = 10)) (decide (wrap32 F ≥ 0)) (wdB r1 != wdB (wrap32 F))) := by
  rw [regexp_lazyFlag_match.j0, j1_m, j1_m]
  unfold m0
  split
  · rfl
  · by_cases h : r1 ≥ 0 <;> simp [h]
theorem match_m (k : Nat) (F x : Int) : regexp_lazyFlag_match.f (k + 4) F x = some (mP x (decide (wrap32 (F / 4294967296) = 10)) (decide (wrap32 (F / 4294967296) ≥ 0)) (decide (wrap32 F = 10)) (decide (wrap32 F ≥ 0)) (wdB (wrap32 (F / 4294967296)) != wdB (wrap32 F))) := by
  rw [regexp_lazyFlag_match.f, j0_m, j0_m]
  unfold mP
  split
  · rfl
  · split
    · rfl
    · by_cases h : wrap32 (F / 4294967296) = 10
      · simp [h]
      · by_cases h2 : wrap32 (F / 4294967296) ≥ 0 <;> simp [h, h2]
theorem mc_all : ∀ (bm b10 am a10 wb : Bool), (bm = true → b10 = false) → (am = true → a10 = false) → ∀ x : Fin 64, 0 < x.val → mP (x.val : Int) b10 (!bm) a10 (!am) wb = holds (cP bm b10 am a10 wb) (x.val : Int) := by
  unfold mP m0 m1 m2 m3 holds cP
  decide +kernel
theorem or_low (x y : Nat) (hy : y < 4294967296) : x * 4294967296 ||| y = x * 4294967296 + y := by
  have := Nat.two_pow_add_eq_or_of_lt (i := 32) (b := y) (by simpa using hy) x
  rw [Nat.mul_comm x]
  exact this.symm
theorem p64 : (2 : Nat) ^ 64 = 18446744073709551616 := by decide
theorem wrap_u64 {Z : Nat} (h : Z < 2 ^ 64) : IntKind.u64.wrap (Z : Int) = (Z : Int) := by
  have := p64
  unfold IntKind.wrap; simp [IntKind.bits, IntKind.signed]; omega
theorem or_bits (X Y : Nat) (hX : X < 2 ^ 64) (hY : Y < 2 ^ 64) : bits .or .u64 (X : Int) (Y : Int) = ((X ||| Y : Nat) : Int) := by
  have e : (BitVec.ofInt IntKind.u64.bits (X : Int) ||| BitVec.ofInt IntKind.u64.bits (Y : Int)).toNat = X ||| Y := by
    show (BitVec.ofInt 64 (X : Int) ||| BitVec.ofInt 64 (Y : Int)).toNat = X ||| Y
    rw [BitVec.toNat_or, BitVec.ofInt_natCast, BitVec.ofInt_natCast, BitVec.toNat_ofNat, BitVec.toNat_ofNat, Nat.mod_eq_of_lt hX, Nat.mod_eq_of_lt hY]
  exact (congrArg (fun z : Nat => IntKind.u64.wrap (z : Int)) e).trans (wrap_u64 (Nat.or_lt_two_pow hX hY))
theorem lazy_eq {b a F : Int} (hb0 : -1 ≤ b) (hb1 : b ≤ 1114111) (hF : regexp_newLazyFlag.f b a = some F) : F = (b % 4294967296) * 4294967296 + a % 4294967296 := by
  unfold regexp_newLazyFlag.f at hF
  simp only [Option.some.injEq] at hF
  rw [← hF]
  have e1 : IntKind.u64.wrap (IntKind.u64.wrap b * 4294967296) = (b % 4294967296) * 4294967296 := by
    unfold IntKind.wrap; simp [IntKind.bits, IntKind.signed]; omega
  rw [e1]
  obtain ⟨x, hx⟩ : ∃ x : Nat, b % 4294967296 = (x : Int) := ⟨(b % 4294967296).toNat, by omega⟩
  obtain ⟨y, hy⟩ : ∃ y : Nat, a % 4294967296 = (y : Int) := ⟨(a % 4294967296).toNat, by omega⟩
  have hx2 : x < 4294967296 := by omega
  have hy2 : y < 4294967296 := by omega
  rw [hx, hy]
  have := or_low x y hy2
  have h1 : (x : Int) * 4294967296 = ((x * 4294967296 : Nat) : Int) := by omega
  have h3 := or_bits (x * 4294967296) y (by have := p64; omega) (by have := p64; omega)
  rw [← h1] at h3
  rw [h3, this]
  omega
theorem wrap32_back {b : Int} (hb0 : -1 ≤ b) (hb1 : b ≤ 1114111) : wrap32 (b % 4294967296) = b := by unfold wrap32; omega
theorem lazy_match {b a F cond : Int} {kc : Nat} (hb0 : -1 ≤ b) (hb1 : b ≤ 1114111) (ha0 : -1 ≤ a) (ha1 : a ≤ 1114111) (hF : regexp_newLazyFlag.f b a = some F) (hc : spec_CondBetween.f (kc + 6) b a = some cond) :
    ∀ x, 0 < x → x < 64 → ∃ k, regexp_lazyFlag_match.f k F x = some (holds cond x) := by
  intro x h0 h1
  refine ⟨4, ?_⟩
  have e := lazy_eq hb0 hb1 hF
  have e1 : wrap32 (F / 4294967296) = b := by
    have : F / 4294967296 = b % 4294967296 := by omega
    rw [this, wrap32_back hb0 hb1]
  have e2 : wrap32 F = a := by
    have := wrap32_back ha0 ha1
    unfold wrap32 at this ⊢
    omega
  rw [cond_c] at hc
  cases hc
  rw [match_m 0, e1, e2]
  obtain ⟨n, rfl⟩ : ∃ n : Nat, x = (n : Int) := ⟨x.toNat, by omega⟩
  have hall := mc_all (decide (b = -1)) (b == 10) (decide (a = -1)) (a == 10) (wdB b != wdB a) (by simp; omega) (by simp; omega) ⟨n, by omega⟩ (by simp; omega)
  rw [← hall]
  have f1 : decide (b = 10) = (b == 10) := by rw [Bool.eq_iff_iff]; simp
  have f2 : decide (a = 10) = (a == 10) := by rw [Bool.eq_iff_iff]; simp
  have f3 : decide (b ≥ 0) = !decide (b = -1) := by rw [Bool.eq_iff_iff]; simp; omega
  have f4 : decide (a ≥ 0) = !decide (a = -1) := by rw [Bool.eq_iff_iff]; simp; omega
  rw [f1, f2, f3, f4]
end Go.Proofs.YtmccgfjhmbioeaaDoor.PgFnPgThreads
namespace Go.Proofs.YtmccgfjhmbioeaaDoor.PgFnPgThreads
open Go.RowKit Go.Proofs.YtmccgfjhmbioeaaDoor.EvN Go.Proofs.YtmccgfjhmbioeaaDoor.Row Go.Proofs.YtmccgfjhmbioeaaDoor.PFnPgThreads Go.Proofs.YtmccgfjhmbioeaaDoorW.PrintWords Go.Proofs.YtmccgfjhmbioeaaDoorW.PrintLast Go.Proofs.YtmccgfjhmbioeaaDoorW.PrintMore
set_option linter.unusedSimpArgs false
set_option linter.unusedVariables false
set_option maxRecDepth 100000 in
theorem should_calls {w : World} {p : Nat} {ad : Addr} {len cap : Nat} {st nc : Int} (h : w.heap[p]? = some (.cells #[.slice (some ad) len cap, .int .i64 st, .int .i64 nc] 93 (0, 0))) (_hl : len ≤ 2000) :
    Calls Tryd.prog 55 #[.pointer (some ⟨p, 0, none⟩)] w fun e w' => e = .returned (.bool (decide ((len : Int) ≤ 500))) ∧ w' = w := by
  obtain ⟨hz0, hz1, hz2⟩ := blk3 h
  go_enter Tryd.func55, Tryd.ntmps55
  go_wp2_with fail
  go_ret
  exact ⟨rfl, rfl⟩
set_option maxRecDepth 100000 in
theorem max_calls {w : World} {p : Nat} {ad : Addr} {len cap : Nat} {st nc : Int} (h : w.heap[p]? = some (.cells #[.slice (some ad) len cap, .int .i64 st, .int .i64 nc] 93 (0, 0))) (hl : len ≤ 2000) (h1 : 1 ≤ len) :
    ∃ v : Int, Calls Tryd.prog 39 #[.pointer (some ⟨p, 0, none⟩)] w fun e w' => e = .returned (.int .i64 v) ∧ w' = w := by
  obtain ⟨hz0, hz1, hz2⟩ := blk3 h
  have h0 : ((len : Int) == 0) = false := by rw [beq_eq_false_iff_ne]; omega
  by_cases hd : (len : Int) ≤ 500
  · have hd1 : decide ((len : Int) ≤ 500) = true := decide_eq_true hd
    refine ⟨262144 / (len : Int), ?_⟩
    go_enter Tryd.func39, Tryd.ntmps39
    go_wp2_with fail
    refine (should_calls h hl).mono ?_
    rintro e w1 ⟨rfl, rfl⟩
    rw [hd1]
    go_wp2_with fail
    go_ret
    exact ⟨rfl, rfl⟩
  · have hd1 : decide ((len : Int) ≤ 500) = false := decide_eq_false hd
    refine ⟨0, ?_⟩
    go_enter Tryd.func39, Tryd.ntmps39
    go_wp2_with fail
    refine (should_calls h hl).mono ?_
    rintro e w1 ⟨rfl, rfl⟩
    rw [hd1]
    go_wp2_with fail
    go_ret
    exact ⟨rfl, rfl⟩
end Go.Proofs.YtmccgfjhmbioeaaDoor.PgFnPgThreads
namespace Go.Proofs.YtmccgfjhmbioeaaDoor.PgFnPgThreads
open Go.RowKit Go.Proofs.YtmccgfjhmbioeaaDoor.EvN Go.Proofs.YtmccgfjhmbioeaaDoor.Row Go.Proofs.YtmccgfjhmbioeaaDoor.PFnPgThreads Go.Proofs.YtmccgfjhmbioeaaDoorW.PrintWords Go.Proofs.YtmccgfjhmbioeaaDoorW.PrintLast Go.Proofs.YtmccgfjhmbioeaaDoorW.PrintMore
set_option linter.unusedSimpArgs false
set_option linter.unusedVariables false
def msz : List Int := [128, 512, 2048, 16384, 0]
def Sizes (w : World) : Prop := ∀ r, r < 5 → w.cell? ⟨0, r, none⟩ = some (.int .i64 (msz.getD r 0))
def ReAt (w : World) (rb p mp : Nat) (mcv : Int) : Prop :=
  ∃ v0 v2 v3 v4 v5 v6 v7 v8 v9 v12 v13 v14 v15, w.heap[rb]? = some (.cells #[v0, .pointer (some ⟨p, 0, none⟩), v2, v3, v4, v5, v6, v7, v8, v9, .int .i64 (mp : Int), .int .i64 mcv, v12, v13, v14, v15] 105 (0, 0))
def ReX (w : World) (rb : Nat) (cv : Int) (long : Bool) : Prop := w.cell? ⟨rb, 6, none⟩ = some (.string ⟨#[]⟩) ∧ w.cell? ⟨rb, 13, none⟩ = some (.int .u8 cv) ∧ w.cell? ⟨rb, 15, none⟩ = some (.bool long)
theorem ReX.blk {w w' : World} {rb : Nat} {cv : Int} {long : Bool} {v0 v1 v2 v3 v4 v5 v6 v7 v8 v9 v10 v11 v12 v13 v14 v15 u10 : Value} {t : TypeId} (h : ReX w rb cv long) (hb : w.heap[rb]? = some (.cells #[v0, v1, v2, v3, v4, v5, v6, v7, v8, v9, v10, v11, v12, v13, v14, v15] t (0, 0)))
    (hb' : w'.heap[rb]? = some (.cells #[v0, v1, v2, v3, v4, v5, v6, v7, v8, v9, u10, v11, v12, v13, v14, v15] t (0, 0))) : ReX w' rb cv long := by
  obtain ⟨h1, h2, h3⟩ := h
  refine ⟨?_, ?_, ?_⟩
  · rw [← h1, blk_cell hb' 6, blk_cell hb 6]; rfl
  · rw [← h2, blk_cell hb' 13, blk_cell hb 13]; rfl
  · rw [← h3, blk_cell hb' 15, blk_cell hb 15]; rfl
theorem ReX.below {w w' : World} {rb : Nat} {cv : Int} {long : Bool} (h : ReX w rb cv long) (hb : Below w.heap.size w w') : ReX w' rb cv long :=
  ⟨(hb.cell (World.block_lt_of_cell? w _ h.1)).trans h.1, (hb.cell (World.block_lt_of_cell? w _ h.2.1)).trans h.2.1, (hb.cell (World.block_lt_of_cell? w _ h.2.2)).trans h.2.2⟩
def mpool (n : Nat) : Nat := if n ≤ 128 then 0 else if n ≤ 512 then 1 else 2
theorem size_way (N m : Nat) (hN : N ≤ 2000) (h1 : m ≤ mpool N) : ∃ z : Int, msz.getD m 0 = z ∧ (z ≠ 0 ∧ 0 < z) ∧ m ≤ 2 ∧ (z < (N : Int) → m + 1 ≤ mpool N) ∧ (¬ z < (N : Int) → m = mpool N) := by
  have e : mpool N = (if N ≤ 128 then 0 else if N ≤ 512 then 1 else 2) := rfl
  generalize mpool N = q at *
  have hq : (N ≤ 128 ∧ q = 0) ∨ (128 < N ∧ N ≤ 512 ∧ q = 1) ∨ (512 < N ∧ q = 2) := by
    by_cases a : N ≤ 128
    · rw [if_pos a] at e; omega
    · rw [if_neg a] at e
      by_cases b : N ≤ 512
      · rw [if_pos b] at e; omega
      · rw [if_neg b] at e; omega
  clear e
  have h3 : m = 0 ∨ m = 1 ∨ m = 2 := by omega
  rcases h3 with rfl | rfl | rfl
  · exact ⟨128, rfl, by omega, by omega, by omega, by omega⟩
  · exact ⟨512, rfl, by omega, by omega, by omega, by omega⟩
  · exact ⟨2048, rfl, by omega, by omega, by omega, by omega⟩
set_option maxRecDepth 100000 in
set_option maxHeartbeats 4000000 in
theorem of_calls {L : List I} {st nc most : Int} (h : PSound L st nc most) (hm : L.length ≤ 2000) (hop : ∀ pc, pc < L.length → 0 ≤ (ins L pc).f0 ∧ (ins L pc).f0 ≤ 10 ∧ (ins L pc).f0 ≠ 1) (p : Nat) (w : World) (hP : ProgAt w p L st nc) (hS : Sizes w) (A : Option Addr) (c : Nat) (long : Bool) :
    Calls Tryd.prog 23 #[.pointer (some ⟨p, 0, none⟩), .slice A 1 c, .bool long] w fun e w' => ∃ rb mcv, e = .returned (.pointer (some ⟨rb, 0, none⟩)) ∧ mcv = nc ∧ 2 ≤ mcv ∧ w.heap.size ≤ rb ∧ ReAt w' rb p (mpool L.length) mcv ∧ Below w.heap.size w w' ∧ ReX w' rb (scF L L.length st.toNat 0) long := by
  obtain ⟨ad, cap, hb, hc, h63, hI⟩ := pinst_at hP h.pos
  obtain ⟨hz0, hz1, hz2⟩ := blk3 hb
  have HS := Lib.hid h
  have hst := start_calls h hm hop p w.drew (hP.below (below_drew (Below.refl _ w)))
  obtain ⟨mv, hmx⟩ := max_calls (blk_drew hb) hm h.pos
  go_enter Tryd.func23, Tryd.ntmps23
  go_upto_region 1 with (fail)
  go_cut [7] (fun v wc => ∃ (rb : Nat) (mcv : Int), v = .pointer (some ⟨rb, 0, none⟩) ∧ Hid ((mcv = nc ∧ 2 ≤ mcv) ∧ w.heap.size ≤ rb ∧ ReAt wc rb p 0 mcv ∧ Below w.heap.size w wc ∧ ReX wc rb (scF L L.length st.toNat 0) long))
  case first =>
    go_still_tail 16, (by kernel_rfl)
    still_call hst
    repeat still_step
    still_call hmx
    repeat still_step
    refine wpStill_nil ?_
    go_wp2_with fail
    all_goals
      go_meet
      first
        | exact ⟨_, nc, rfl, Lib.hid ⟨⟨rfl, by omega⟩, Nat.le_refl _, ⟨_, _, _, _, _, _, _, _, _, _, _, _, _, heap_alloc_new w _⟩, below_drew (below_alloc (Below.refl _ w) _), ⟨(blk_cell (heap_alloc_new w _) 6).trans rfl, (blk_cell (heap_alloc_new w _) 13).trans rfl, (blk_cell (heap_alloc_new w _) 15).trans rfl⟩⟩⟩
        | exact ⟨_, 2, rfl, Lib.hid ⟨⟨by have := HS.out.nc0; omega, by omega⟩, Nat.le_refl _, ⟨_, _, _, _, _, _, _, _, _, _, _, _, _, heap_alloc_new w _⟩, below_drew (below_alloc (Below.refl _ w) _), ⟨(blk_cell (heap_alloc_new w _) 6).trans rfl, (blk_cell (heap_alloc_new w _) 13).trans rfl, (blk_cell (heap_alloc_new w _) 15).trans rfl⟩⟩⟩
  case rest =>
    obtain ⟨rb, mcv, rfl, HI0⟩ := hcut
    have HSZ := Lib.hid hS
    have HB0 := Lib.hid hb
    clear hst hmx hz0 hz1 hz2 hI hS hb hP
    go_wp2_with fail
    go_loopg [] 3 (fun gk wr => ∃ (m : Nat), Hid (gk + m = 3 ∧ m ≤ mpool L.length ∧ w.heap.size ≤ rb ∧ ReAt wr rb p m mcv ∧ Below w.heap.size w wr ∧ ReX wr rb (scF L L.length st.toNat 0) long))
    case atStart => exact ⟨0, ⟨by omega, by omega, HI0.out.2⟩⟩
    case round =>
      obtain ⟨m, HI⟩ := hrel
      have hgo : ∃ z : Int, msz.getD m 0 = z ∧ (z ≠ 0 ∧ 0 < z) ∧ m ≤ 2 ∧ (z < (L.length : Int) → m + 1 ≤ mpool L.length) ∧ (¬ z < (L.length : Int) → m = mpool L.length) := by
        have h1 := HI.out.2.1
        exact size_way L.length m (by omega) h1
      obtain ⟨z, hz, ⟨hz0, hz9⟩, hm2, hz1, hz2⟩ := hgo
      obtain ⟨v0, v2, v3, v4, v5, v6, v7, v8, v9, v12, v13, v14, v15, hre⟩ := HI.out.2.2.2.1
      have hc10 : wr.cell? ⟨rb, 10, none⟩ = some (.int .i64 (m : Int)) := (blk_cell hre 10).trans rfl
      have hfr := blk_frozen hre 10
      have hsc : wr.cell? ⟨0, m, none⟩ = some (.int .i64 z) := by
        have := HSZ.out m (by omega)
        rw [hz] at this
        exact (HI.out.2.2.2.2.1.cell (World.block_lt_of_cell? w _ this)).trans this
      have hpw : wr.cell? ⟨p, 0, none⟩ = some (.slice (some ad) L.length cap) := (blk3 (blk_below HB0.out HI.out.2.2.2.2.1)).1
      have hzz : (z != 0) = true := by simpa using hz0
      have HRE := Lib.hid hre
      clear hre
      by_cases hzl : z < (L.length : Int)
      · have hd : decide (z < (L.length : Int)) = true := decide_eq_true hzl
        go_wp2_with fail
        go_quiet (fail)
        go_wp2_with fail
        go_roundg (gk - 1)
        case measure => have := HI.out.1; omega
        case rel =>
          refine ⟨m + 1, Lib.hid ⟨by have := HI.out.1; omega, hz1 hzl, HI.out.2.2.1, ⟨v0, v2, v3, v4, v5, v6, v7, v8, v9, v12, v13, v14, v15, ?_⟩, below_set (pw_below_drewN HI.out.2.2.2.2.1 _) HI.out.2.2.1, HI.out.2.2.2.2.2.blk (u10 := .int .i64 ((m : Int) + 1)) HRE.out ?_⟩⟩
          · exact (blk_set (blk_drewN HRE.out nq) 10 _).trans rfl
          · exact (blk_set (blk_drewN HRE.out nq) 10 _).trans rfl
      · have hd : decide (z < (L.length : Int)) = false := decide_eq_false hzl
        have HZ := Lib.hid hzl
        clear hzl hz1 hz2
        go_wp2_with fail
        go_quiet (fail)
        go_wp2_with fail
        go_ret
        have hmq := size_way L.length m hm HI.out.2.1
        obtain ⟨z', hz', _, _, _, hz2⟩ := hmq
        have he : m = mpool L.length := hz2 (by rw [← hz', hz]; have := HZ.out; omega)
        subst he
        exact ⟨rb, mcv, rfl, HI0.out.1.1, HI0.out.1.2, HI.out.2.2.1, ⟨v0, v2, v3, v4, v5, v6, v7, v8, v9, v12, v13, v14, v15, blk_drewN HRE.out nq⟩, pw_below_drewN HI.out.2.2.2.2.1 _, HI.out.2.2.2.2.2.blk HRE.out (blk_drewN HRE.out nq)⟩
end Go.Proofs.YtmccgfjhmbioeaaDoor.PgFnPgThreads
namespace Go.Proofs.YtmccgfjhmbioeaaDoor.PgFnPgThreads
open Go.RowKit Go.Proofs.YtmccgfjhmbioeaaDoor.EvN Go.Proofs.YtmccgfjhmbioeaaDoor.Row Go.Proofs.YtmccgfjhmbioeaaDoor.PFnPgThreads Go.Proofs.YtmccgfjhmbioeaaDoorW.PrintWords Go.Proofs.YtmccgfjhmbioeaaDoorW.PrintLast Go.Proofs.YtmccgfjhmbioeaaDoorW.PrintMore
set_option linter.unusedSimpArgs false
set_option linter.unusedVariables false
theorem iu32 : (Tryd.prog.info? 96).map (fun i => (i.zero, i.size, i.bytes)) = some (some (.int .u32 0), 1, 4) := by kernel_rfl
theorem ient : (Tryd.prog.info? 137).map (fun i => (i.zero, i.size, i.bytes)) = some (some (.agg #[.int .u32 0, .pointer none]), 2, 16) := by kernel_rfl
theorem make_u32 (c : Nat) (hc : c ≤ 1000000) (W : World) : (Instr.makeSlice 64 (.int .i64 (c : Int)) (.int .i64 (c : Int))).run Tryd.prog W = .ok (.slice (some ⟨W.heap.size, 0, none⟩) c c) (W.alloc (.cells (madeCells #[.int .u32 0] c) 96)) := by
  obtain ⟨i, hi, hz, hsize, hby⟩ := info_parts iu32
  have := run_make (P := Tryd.prog) W 64 96 i (.int .u32 0) Tryd.underlying64 hi hz .i64 .i64 (c : Int) (c : Int) (by omega) (by omega) (by rw [hby]; omega) (by omega)
  rw [hsize, Int.toNat_natCast] at this
  rw [this, show (Value.int .u32 0).cells = #[Value.int .u32 0] from rfl, Nat.mul_one]
theorem make_ent (c : Nat) (hc : c ≤ 1000000) (W : World) : (Instr.makeSlice 65 (.int .i64 0) (.int .i64 (c : Int))).run Tryd.prog W = .ok (.slice (some ⟨W.heap.size, 0, none⟩) 0 c) (W.alloc (.cells (madeCells #[.int .u32 0, .pointer none] (c * 2)) 137)) := by
  obtain ⟨i, hi, hz, hsize, hby⟩ := info_parts ient
  have := run_make (P := Tryd.prog) W 65 137 i (.agg #[.int .u32 0, .pointer none]) Tryd.underlying65 hi hz .i64 .i64 0 (c : Int) (by omega) (by omega) (by rw [hby]; omega) (by omega)
  rw [hsize, Int.toNat_natCast] at this
  rw [this]; rfl
theorem made_u32 (c i : Nat) (hi : i < c) : (madeCells #[Value.int .u32 0] c)[i]? = some (.int .u32 0) := by
  simp [madeCells, hi, Nat.mod_one]
structure New0 (w w' : World) (rb mb sp de sp1 de1 mcb p S nc : Nat) (mc : Nat → Value) (m8 : Value) : Prop where
  ma : w'.heap[mb]? = some (mach mc)
  m0 : mc 0 = .pointer (some ⟨rb, 0, none⟩)
  m1 : mc 1 = .pointer (some ⟨p, 0, none⟩)
  m6 : mc 6 = .slice none 0 0
  m8 : mc 8 = m8
  q2 : mc 2 = .slice (some ⟨sp, 0, none⟩) S S
  q3 : mc 3 = .slice (some ⟨de, 0, none⟩) 0 S
  q4 : mc 4 = .slice (some ⟨sp1, 0, none⟩) S S
  q5 : mc 5 = .slice (some ⟨de1, 0, none⟩) 0 S
  sa : w'.heap[sp]? = some (.cells (madeCells #[.int .u32 0] S) 96 (0, 0))
  da : w'.heap[de]? = some (.cells (madeCells #[.int .u32 0, .pointer none] (S * 2)) 137 (0, 0))
  sb : w'.heap[sp1]? = some (.cells (madeCells #[.int .u32 0] S) 96 (0, 0))
  db : w'.heap[de1]? = some (.cells (madeCells #[.int .u32 0, .pointer none] (S * 2)) 137 (0, 0))
  cb : w'.heap[mcb]? = some (.cells ((List.replicate nc 0).map (Value.int .i64)).toArray 3 (0, 0))
  lo : w.heap.size ≤ mb ∧ w.heap.size ≤ sp ∧ w.heap.size ≤ de ∧ w.heap.size ≤ mcb ∧ w.heap.size ≤ sp1 ∧ w.heap.size ≤ de1
  ne : sp1 ≠ sp ∧ de1 ≠ de
  bl : Below w.heap.size w w'
theorem New0.keep {w w1 w2 : World} {rb mb sp de sp1 de1 mcb p S nc : Nat} {mc : Nat → Value} {m8 : Value} (h : New0 w w1 rb mb sp de sp1 de1 mcb p S nc mc m8) (k : Below w1.heap.size w1 w2) : New0 w w2 rb mb sp de sp1 de1 mcb p S nc mc m8 :=
  ⟨blk_below h.ma k, h.m0, h.m1, h.m6, h.m8, h.q2, h.q3, h.q4, h.q5, blk_below h.sa k, blk_below h.da k, blk_below h.sb k, blk_below h.db k, blk_below h.cb k, h.lo, h.ne, h.bl.trans (k.mono h.bl.size)⟩
theorem New0.ms {w w' : World} {rb mb sp de sp1 de1 mcb p S nc N lf : Nat} {mc : Nat → Value} {F : Int} (h : New0 w w' rb mb sp de sp1 de1 mcb p S nc mc (.slice (some ⟨mcb, 0, none⟩) 0 nc)) (hf : w'.heap[lf]? = some (.cells #[.int .u64 F] 118 (0, 0))) (hN : N ≤ S) (hS : S ≤ 1000000) (hc : nc ≤ 100000) :
    MS N w w' p mb 2 sp de lf S 0 nc F mc [] [] [] ∧ CapAt w' 0 nc mcb [] := by
  refine ⟨⟨h.ma, h.m1, ⟨mcb, h.m8⟩, .inl rfl, h.q2, h.q3, ⟨_, h.sa, by simp [size_madeCells], fun i hi => ⟨0, made_u32 S i hi, by omega, by omega⟩, fun i e he => by simp at he⟩, ⟨_, h.da, by simp [size_madeCells], fun i e he => by simp at he⟩, hf, ⟨?_, fun x hx => by simp at hx⟩, fun x hx => by simp [thr] at hx, by simp [thr], by simp [thr], ⟨h.lo.1, h.lo.2.1, h.lo.2.2.1, fun x hx => by simp [thr] at hx⟩, h.bl, ⟨by simp, by simp⟩, hN, hS, by omega, hc, by simp⟩, ?_⟩
  · rw [h.m6]; exact ⟨rfl, .inl ⟨rfl, rfl⟩⟩
  · exact ⟨_, by rw [h.cb, List.map_nil, List.nil_append], rfl, by simp⟩
end Go.Proofs.YtmccgfjhmbioeaaDoor.PgFnPgThreads
namespace Go.Proofs.YtmccgfjhmbioeaaDoor.PgFnPgThreads
open Go.RowKit Go.Proofs.YtmccgfjhmbioeaaDoor.EvN Go.Proofs.YtmccgfjhmbioeaaDoor.Row Go.Proofs.YtmccgfjhmbioeaaDoor.PFnPgThreads Go.Proofs.YtmccgfjhmbioeaaDoorW.PrintWords Go.Proofs.YtmccgfjhmbioeaaDoorW.PrintLast Go.Proofs.YtmccgfjhmbioeaaDoorW.PrintMore
set_option linter.unusedSimpArgs false
set_option linter.unusedVariables false
def mNew (rb p : Nat) : Nat → Value
  | 0 => .pointer (some ⟨rb, 0, none⟩)
  | 1 => .pointer (some ⟨p, 0, none⟩)
  | 7 => .bool false
  | 10 => .string ⟨#[]⟩
  | 11 => .nilIface
  | 12 => .bool false
  | 13 => .int .i64 0
  | _ => .slice none 0 0
theorem get_way1 {w wa : World} {mb rb p nc : Nat} (hma : wa.heap[mb]? = some (mach (mNew rb p))) (hba : Below w.heap.size w wa) (hmb : w.heap.size ≤ mb) :
    ∃ mcb, ((wa.alloc (.cells (Array.replicate nc (.int .i64 0)) 3)).setCell ⟨mb, 8, none⟩ (.slice (some ⟨wa.heap.size, 0, none⟩) nc nc)).heap[mb]? = some (mach (up (mNew rb p) 8 (.slice (some ⟨mcb, 0, none⟩) nc nc))) ∧
      ((wa.alloc (.cells (Array.replicate nc (.int .i64 0)) 3)).setCell ⟨mb, 8, none⟩ (.slice (some ⟨wa.heap.size, 0, none⟩) nc nc)).heap[mcb]? = some (.cells ((List.replicate nc 0).map (Value.int .i64)).toArray 3 (0, 0)) ∧ w.heap.size ≤ mcb ∧
      Below w.heap.size w ((wa.alloc (.cells (Array.replicate nc (.int .i64 0)) 3)).setCell ⟨mb, 8, none⟩ (.slice (some ⟨wa.heap.size, 0, none⟩) nc nc)) := by
  have hl := blk_lt hma
  have hs := hba.size
  refine ⟨wa.heap.size, mach_set (blk_alloc hma _) 8 (by omega) _, ?_, hs, below_set (below_alloc hba _) hmb⟩
  refine (Below.heap_setCell _ _ _ _ (by show wa.heap.size ≠ mb; omega)).trans ((heap_alloc_new wa _).trans ?_)
  simp
def Q2 (w w' : World) (mb qo z : Nat) (mc : Nat → Value) (w0 : World) : Prop :=
  ∃ sp de, w'.heap[mb]? = some (mach (up (up mc qo (.slice (some ⟨sp, 0, none⟩) z z)) (qo + 1) (.slice (some ⟨de, 0, none⟩) 0 z))) ∧ w'.heap[sp]? = some (.cells (madeCells #[.int .u32 0] z) 96 (0, 0)) ∧ w'.heap[de]? = some (.cells (madeCells #[.int .u32 0, .pointer none] (z * 2)) 137 (0, 0)) ∧
    w0.heap.size ≤ sp ∧ w0.heap.size ≤ de ∧ Fr (fun i => i = mb) w0 w' ∧ Below w.heap.size w w'
theorem q2_way {w wr : World} {mb qo q1 : Nat} {mc : Nat → Value} {X Y : Array Value} {tx ty : TypeId} {a b : Value} (hm : wr.heap[mb]? = some (mach mc)) (hq : qo + 1 < 14) (h1 : q1 = qo + 1) (hb : Below w.heap.size w wr) (hl : w.heap.size ≤ mb) :
    ((((wr.setCell ⟨mb, qo, none⟩ a).setCell ⟨mb, q1, none⟩ b).alloc (.cells X tx)).alloc (.cells Y ty)).drew.heap[mb]? = some (mach (up (up mc qo a) (qo + 1) b)) ∧ ((((wr.setCell ⟨mb, qo, none⟩ a).setCell ⟨mb, q1, none⟩ b).alloc (.cells X tx)).alloc (.cells Y ty)).drew.heap[wr.heap.size]? = some (.cells X tx (0, 0)) ∧ ((((wr.setCell ⟨mb, qo, none⟩ a).setCell ⟨mb, q1, none⟩ b).alloc (.cells X tx)).alloc (.cells Y ty)).drew.heap[wr.heap.size + 1]? = some (.cells Y ty (0, 0)) ∧
      Fr (fun i => i = mb) wr ((((wr.setCell ⟨mb, qo, none⟩ a).setCell ⟨mb, q1, none⟩ b).alloc (.cells X tx)).alloc (.cells Y ty)).drew ∧ Below w.heap.size w ((((wr.setCell ⟨mb, qo, none⟩ a).setCell ⟨mb, q1, none⟩ b).alloc (.cells X tx)).alloc (.cells Y ty)).drew := by
  subst h1
  have h1 := mach_set (mach_set hm qo (by omega) a) (qo + 1) (by omega) b
  have hs : ((wr.setCell ⟨mb, qo, none⟩ a).setCell ⟨mb, qo + 1, none⟩ b).heap.size = wr.heap.size := by simp [World.setCell]
  have hf : Fr (fun i => i = mb) wr ((wr.setCell ⟨mb, qo, none⟩ a).setCell ⟨mb, qo + 1, none⟩ b) := ((Fr.refl (fun i => i = mb) wr).set _ rfl).set _ rfl
  have hb2 : Below w.heap.size w ((wr.setCell ⟨mb, qo, none⟩ a).setCell ⟨mb, qo + 1, none⟩ b) := below_set (below_set hb hl) hl
  generalize (wr.setCell ⟨mb, qo, none⟩ a).setCell ⟨mb, qo + 1, none⟩ b = W1 at *
  have h2 := heap_alloc_new W1 (.cells X tx)
  have h3 := heap_alloc_new (W1.alloc (.cells X tx)) (.cells Y ty)
  rw [hs] at h2
  rw [show (W1.alloc (.cells X tx)).heap.size = wr.heap.size + 1 by simp [hs]] at h3
  exact ⟨blk_drew (blk_alloc (blk_alloc h1 _) _), blk_drew (blk_alloc h2 _), blk_drew h3, ((hf.alloc _).alloc _).drewN 1, below_drew (below_alloc (below_alloc hb2 _) _)⟩
theorem q2_w1 {w wr : World} {mb qo q1 z : Nat} {mc : Nat → Value} (hm : wr.heap[mb]? = some (mach mc)) (hq : qo + 1 < 14) (h1 : q1 = qo + 1) (hb : Below w.heap.size w wr) (hl : w.heap.size ≤ mb) :
    Q2 w ((((wr.setCell ⟨mb, qo, none⟩ (.slice (some ⟨wr.heap.size, 0, none⟩) z z)).setCell ⟨mb, q1, none⟩ (.slice (some ⟨wr.heap.size + 1, 0, none⟩) 0 z)).alloc (.cells (madeCells #[.int .u32 0] z) 96)).alloc (.cells (madeCells #[.int .u32 0, .pointer none] (z * 2)) 137)).drew mb qo z mc wr := by
  obtain ⟨a1, a2, a3, a4, a5⟩ := q2_way (X := madeCells #[.int .u32 0] z) (Y := madeCells #[.int .u32 0, .pointer none] (z * 2)) (tx := 96) (ty := 137) (a := .slice (some ⟨wr.heap.size, 0, none⟩) z z) (b := .slice (some ⟨wr.heap.size + 1, 0, none⟩) 0 z) hm hq h1 hb hl
  exact ⟨_, _, a1, a2, a3, Nat.le_refl _, Nat.le_succ _, a4, a5⟩
theorem q2_w2 {w wr : World} {mb qo q1 z : Nat} {mc : Nat → Value} (hm : wr.heap[mb]? = some (mach mc)) (hq : qo + 1 < 14) (h1 : q1 = qo + 1) (hb : Below w.heap.size w wr) (hl : w.heap.size ≤ mb) :
    Q2 w ((((wr.setCell ⟨mb, qo, none⟩ (.slice (some ⟨wr.heap.size + 1, 0, none⟩) z z)).setCell ⟨mb, q1, none⟩ (.slice (some ⟨wr.heap.size, 0, none⟩) 0 z)).alloc (.cells (madeCells #[.int .u32 0, .pointer none] (z * 2)) 137)).alloc (.cells (madeCells #[.int .u32 0] z) 96)).drew mb qo z mc wr := by
  obtain ⟨a1, a2, a3, a4, a5⟩ := q2_way (Y := madeCells #[.int .u32 0] z) (X := madeCells #[.int .u32 0, .pointer none] (z * 2)) (ty := 96) (tx := 137) (a := .slice (some ⟨wr.heap.size + 1, 0, none⟩) z z) (b := .slice (some ⟨wr.heap.size, 0, none⟩) 0 z) hm hq h1 hb hl
  exact ⟨_, _, a1, a3, a2, Nat.le_succ _, Nat.le_refl _, a4, a5⟩
set_option maxRecDepth 100000 in
set_option maxHeartbeats 4000000 in
theorem get_calls (w : World) (rb p mp nc z : Nat) (hre : ReAt w rb p mp nc) (hn : 2 ≤ nc ∧ nc ≤ 100000) (hS : w.cell? ⟨0, mp, none⟩ = some (.int .i64 (z : Int))) (hmp : mp < 5) (hz : 0 < z ∧ z ≤ 1000000) :
    Calls Tryd.prog 24 #[.pointer (some ⟨rb, 0, none⟩)] w fun e w' => ∃ mb sp de sp1 de1 mcb mc, e = .returned (.pointer (some ⟨mb, 0, none⟩)) ∧ New0 w w' rb mb sp de sp1 de1 mcb p z nc mc (.slice (some ⟨mcb, 0, none⟩) nc nc) ∧ mc 9 = .slice none 0 0 ∧ mc 11 = .nilIface := by
  obtain ⟨v0, v2, v3, v4, v5, v6, v7, v8, v9, v12, v13, v14, v15, hre⟩ := hre
  have hr1 : w.cell? ⟨rb, 1, none⟩ = some (.pointer (some ⟨p, 0, none⟩)) := (blk_cell hre 1).trans rfl
  have hr10 : w.cell? ⟨rb, 10, none⟩ = some (.int .i64 (mp : Int)) := (blk_cell hre 10).trans rfl
  have hr11 : w.cell? ⟨rb, 11, none⟩ = some (.int .i64 (nc : Int)) := (blk_cell hre 11).trans rfl
  have lrb := blk_lt hre
  have hne1 : rb ≠ w.heap.size := by omega
  have hne2 : w.heap.size ≠ rb := by omega
  have HRE := Lib.hid hre
  clear hre
  go_enter Tryd.func24, Tryd.ntmps24
  go_upto_region 4 with (fail)
  have hma : (w.alloc (.cells #[.pointer (some ⟨rb, 0, none⟩), .pointer (some ⟨p, 0, none⟩), .slice none 0 0, .slice none 0 0, .slice none 0 0, .slice none 0 0, .slice none 0 0, .bool false, .slice none 0 0, .slice none 0 0, .string ⟨#[]⟩, .nilIface, .bool false, .int .i64 0] 81)).heap[w.heap.size]? = some (mach (mNew rb p)) := heap_alloc_new w _
  have hba : Below w.heap.size w (w.alloc (.cells #[.pointer (some ⟨rb, 0, none⟩), .pointer (some ⟨p, 0, none⟩), .slice none 0 0, .slice none 0 0, .slice none 0 0, .slice none 0 0, .slice none 0 0, .bool false, .slice none 0 0, .slice none 0 0, .string ⟨#[]⟩, .nilIface, .bool false, .int .i64 0] 81)) := below_alloc (Below.refl _ w) _
  generalize (w.alloc (.cells #[.pointer (some ⟨rb, 0, none⟩), .pointer (some ⟨p, 0, none⟩), .slice none 0 0, .slice none 0 0, .slice none 0 0, .slice none 0 0, .slice none 0 0, .bool false, .slice none 0 0, .slice none 0 0, .string ⟨#[]⟩, .nilIface, .bool false, .int .i64 0] 81)) = wa at *
  have hc8 : wa.cell? ⟨w.heap.size, 8, none⟩ = some (.slice none 0 0) := mach_cell hma 8 (by omega)
  have hf8 := blk_frozen hma 8
  have ha11 : wa.cell? ⟨rb, 11, none⟩ = some (.int .i64 (nc : Int)) := (hba.cell lrb).trans hr11
  have hd1 : decide (0 < nc) = true := decide_eq_true (by omega)
  have hmk := make_ints nc nc (Nat.le_refl _) (by omega)
  have HMA := Lib.hid hma
  have HBA := Lib.hid hba
  have lma := blk_lt hma
  clear hma hba
  go_quiet (fail)
  go_upto_region 5 with (fail)
  have hwn : (wa.drewN nq).heap.size = wa.heap.size := rfl
  have hfz : ∀ o, ((wa.drewN nq).alloc o).frozen? ⟨w.heap.size, 8, none⟩ = false := fun o => blk_frozen (blk_alloc (blk_drewN HMA.out nq) o) 8
  have hcz : ∀ o, ((wa.drewN nq).alloc o).cell? ⟨w.heap.size, 8, none⟩ = some (.slice none 0 0) := fun o => mach_cell (mc := mNew rb p) (blk_alloc (blk_drewN HMA.out nq) o) 8 (by omega)
  clear hc8 hf8
  go_cut [3] (fun v wc => v = .pointer (some ⟨w.heap.size, 0, none⟩) ∧ Hid (∃ mcb, wc.heap[w.heap.size]? = some (mach (up (mNew rb p) 8 (.slice (some ⟨mcb, 0, none⟩) nc nc))) ∧ wc.heap[mcb]? = some (.cells ((List.replicate nc 0).map (Value.int .i64)).toArray 3 (0, 0)) ∧ w.heap.size ≤ mcb ∧ Below w.heap.size w wc))
  case first =>
    go_wp2_with fail
    go_meet
    exact ⟨rfl, Lib.hid (get_way1 (blk_drewN HMA.out nq) (pw_below_drewN HBA.out nq) (Nat.le_refl _))⟩
  case rest =>
    obtain ⟨rfl, HI⟩ := hcut
    clear hfz hcz hwn hd1 hmk ha11 HMA HBA lma
    obtain ⟨mcb, h1, h2, h3, h4⟩ := HI.out
    have H1 := Lib.hid h1
    have H2 := Lib.hid h2
    have H4 := Lib.hid h4
    have hc6 : wc.cell? ⟨w.heap.size, 6, none⟩ = some (.slice none 0 0) := mach_cell h1 6 (by omega)
    have hc2 : wc.cell? ⟨w.heap.size, 2, none⟩ = some (.slice none 0 0) := mach_cell h1 2 (by omega)
    have ha10 : wc.cell? ⟨rb, 10, none⟩ = some (.int .i64 (mp : Int)) := (h4.cell lrb).trans hr10
    have haS : wc.cell? ⟨0, mp, none⟩ = some (.int .i64 (z : Int)) := (h4.cell (World.block_lt_of_cell? w _ hS)).trans hS
    have hz1 : ((z : Int) == 0) = false := by rw [beq_eq_false_iff_ne]; omega
    have hz2 : decide (0 < z) = true := decide_eq_true hz.1
    clear h1 h2 h4 HI
    go_wp2_with fail
    go_loopg [42] 0 (fun gk s42 wr => wr = wc ∧ s42 = .int .i64 0)
    case atStart => exact ⟨rfl, rfl⟩
    case round =>
      obtain ⟨rfl, rfl⟩ := hrel
      go_upto_region 15 with (fail)
      clear hc6 hc2 ha10 haS hz1 hz2
      have hm1 := make_u32 z hz.2
      have hm2 := make_ent z hz.2
      have lma := blk_lt H1.out
      have hcA : wr.cell? ⟨w.heap.size, 2, none⟩ = some (.slice none 0 0) := mach_cell H1.out 2 (by omega)
      have hcB : wr.cell? ⟨w.heap.size, 3, none⟩ = some (.slice none 0 0) := mach_cell H1.out 3 (by omega)
      have hfA : wr.frozen? ⟨w.heap.size, 2, none⟩ = false := blk_frozen H1.out 2
      have hfB : wr.frozen? ⟨w.heap.size, 3, none⟩ = false := blk_frozen H1.out 3
      go_cut [3, 6] (fun v v6 wc => (v = .pointer (some ⟨w.heap.size, 0, none⟩) ∧ v6 = .int .i64 (z : Int)) ∧ Hid (Q2 w wc w.heap.size 2 z (up (mNew rb p) 8 (.slice (some ⟨mcb, 0, none⟩) nc nc)) wr))
      case first =>
        go_region
        all_goals
          go_wp2_with fail
          go_meet
          first
            | exact ⟨⟨rfl, rfl⟩, Lib.hid (by with_reducible exact q2_w1 H1.out (by omega) rfl H4.out (Nat.le_refl _))⟩
            | exact ⟨⟨rfl, rfl⟩, Lib.hid (by with_reducible exact q2_w2 H1.out (by omega) rfl H4.out (Nat.le_refl _))⟩
      case rest =>
        obtain ⟨⟨rfl, rfl⟩, HQ⟩ := hcut
        clear hm1 hm2 hcA hcB hfA hfB
        obtain ⟨sp, de, q1, q2, q3, q4, q5, q6, q7⟩ := HQ.out
        have Q1 := Lib.hid q1
        have QB := Lib.hid q7
        have QR := Lib.hid (And.intro q2 (And.intro q3 (And.intro q4 (And.intro q5 q6))))
        clear q1 q2 q3 q4 q5 q6 q7 HQ
        have hm1 := make_u32 z hz.2
        have hm2 := make_ent z hz.2
        have lmc := blk_lt Q1.out
        have hcA : wc.cell? ⟨w.heap.size, 4, none⟩ = some (.slice none 0 0) := mach_cell Q1.out 4 (by omega)
        have hcB : wc.cell? ⟨w.heap.size, 5, none⟩ = some (.slice none 0 0) := mach_cell Q1.out 5 (by omega)
        have hfA : wc.frozen? ⟨w.heap.size, 4, none⟩ = false := blk_frozen Q1.out 4
        have hfB : wc.frozen? ⟨w.heap.size, 5, none⟩ = false := blk_frozen Q1.out 5
        go_upto_region 16 with (fail)
        go_cut [3] (fun v wd => v = .pointer (some ⟨w.heap.size, 0, none⟩) ∧ Hid (Q2 w wd w.heap.size 4 z (up (up (up (mNew rb p) 8 (.slice (some ⟨mcb, 0, none⟩) nc nc)) 2 (.slice (some ⟨sp, 0, none⟩) z z)) 3 (.slice (some ⟨de, 0, none⟩) 0 z)) wc))
        case first =>
          go_region
          all_goals
            go_wp2_with fail
            go_meet
            first
              | exact ⟨rfl, Lib.hid (by with_reducible exact q2_w1 Q1.out (by omega) rfl QB.out (Nat.le_refl _))⟩
              | exact ⟨rfl, Lib.hid (by with_reducible exact q2_w2 Q1.out (by omega) rfl QB.out (Nat.le_refl _))⟩
        case rest =>
          obtain ⟨rfl, HQ⟩ := hcut
          clear hm1 hm2 hcA hcB hfA hfB
          go_wp2_with fail
          go_ret
          obtain ⟨sp1, de1, a1, a2, a3, a4, a5, a6, a7⟩ := HQ.out
          obtain ⟨b2, b3, b4, b5, b6⟩ := QR.out
          have k1 := blk_lt b2
          have k2 := blk_lt b3
          have k3 := blk_lt H2.out
          have hs := H4.out.size
          have n1 : mcb ≠ w.heap.size := by
            intro e
            have := H1.out
            rw [← e] at this
            exact blk_ne H2.out this (by decide) rfl
          have n2 : sp ≠ w.heap.size := blk_ne b2 Q1.out (by decide)
          have n3 : de ≠ w.heap.size := blk_ne b3 Q1.out (by decide)
          refine ⟨_, sp, de, sp1, de1, mcb, _, rfl, ⟨a1, rfl, rfl, rfl, rfl, rfl, rfl, rfl, rfl, (a6.block sp k1 n2).trans b2, (a6.block de k2 n3).trans b3, a2, a3, (a6.block mcb (Nat.lt_of_lt_of_le k3 b6.size) n1).trans ((b6.block mcb k3 n1).trans H2.out), ⟨Nat.le_refl _, by omega, by omega, h3, ?_, ?_⟩, ⟨?_, ?_⟩, a7⟩, rfl, rfl⟩
          · have := b6.size; omega
          · have := b6.size; omega
          · omega
          · omega
end Go.Proofs.YtmccgfjhmbioeaaDoor.PgFnPgThreads
namespace Go.Proofs.YtmccgfjhmbioeaaDoor.PgFnPgThreads
open Go.RowKit Go.Proofs.YtmccgfjhmbioeaaDoor.EvN Go.Proofs.YtmccgfjhmbioeaaDoor.Row Go.Proofs.YtmccgfjhmbioeaaDoor.PFnPgThreads Go.Proofs.YtmccgfjhmbioeaaDoorW.PrintWords Go.Proofs.YtmccgfjhmbioeaaDoorW.PrintLast Go.Proofs.YtmccgfjhmbioeaaDoorW.PrintMore
set_option linter.unusedSimpArgs false
set_option linter.unusedVariables false
set_option maxRecDepth 100000 in
theorem init_calls (w : World) (mb mcb n cc c : Nat) (mc : Nat → Value) (hm : w.heap[mb]? = some (mach mc)) (h6 : mc 6 = .slice none 0 0) (h8 : mc 8 = .slice (some ⟨mcb, 0, none⟩) n cc) (hc : c ≤ cc) :
    Calls Tryd.prog 26 #[.pointer (some ⟨mb, 0, none⟩), .int .i64 (c : Int)] w fun e w' => e = .returned (.tuple #[]) ∧ w' = w.setCell ⟨mb, 8, none⟩ (.slice (some ⟨mcb, 0, none⟩) c cc) := by
  have hc6 : w.cell? ⟨mb, 6, none⟩ = some (.slice none 0 0) := by rw [← h6]; exact mach_cell hm 6 (by omega)
  have hc8 : w.cell? ⟨mb, 8, none⟩ = some (.slice (some ⟨mcb, 0, none⟩) n cc) := by rw [← h8]; exact mach_cell hm 8 (by omega)
  have hf8 := (blk_frozen hm 8 : w.frozen? ⟨mb, 8, none⟩ = false)
  clear hm
  go_enter Tryd.func26, Tryd.ntmps26
  go_wp2_with fail
  go_loopg [11] 0 (fun gk s11 wr => wr = w ∧ s11 = .int .i64 0)
  case atStart => exact ⟨rfl, rfl⟩
  case round =>
    obtain ⟨rfl, rfl⟩ := hrel
    go_wp2_with fail
    go_end0
    exact ⟨rfl, rfl⟩
theorem mpool_way (N : Nat) (h : N ≤ 2000) : ∃ z : Nat, msz.getD (mpool N) 0 = (z : Int) ∧ N ≤ z ∧ 0 < z ∧ z ≤ 1000000 ∧ mpool N < 5 := by
  unfold mpool
  by_cases a : N ≤ 128
  · rw [if_pos a]; exact ⟨128, rfl, by omega, by omega, by omega, by omega⟩
  · rw [if_neg a]
    by_cases b : N ≤ 512
    · rw [if_pos b]; exact ⟨512, rfl, by omega, by omega, by omega, by omega⟩
    · rw [if_neg b]; exact ⟨2048, rfl, by omega, by omega, by omega, by omega⟩
theorem New0.cut {w w1 : World} {rb mb sp de sp1 de1 mcb p S nc : Nat} {mc : Nat → Value} {m8 v : Value} (h : New0 w w1 rb mb sp de sp1 de1 mcb p S nc mc m8) : New0 w (w1.setCell ⟨mb, 8, none⟩ v) rb mb sp de sp1 de1 mcb p S nc (up mc 8 v) v := by
  have k : ∀ {g : Nat} {cs : Array Value} {t : TypeId}, w1.heap[g]? = some (.cells cs t (0, 0)) → t ≠ 81 → (w1.setCell ⟨mb, 8, none⟩ v).heap[g]? = some (.cells cs t (0, 0)) := fun hg ht => (Below.heap_setCell _ _ _ _ (blk_ne hg h.ma ht)).trans hg
  exact ⟨mach_set h.ma 8 (by omega) v, h.m0, h.m1, h.m6, up_same _ _ _, h.q2, h.q3, h.q4, h.q5, k h.sa (by decide), k h.da (by decide), k h.sb (by decide), k h.db (by decide), k h.cb (by decide), h.lo, h.ne, below_set h.bl h.lo.1⟩
theorem Sizes.below {w w' : World} (h : Sizes w) (hb : Below w.heap.size w w') : Sizes w' := fun r hr => (hb.cell (World.block_lt_of_cell? w _ (h r hr))).trans (h r hr)
structure Put0 (L : List I) (cond F : Int) (pcs : List Nat) (p mb : Nat) (cv : Int) (long : Bool) (w w' : World) : Prop where
  ex : ∃ (W0 : World) (rb sp de sp1 de1 lf z cc : Nat) (mc : Nat → Value) (E : List En) (ad : Addr), Below w.heap.size w W0 ∧ Prg W0 L p ad ∧ MS L.length W0 w' p mb 2 sp de lf z 0 cc F mc E [] [] ∧ Rel w' ad 0 cc E (aFl L cond 0 [] [] pcs) ∧
    mc 0 = .pointer (some ⟨rb, 0, none⟩) ∧ mc 4 = .slice (some ⟨sp1, 0, none⟩) z z ∧ mc 5 = .slice (some ⟨de1, 0, none⟩) 0 z ∧
    w'.heap[sp1]? = some (.cells (madeCells #[.int .u32 0] z) 96 (0, 0)) ∧ w'.heap[de1]? = some (.cells (madeCells #[.int .u32 0, .pointer none] (z * 2)) 137 (0, 0)) ∧ sp1 ≠ sp ∧ de1 ≠ de ∧ W0.heap.size ≤ sp1 ∧ W0.heap.size ≤ de1 ∧ ReX W0 rb cv long ∧ ∃ mcb, mc 8 = .slice (some ⟨mcb, 0, none⟩) 0 cc ∧ CapAt w' 0 cc mcb [] ∧ W0.heap.size ≤ mcb ∧ ∀ x ∈ thr E, x.2 ≠ mcb
end Go.Proofs.YtmccgfjhmbioeaaDoor.PgFnPgThreads
