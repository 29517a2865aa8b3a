import Derived.Test.YteoljppcafakpaaDoorVeFnPgWalk
import Derived.Test.YteoljppcafakpaaDoorCbFnPgWalk
namespace Go.Proofs.YteoljppcafakpaaDoor.PgFnPgWalk
open Go.RowKit Go.Proofs.YteoljppcafakpaaDoor.EvN Go.Proofs.YteoljppcafakpaaDoor.Row Go.Proofs.YteoljppcafakpaaDoor.PFnPgWalk Go.Proofs.YteoljppcafakpaaDoorW.PrintWords Go.Proofs.YteoljppcafakpaaDoorW.PrintLast Go.Proofs.YteoljppcafakpaaDoorW.PrintMore
set_option linter.unusedSimpArgs false
set_option linter.unusedVariables false
theorem isWord_f (x : Int) : regexpsyntax_IsWordChar.f x = some (wdB x) := by
  unfold regexpsyntax_IsWordChar.f wdB
  by_cases h1 : 97 ≤ x <;> by_cases h2 : x ≤ 122 <;> by_cases h3 : 65 ≤ x <;> by_cases h4 : x ≤ 90 <;> by_cases h5 : 48 ≤ x <;> by_cases h6 : x ≤ 57 <;> simp [h1, h2, h3, h4, h5, h6] <;> omega
def m3 (x : Int) (wb : Bool) : Bool := if x = 0 then true else if wb then Go.bits .andNot .u8 x 16 == 0 else Go.bits .andNot .u8 x 32 == 0
def m2 (x : Int) (fge wb : Bool) : Bool := if Go.bits .and .u8 x 8 = 0 then m3 x wb else if fge then false else m3 (Go.bits .andNot .u8 x 8) wb
def m1 (x : Int) (f10 fge wb : Bool) : Bool := if x = 0 then true else if Go.bits .and .u8 x 2 = 0 then m2 x fge wb else if f10 then m2 (Go.bits .andNot .u8 x 2) fge wb else if fge then false else m2 (Go.bits .andNot .u8 x 2) fge wb
def m0 (x : Int) (ege f10 fge wb : Bool) : Bool := if Go.bits .and .u8 x 4 = 0 then m1 x f10 fge wb else if ege then false else m1 (Go.bits .andNot .u8 x 4) f10 fge wb
def mP (x : Int) (e10 ege f10 fge wb : Bool) : Bool := if x = 0 then true else if Go.bits .and .u8 x 1 = 0 then m0 x ege f10 fge wb else if e10 then m0 (Go.bits .andNot .u8 x 1) ege f10 fge wb else if ege then false else m0 (Go.bits .andNot .u8 x 1) ege f10 fge wb
theorem j3_m (k : Nat) (x r1 r2 : Int) : regexp_lazyFlag_match.j3 (k + 1) x r1 r2 = some (m3 x (wdB r1 != wdB r2)) := by
  rw [regexp_lazyFlag_match.j3, isWord_f, isWord_f]
  unfold m3
  split
  · rfl
  · simp only [Option.bind_some]
    split <;> simp_all
theorem j2_m (k : Nat) (x r1 r2 : Int) : regexp_lazyFlag_match.j2 (k + 2) x r1 r2 = some (m2 x (decide (r2 ≥ 0)) (wdB r1 != wdB r2)) := by
  rw [regexp_lazyFlag_match.j2, j3_m, j3_m]
  unfold m2
  split
  · rfl
  · by_cases h : r2 ≥ 0 <;> simp [h]
theorem j1_m (k : Nat) (F x r1 : Int) : regexp_lazyFlag_match.j1 (k + 3) F x r1 = some (m1 x (decide (wrap32 F = 10)) (decide (wrap32 F ≥ 0)) (wdB r1 != wdB (wrap32 F))) := by
  rw [regexp_lazyFlag_match.j1, j2_m, j2_m]
  unfold m1
  split
  · rfl
  · split
    · rfl
    · by_cases h : wrap32 F = 10
      · simp [h]
      · by_cases h2 : wrap32 F ≥ 0 <;> simp [h, h2]
theorem j0_m (k : Nat) (F x r1 : Int) : regexp_lazyFlag_match.j0 (k + 4) F x r1 = some (m0 x (decide (r1 ≥ 0)) (decide (wrap32 F = 10)) (decide (wrap32 F ≥ 0)) (wdB r1 != wdB (wrap32 F))) := by
  rw [regexp_lazyFlag_match.j0, j1_m, j1_m]
  unfold m0
  split
  · rfl
  · by_cases h : r1 ≥ 0 <;> simp [h]
theorem match_m (k : Nat) (F x : Int) : regexp_lazyFlag_match.f (k + 4) F x = some (mP x (decide (wrap32 (F / 4294967296) = 10)) (decide (wrap32 (F / 4294967296) ≥ 0)) (decide (wrap32 F = 10)) (decide (wrap32 F ≥ 0)) (wdB (wrap32 (F / 4294967296)) != wdB (wrap32 F))) := by
  rw [regexp_lazyFlag_match.f, j0_m, j0_m]
  unfold mP
  split
  · rfl
  · split
    · rfl
    · by_cases h : wrap32 (F / 4294967296) = 10
      · simp [h]
      · by_cases h2 : wrap32 (F / 4294967296) ≥ 0 <;> simp [h, h2]
theorem mc_all : ∀ (bm b10 am a10 wb : Bool), (bm = true → b10 = false) → (am = true → a10 = false) → ∀ x : Fin 64, 0 < x.val → mP (x.val : Int) b10 (!bm) a10 (!am) wb = holds (cP bm b10 am a10 wb) (x.val : Int) := by
  unfold mP m0 m1 m2 m3 holds cP
  decide +kernel
theorem or_low (x y : Nat) (hy : y < 4294967296) : x * 4294967296 ||| y = x * 4294967296 + y := by
  have := Nat.two_pow_add_eq_or_of_lt (i := 32) (b := y) (by simpa using hy) x
  rw [Nat.mul_comm x]
  exact this.symm
theorem p64 : (2 : Nat) ^ 64 = 18446744073709551616 := by decide
theorem wrap_u64 {Z : Nat} (h : Z < 2 ^ 64) : IntKind.u64.wrap (Z : Int) = (Z : Int) := by
  have := p64
  unfold IntKind.wrap; simp [IntKind.bits, IntKind.signed]; omega
theorem or_bits (X Y : Nat) (hX : X < 2 ^ 64) (hY : Y < 2 ^ 64) : bits .or .u64 (X : Int) (Y : Int) = ((X ||| Y : Nat) : Int) := by
  have e : (BitVec.ofInt IntKind.u64.bits (X : Int) ||| BitVec.ofInt IntKind.u64.bits (Y : Int)).toNat = X ||| Y := by
    show (BitVec.ofInt 64 (X : Int) ||| BitVec.ofInt 64 (Y : Int)).toNat = X ||| Y
    rw [BitVec.toNat_or, BitVec.ofInt_natCast, BitVec.ofInt_natCast, BitVec.toNat_ofNat, BitVec.toNat_ofNat, Nat.mod_eq_of_lt hX, Nat.mod_eq_of_lt hY]
  exact (congrArg (fun z : Nat => IntKind.u64.wrap (z : Int)) e).trans (wrap_u64 (Nat.or_lt_two_pow hX hY))
theorem lazy_eq {b a F : Int} (hb0 : -1 ≤ b) (hb1 : b ≤ 1114111) (hF : regexp_newLazyFlag.f b a = some F) : F = (b % 4294967296) * 4294967296 + a % 4294967296 := by
  unfold regexp_newLazyFlag.f at hF
  simp only [Option.some.injEq] at hF
  rw [← hF]
  have e1 : IntKind.u64.wrap (IntKind.u64.wrap b * 4294967296) = (b % 4294967296) * 4294967296 := by
    unfold IntKind.wrap; simp [IntKind.bits, IntKind.signed]; omega
  rw [e1]
  obtain ⟨x, hx⟩ : ∃ x : Nat, b % 4294967296 = (x : Int) := ⟨(b % 4294967296).toNat, by omega⟩
  obtain ⟨y, hy⟩ : ∃ y : Nat, a % 4294967296 = (y : Int) := ⟨(a % 4294967296).toNat, by omega⟩
  have hx2 : x < 4294967296 := by omega
  have hy2 : y < 4294967296 := by omega
  rw [hx, hy]
  have := or_low x y hy2
  have h1 : (x : Int) * 4294967296 = ((x * 4294967296 : Nat) : Int) := by omega
  have h3 := or_bits (x * 4294967296) y (by have := p64; omega) (by have := p64; omega)
  rw [← h1] at h3
  rw [h3, this]
  omega
theorem wrap32_back {b : Int} (hb0 : -1 ≤ b) (hb1 : b ≤ 1114111) : wrap32 (b % 4294967296) = b := by unfold wrap32; omega
theorem lazy_match {b a F cond : Int} {kc : Nat} (hb0 : -1 ≤ b) (hb1 : b ≤ 1114111) (ha0 : -1 ≤ a) (ha1 : a ≤ 1114111) (hF : regexp_newLazyFlag.f b a = some F) (hc : spec_CondBetween.f (kc + 6) b a = some cond) :
    ∀ x, 0 < x → x < 64 → ∃ k, regexp_lazyFlag_match.f k F x = some (holds cond x) := by
  intro x h0 h1
  refine ⟨4, ?_⟩
  have e := lazy_eq hb0 hb1 hF
  have e1 : wrap32 (F / 4294967296) = b := by
    have : F / 4294967296 = b % 4294967296 := by omega
    rw [this, wrap32_back hb0 hb1]
  have e2 : wrap32 F = a := by
    have := wrap32_back ha0 ha1
    unfold wrap32 at this ⊢
    omega
  rw [cond_c] at hc
  cases hc
  rw [match_m 0, e1, e2]
  obtain ⟨n, rfl⟩ : ∃ n : Nat, x = (n : Int) := ⟨x.toNat, by omega⟩
  have hall := mc_all (decide (b = -1)) (b == 10) (decide (a = -1)) (a == 10) (wdB b != wdB a) (by simp; omega) (by simp; omega) ⟨n, by omega⟩ (by simp; omega)
  rw [← hall]
  have f1 : decide (b = 10) = (b == 10) := by rw [Bool.eq_iff_iff]; simp
  have f2 : decide (a = 10) = (a == 10) := by rw [Bool.eq_iff_iff]; simp
  have f3 : decide (b ≥ 0) = !decide (b = -1) := by rw [Bool.eq_iff_iff]; simp; omega
  have f4 : decide (a ≥ 0) = !decide (a = -1) := by rw [Bool.eq_iff_iff]; simp; omega
  rw [f1, f2, f3, f4]
end Go.Proofs.YteoljppcafakpaaDoor.PgFnPgWalk
