import Derived.Test.YteoljppcafakpaaDoorPbFnPgWalk
import Derived.Test.YteoljppcafakpaaDoorRow
namespace Go.Proofs.YteoljppcafakpaaDoor.PgFnPgWalk
open Go.RowKit Go.Proofs.YteoljppcafakpaaDoor.EvN Go.Proofs.YteoljppcafakpaaDoor.Row Go.Proofs.YteoljppcafakpaaDoor.PFnPgWalk Go.Proofs.YteoljppcafakpaaDoorW.PrintWords Go.Proofs.YteoljppcafakpaaDoorW.PrintLast Go.Proofs.YteoljppcafakpaaDoorW.PrintMore
attribute [local go_sem ↓] Go.wp_at_zero Go.wp_at_succ
theorem iru : (Tryd.prog.info? 21).map (fun i => (i.zero, i.size, i.bytes)) = some (some (.int .i32 0), 1, 4) := by kernel_rfl
abbrev J := S87
def pin (i : I) : J := if i.f0 = 4 ∨ i.f0 = 5 then ⟨i.f0, 0, 0, []⟩ else ⟨i.f0, i.f1, IntKind.u32.wrap i.f2, i.f3⟩
set_option maxRecDepth 100000 in
set_option maxHeartbeats 4000000 in
theorem inst_calls (i : I) (h0 : 0 ≤ i.f0 ∧ i.f0 ≤ 10) (hi : ¬ (i.f0 = 4 ∨ i.f0 = 5) → 0 ≤ i.f1 ∧ i.f1 < 4294967296) (hl : i.f3.length * 4 ≤ 140737488351232) (W0 w : World) (cs : List Value) (hK : k29.K W0 i cs) (hW : Below W0.heap.size W0 w) :
    Calls Tryd.prog 44 #[.agg cs.toArray] w fun e w' => ∃ vr, e = .returned (.agg #[.int .u8 (pin i).f0, .int .u32 (pin i).f1, .int .u32 (pin i).f2, vr]) ∧ RowAt w' (fun b => w.heap.size ≤ b ∧ b < w'.heap.size) 21 vr ((pin i).f3.map (.int .i32)) ∧ Below w.heap.size w w' := by
  obtain ⟨A3, c3, rfl, l3, g3⟩ := k29_open hK
  have hu31 := Tryd.underlying29
  have hu160 := Tryd.underlying87
  have HG := Lib.hid (And.intro l3 g3)
  have HI := Lib.hid hi
  have HL := Lib.hid hl
  have HW := Lib.hid hW
  clear l3 g3 hi hl hK hW
  by_cases h45 : i.f0 = 4 ∨ i.f0 = 5
  · have hp : pin i = ⟨i.f0, 0, 0, []⟩ := by unfold pin; rw [if_pos h45]
    rw [hp]
    clear hp
    generalize i.f0 = op at *
    rcases h45 with rfl | rfl
    all_goals
      go_enter Tryd.func44, Tryd.ntmps44
      go_wp2_with fail
      exact bodyPost_ret (v := .agg #[.int .u8 _, .int .u32 0, .int .u32 0, .slice none 0 0]) (by simp [results, Tryd.results44, go_sem]) rfl ⟨_, rfl, .inl ⟨rfl, rfl⟩, ((Below.refl _ _).alloc (Nat.le_refl _) _).alloc (by simp) _⟩
  · have hp : pin i = ⟨i.f0, i.f1, IntKind.u32.wrap i.f2, i.f3⟩ := by unfold pin; rw [if_neg h45]
    rw [hp]
    clear hp
    obtain ⟨h1, h2⟩ := HI.out h45
    have e4 : (i.f0 == 4) = false := by simp; omega
    have e5 : (i.f0 == 5) = false := by simp; omega
    clear h45 HI
    have HC := Lib.hid (fun w' (hb : Below w.heap.size w w') => runes_cells HG.out.2 (HW.out.trans (hb.mono HW.out.size)))
    go_enter Tryd.func44, Tryd.ntmps44
    go_wp2_with fail
    obtain ⟨gb, hgb⟩ : ∃ gb, gb = w.heap.size := ⟨_, rfl⟩
    have BK := Lib.hid (blk_alloc (heap_alloc_new w (.cells #[.int .i64 i.f0, .int .i64 i.f1, .int .i64 i.f2, .slice A3 i.f3.length c3] 29)) (.cells #[.int .u8 0, .int .u32 0, .int .u32 0, .slice none 0 0] 87))
    have BC := Lib.hid (heap_alloc_new (w.alloc (.cells #[.int .i64 i.f0, .int .i64 i.f1, .int .i64 i.f2, .slice A3 i.f3.length c3] 29)) (.cells #[.int .u8 0, .int .u32 0, .int .u32 0, .slice none 0 0] 87))
    rw [show (w.alloc (.cells #[.int .i64 i.f0, .int .i64 i.f1, .int .i64 i.f2, .slice A3 i.f3.length c3] 29)).heap.size = w.heap.size + 1 by simp] at BC
    have HB := Lib.hid (((Below.refl w.heap.size w).alloc (Nat.le_refl _) (.cells #[.int .i64 i.f0, .int .i64 i.f1, .int .i64 i.f2, .slice A3 i.f3.length c3] 29)).alloc (by simp) (.cells #[.int .u8 0, .int .u32 0, .int .u32 0, .slice none 0 0] 87))
    generalize World.alloc (World.alloc w _) _ = w2 at *
    rw [← hgb] at BK BC ⊢
    have HGB := Lib.hid hgb
    clear hgb
    obtain ⟨hz0, hz1, hz2, hz3⟩ := blk4 BK.out
    obtain ⟨hv0, hv1, hv2, hv3⟩ := blk4 BC.out
    have lb := blk_lt BK.out
    have W1 := Lib.hid (wrap_u8 h0.1 (show i.f0 ≤ 255 by omega))
    have W2 := Lib.hid (wrap_u32 h1 h2)
    have HCC := Lib.hid (HC.out w2 HB.out)
    have F1 := Lib.hid (show (i.f3.map (Value.int .i32)).length = i.f3.length by simp)
    have F2 := Lib.hid (show ∀ u ∈ i.f3.map (Value.int .i32), u.oneCell' = true by intro u hu; rw [List.mem_map] at hu; obtain ⟨_, _, rfl⟩ := hu; rfl)
    have F3 := Lib.hid (show i.f3.length * 4 ≤ 140737488355328 by have := HL.out; omega)
    have F4 := Lib.hid (show i.f3.length ≤ maxLen by have := HL.out; unfold maxLen; omega)
    clear HC
    go_region_held3 (fun w' => w'.cell? ⟨gb, 0, none⟩ = some (.int .i64 i.f0) ∧ w'.cell? ⟨gb, 1, none⟩ = some (.int .i64 i.f1) ∧ w'.cell? ⟨gb, 2, none⟩ = some (.int .i64 i.f2) ∧ w'.cell? ⟨gb, 3, none⟩ = some (.slice A3 i.f3.length c3))
      (first
        | go_keep
        | (go_split_ands
           refine ⟨?_, ?_, ?_, ?_⟩
           · ((rw [hb3.cell (by simpa using lb)]); assumption)
           · ((rw [hb3.cell (by simpa using lb)]); assumption)
           · ((rw [hb3.cell (by simpa using lb)]); assumption)
           · ((rw [hb3.cell (by simpa using lb)]); assumption)))
      ((refine step_appn (by rfl) _ _ 27 (by rfl) 21 (.int .i32 0) 4 Tryd.underlying27 iru rfl (by rfl) A3 i.f3.length c3 (i.f3.map (.int .i32)) (by rfl) F1.out HCC.out F2.out F3.out F4.out ?_; intro vr w3 hown hb3; obtain ⟨Ar, cr, rfl⟩ := owns_slice hown; have BC3 := Lib.hid (blk_below (blk_drew BC.out) hb3); have hf0 := blk_frozen BC3.out 0; have hf1 := blk_frozen BC3.out 1; have hf2 := blk_frozen BC3.out 2; have hf3 := blk_frozen BC3.out 3; obtain ⟨hu0, hu1, hu2, hu3⟩ := blk4 BC3.out))
    have HBK := Lib.hid hb3
    have HO := Lib.hid hown
    have HB3 := Lib.hid (below_step (below_drew HB.out) hb3)
    clear hb3 hown hz0 hz1 hz2 hz3 hv0 hv1 hv2 hv3 hu0 hu1 hu2 hu3 hf0 hf1 hf2 hf3
    rw [W1.out, W2.out]
    rename_i hHeld
    clear hHeld
    have hsz := HB.out.size
    have BC4 := Lib.hid (set4_blk BC3.out (.int .u8 i.f0) (.int .u32 i.f1) (.int .u32 (IntKind.u32.wrap i.f2)) (.slice Ar i.f3.length cr))
    have HB4 := Lib.hid (set4_below HB3.out (show w.heap.size ≤ gb + 1 by have := HGB.out; omega) (.int .u8 i.f0) (.int .u32 i.f1) (.int .u32 (IntKind.u32.wrap i.f2)) (.slice Ar i.f3.length cr))
    have HR := Lib.hid (RowAt.of_owns HO.out (S := fun b => w2.heap.size ≤ b) (fun g hg => (HO.out.lt g hg).1))
    have HR4 := Lib.hid (HR.out.mono (w' := set4 w3 (gb + 1) (.int .u8 i.f0) (.int .u32 i.f1) (.int .u32 (IntKind.u32.wrap i.f2)) (.slice Ar i.f3.length cr)) (S' := fun b => w.heap.size ≤ b ∧ b < (set4 w3 (gb + 1) (.int .u8 i.f0) (.int .u32 i.f1) (.int .u32 (IntKind.u32.wrap i.f2)) (.slice Ar i.f3.length cr)).heap.size) fun b hb hs => ⟨⟨Nat.le_trans hsz hs, by rw [set4_size]; exact hb⟩, set4_far w3 (gb + 1) b (by have := blk_lt BC.out; omega) _ _ _ _⟩)
    generalize hw4 : set4 w3 (gb + 1) (.int .u8 i.f0) (.int .u32 i.f1) (.int .u32 (IntKind.u32.wrap i.f2)) (.slice Ar i.f3.length cr) = w4 at *
    simp only [set4] at hw4
    rw [hw4]
    clear hw4
    obtain ⟨hu0, hu1, hu2, hu3⟩ := blk4 BC4.out
    go_wp2_with fail
    exact bodyPost_ret (v := .agg #[.int .u8 i.f0, .int .u32 i.f1, .int .u32 (IntKind.u32.wrap i.f2), .slice Ar i.f3.length cr]) (by simp [results, Tryd.results44, go_sem, hu0, hu1, hu2, hu3]) rfl ⟨_, rfl, HR4.out, HB4.out⟩
end Go.Proofs.YteoljppcafakpaaDoor.PgFnPgWalk
