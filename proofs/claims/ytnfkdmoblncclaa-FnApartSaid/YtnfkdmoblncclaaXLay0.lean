/- Each encoder of fields of this part: its letters and its word. -/
import Derived.Test.YtnfkdmoblncclaaXBelow
import Derived.Test.YtnfkdmoblncclaaXPureWord
namespace Go.Proofs.Ytnfkdmoblncclaa.X
open Go.RowKit Go.Proofs.YtnfkdmoblncclaaW.PrintWords Go.Proofs.YtnfkdmoblncclaaW.PrintLast Go.Proofs.YtnfkdmoblncclaaW.PrintMore
attribute [local go_sem] max2_int min2_int max_two min_two max_three min_three max_four min_four   -- for this text's walks alone
set_option linter.unusedVariables false
set_option linter.unusedSimpArgs false

/-! ### AOP_RRR: TAB -/
def sz_AOP_RRR (i : Nat) : Nat := ([5, 5, 5] : List Nat).getD i 0
theorem bt_AOP_RRR_0 : bt (⟨#[84, 65, 66]⟩ : ByteArray) ((0 : Nat) : Int) = 84 := by decide +kernel
theorem bt_AOP_RRR_1 : bt (⟨#[84, 65, 66]⟩ : ByteArray) ((1 : Nat) : Int) = 65 := by decide +kernel
theorem bt_AOP_RRR_2 : bt (⟨#[84, 65, 66]⟩ : ByteArray) ((2 : Nat) : Int) = 66 := by decide +kernel
theorem known_AOP_RRR : Known (⟨#[84, 65, 66]⟩ : ByteArray) sz_AOP_RRR where
  size := below_3 (P := fun i => ∀ k, 12 ≤ k → spec_Size.f k (bt (⟨#[84, 65, 66]⟩ : ByteArray) (i : Int)) = some (sz_AOP_RRR i : Int)) (fun k hk => by rw [bt_AOP_RRR_0]; exact size_T k (by omega)) (fun k hk => by rw [bt_AOP_RRR_1]; exact size_A k (by omega)) (fun k hk => by rw [bt_AOP_RRR_2]; exact size_B k (by omega))
  few := below_3 (P := fun i => sz_AOP_RRR i ≤ 62) (by decide) (by decide) (by decide)
  put := below_3 (P := fun i => ∀ k, 12 ≤ k → ∀ v : Int, 0 ≤ v → v < 2 ^ sz_AOP_RRR i → ∃ t, spec_Put.f k v (bt (⟨#[84, 65, 66]⟩ : ByteArray) (i : Int)) = some t) (fun k hk v h0 h1 => by rw [bt_AOP_RRR_0]; exact ⟨_, put_T k (by omega) v h0 h1⟩) (fun k hk v h0 h1 => by rw [bt_AOP_RRR_1]; exact ⟨_, put_A k (by omega) v h0 h1⟩) (fun k hk v h0 h1 => by rw [bt_AOP_RRR_2]; exact ⟨_, put_B k (by omega) v h0 h1⟩)
theorem word_AOP_RRR (m : Nat) (code : Int) {f0 f1 f2 : Int} (h0 : 0 ≤ f0) (g0 : f0 < 32) (h1 : 0 ≤ f1) (g1 : f1 < 32) (h2 : 0 ≤ f2) (g2 : f2 < 32) : spec_Word.f (m + 20) (⟨#[65, 79, 80, 95, 82, 82, 82]⟩ : ByteArray) (⟨#[84, 65, 66]⟩ : ByteArray) code [f0, f1, f2] = some (Go.bits .or .u32 (Go.bits .or .u32 (Go.bits .or .u32 code (f0 * 2097152 % 4294967296)) (f1 * 65536 % 4294967296)) (f2 * 2048 % 4294967296), true) := by
  unfold spec_Word.f
  rw [if_pos (show (([f0, f1, f2] : List Int).length : Int) = (((⟨#[84, 65, 66]⟩ : ByteArray)).size : Int) from rfl)]
  show spec_Word.l0 (m + 19 + 1) code [f0, f1, f2] ((0 : Nat) : Int) (⟨#[65, 79, 80, 95, 82, 82, 82]⟩ : ByteArray) (⟨#[84, 65, 66]⟩ : ByteArray) = _
  rw [word_round (m + 19) _ _ 0 _ _ 5 (by simp) (by decide) (by rw [bt_AOP_RRR_0]; exact size_T _ (by omega)) (by decide) (by simp)]
  rw [show rd [f0, f1, f2] ((0 : Nat) : Int) = f0 from rfl, bt_AOP_RRR_0, if_neg (by omega), if_neg (by omega), put_T _ (by omega) f0 h0 g0, Option.bind_some]
  rw [word_round (m + 18) _ _ 1 _ _ 5 (by simp) (by decide) (by rw [bt_AOP_RRR_1]; exact size_A _ (by omega)) (by decide) (by simp)]
  rw [show rd [f0, f1, f2] ((1 : Nat) : Int) = f1 from rfl, bt_AOP_RRR_1, if_neg (by omega), if_neg (by omega), put_A _ (by omega) f1 h1 g1, Option.bind_some]
  rw [word_round (m + 17) _ _ 2 _ _ 5 (by simp) (by decide) (by rw [bt_AOP_RRR_2]; exact size_B _ (by omega)) (by decide) (by simp)]
  rw [show rd [f0, f1, f2] ((2 : Nat) : Int) = f2 from rfl, bt_AOP_RRR_2, if_neg (by omega), if_neg (by omega), put_B _ (by omega) f2 h2 g2, Option.bind_some]
  rw [word_end (m + 16) _ _ 3 _ _ rfl]
set_option maxHeartbeats 4000000 in
theorem leaf_AOP_RRR {code f0 f1 f2 : Int} (h0 : 0 ≤ f0) (g0 : f0 < 32) (h1 : 0 ≤ f1) (g1 : f1 < 32) (h2 : 0 ≤ f2) (g2 : f2 < 32) : ppc64obj_AOP_RRR.f (code % 4294967296) (f0 % 4294967296) (f1 % 4294967296) (f2 % 4294967296) = some (Go.bits .or .u32 (Go.bits .or .u32 (Go.bits .or .u32 code (f0 * 2097152 % 4294967296)) (f1 * 65536 % 4294967296)) (f2 * 2048 % 4294967296)) := by
  have z0 : ∀ p, 5 ≤ p → tb f0 p = false := fun p hp => tb_small f0 5 p h0 g0 hp
  have z1 : ∀ p, 5 ≤ p → tb f1 p = false := fun p hp => tb_small f1 5 p h1 g1 hp
  have z2 : ∀ p, 5 ≤ p → tb f2 p = false := fun p hp => tb_small f2 5 p h2 g2 hp
  have mc : ∀ p, tb (code % 4294967296) p = tb code p := tb_mod code
  have m0 : ∀ p, tb (f0 % 4294967296) p = tb f0 p := tb_mod f0
  have m1 : ∀ p, tb (f1 % 4294967296) p = tb f1 p := tb_mod f1
  have m2 : ∀ p, tb (f2 % 4294967296) p = tb f2 p := tb_mod f2
  show some (Go.bits .or .u32 (Go.bits .or .u32 (Go.bits .or .u32 (code % 4294967296) (((Go.bits .and .u32 (f0 % 4294967296) 31) * 2097152) % 4294967296)) (((Go.bits .and .u32 (f1 % 4294967296) 31) * 65536) % 4294967296)) (((Go.bits .and .u32 (f2 % 4294967296) 31) * 2048) % 4294967296)) = _
  refine congrArg some (tb_ext (or32_in _ _).1 (or32_in _ _).2 (or32_in _ _).1 (or32_in _ _).2 (p32 ?_ ?_ ?_ ?_ ?_ ?_ ?_ ?_ ?_ ?_ ?_ ?_ ?_ ?_ ?_ ?_ ?_ ?_ ?_ ?_ ?_ ?_ ?_ ?_ ?_ ?_ ?_ ?_ ?_ ?_ ?_ ?_))
  all_goals simp only [tb_or, tb_and, tb_s0, tb_s1, tb_s2, tb_s3, tb_s4, tb_s5, tb_s6, tb_s7, tb_s8, tb_s9, tb_s10, tb_s11, tb_s12, tb_s13, tb_s14, tb_s15, tb_s16, tb_s17, tb_s18, tb_s19, tb_s20, tb_s21, tb_s22, tb_s23, tb_s24, tb_s25, tb_s26, tb_s27, tb_s28, tb_s29, tb_s30, tb_s31, tb_d1, tb_d2, tb_d3, tb_d4, tb_d5, tb_d6, tb_d7, tb_d8, tb_d9, tb_d10, tb_d11, tb_d12, tb_d13, tb_d14, tb_d15, tb_d16, tb_d17, tb_d18, tb_d19, tb_d20, tb_d21, tb_d22, tb_d23, tb_d24, tb_d25, tb_d26, tb_d27, tb_d28, tb_d29, tb_d30, tb_d31, tb_m1, tb_m2, tb_m3, tb_m4, tb_m5, tb_m6, tb_m7, tb_m8, tb_m9, tb_m10, tb_m11, tb_m12, tb_m13, tb_m14, tb_m15, tb_m16, tb_m17, tb_m18, tb_m19, tb_m20, tb_m21, tb_m22, tb_m23, tb_m24, tb_m25, tb_m26, tb_m27, tb_m28, tb_m29, tb_m30, tb_m31, tb_c1, tb_c3, tb_c15, tb_c31, tb_c32, tb_c65535, tb_c4095, tb_c262143, tb_c67108860, tb_c65532, tb_c67108864, tb_c100663296, tb_c0, z0, z1, z2, mc, m0, m1, m2]
  all_goals simp [z0, z1, z2]
/-! ### AOP_RR: TB -/
def sz_AOP_RR (i : Nat) : Nat := ([5, 5] : List Nat).getD i 0
theorem bt_AOP_RR_0 : bt (⟨#[84, 66]⟩ : ByteArray) ((0 : Nat) : Int) = 84 := by decide +kernel
theorem bt_AOP_RR_1 : bt (⟨#[84, 66]⟩ : ByteArray) ((1 : Nat) : Int) = 66 := by decide +kernel
theorem known_AOP_RR : Known (⟨#[84, 66]⟩ : ByteArray) sz_AOP_RR where
  size := below_2 (P := fun i => ∀ k, 12 ≤ k → spec_Size.f k (bt (⟨#[84, 66]⟩ : ByteArray) (i : Int)) = some (sz_AOP_RR i : Int)) (fun k hk => by rw [bt_AOP_RR_0]; exact size_T k (by omega)) (fun k hk => by rw [bt_AOP_RR_1]; exact size_B k (by omega))
  few := below_2 (P := fun i => sz_AOP_RR i ≤ 62) (by decide) (by decide)
  put := below_2 (P := fun i => ∀ k, 12 ≤ k → ∀ v : Int, 0 ≤ v → v < 2 ^ sz_AOP_RR i → ∃ t, spec_Put.f k v (bt (⟨#[84, 66]⟩ : ByteArray) (i : Int)) = some t) (fun k hk v h0 h1 => by rw [bt_AOP_RR_0]; exact ⟨_, put_T k (by omega) v h0 h1⟩) (fun k hk v h0 h1 => by rw [bt_AOP_RR_1]; exact ⟨_, put_B k (by omega) v h0 h1⟩)
theorem word_AOP_RR (m : Nat) (code : Int) {f0 f1 : Int} (h0 : 0 ≤ f0) (g0 : f0 < 32) (h1 : 0 ≤ f1) (g1 : f1 < 32) : spec_Word.f (m + 20) (⟨#[65, 79, 80, 95, 82, 82]⟩ : ByteArray) (⟨#[84, 66]⟩ : ByteArray) code [f0, f1] = some (Go.bits .or .u32 (Go.bits .or .u32 code (f0 * 2097152 % 4294967296)) (f1 * 2048 % 4294967296), true) := by
  unfold spec_Word.f
  rw [if_pos (show (([f0, f1] : List Int).length : Int) = (((⟨#[84, 66]⟩ : ByteArray)).size : Int) from rfl)]
  show spec_Word.l0 (m + 19 + 1) code [f0, f1] ((0 : Nat) : Int) (⟨#[65, 79, 80, 95, 82, 82]⟩ : ByteArray) (⟨#[84, 66]⟩ : ByteArray) = _
  rw [word_round (m + 19) _ _ 0 _ _ 5 (by simp) (by decide) (by rw [bt_AOP_RR_0]; exact size_T _ (by omega)) (by decide) (by simp)]
  rw [show rd [f0, f1] ((0 : Nat) : Int) = f0 from rfl, bt_AOP_RR_0, if_neg (by omega), if_neg (by omega), put_T _ (by omega) f0 h0 g0, Option.bind_some]
  rw [word_round (m + 18) _ _ 1 _ _ 5 (by simp) (by decide) (by rw [bt_AOP_RR_1]; exact size_B _ (by omega)) (by decide) (by simp)]
  rw [show rd [f0, f1] ((1 : Nat) : Int) = f1 from rfl, bt_AOP_RR_1, if_neg (by omega), if_neg (by omega), put_B _ (by omega) f1 h1 g1, Option.bind_some]
  rw [word_end (m + 17) _ _ 2 _ _ rfl]
set_option maxHeartbeats 4000000 in
theorem leaf_AOP_RR {code f0 f1 : Int} (h0 : 0 ≤ f0) (g0 : f0 < 32) (h1 : 0 ≤ f1) (g1 : f1 < 32) : ppc64obj_AOP_RR.f (code % 4294967296) (f0 % 4294967296) (f1 % 4294967296) = some (Go.bits .or .u32 (Go.bits .or .u32 code (f0 * 2097152 % 4294967296)) (f1 * 2048 % 4294967296)) := by
  have z0 : ∀ p, 5 ≤ p → tb f0 p = false := fun p hp => tb_small f0 5 p h0 g0 hp
  have z1 : ∀ p, 5 ≤ p → tb f1 p = false := fun p hp => tb_small f1 5 p h1 g1 hp
  have mc : ∀ p, tb (code % 4294967296) p = tb code p := tb_mod code
  have m0 : ∀ p, tb (f0 % 4294967296) p = tb f0 p := tb_mod f0
  have m1 : ∀ p, tb (f1 % 4294967296) p = tb f1 p := tb_mod f1
  show some (Go.bits .or .u32 (Go.bits .or .u32 (code % 4294967296) (((Go.bits .and .u32 (f0 % 4294967296) 31) * 2097152) % 4294967296)) (((Go.bits .and .u32 (f1 % 4294967296) 31) * 2048) % 4294967296)) = _
  refine congrArg some (tb_ext (or32_in _ _).1 (or32_in _ _).2 (or32_in _ _).1 (or32_in _ _).2 (p32 ?_ ?_ ?_ ?_ ?_ ?_ ?_ ?_ ?_ ?_ ?_ ?_ ?_ ?_ ?_ ?_ ?_ ?_ ?_ ?_ ?_ ?_ ?_ ?_ ?_ ?_ ?_ ?_ ?_ ?_ ?_ ?_))
  all_goals simp only [tb_or, tb_and, tb_s0, tb_s1, tb_s2, tb_s3, tb_s4, tb_s5, tb_s6, tb_s7, tb_s8, tb_s9, tb_s10, tb_s11, tb_s12, tb_s13, tb_s14, tb_s15, tb_s16, tb_s17, tb_s18, tb_s19, tb_s20, tb_s21, tb_s22, tb_s23, tb_s24, tb_s25, tb_s26, tb_s27, tb_s28, tb_s29, tb_s30, tb_s31, tb_d1, tb_d2, tb_d3, tb_d4, tb_d5, tb_d6, tb_d7, tb_d8, tb_d9, tb_d10, tb_d11, tb_d12, tb_d13, tb_d14, tb_d15, tb_d16, tb_d17, tb_d18, tb_d19, tb_d20, tb_d21, tb_d22, tb_d23, tb_d24, tb_d25, tb_d26, tb_d27, tb_d28, tb_d29, tb_d30, tb_d31, tb_m1, tb_m2, tb_m3, tb_m4, tb_m5, tb_m6, tb_m7, tb_m8, tb_m9, tb_m10, tb_m11, tb_m12, tb_m13, tb_m14, tb_m15, tb_m16, tb_m17, tb_m18, tb_m19, tb_m20, tb_m21, tb_m22, tb_m23, tb_m24, tb_m25, tb_m26, tb_m27, tb_m28, tb_m29, tb_m30, tb_m31, tb_c1, tb_c3, tb_c15, tb_c31, tb_c32, tb_c65535, tb_c4095, tb_c262143, tb_c67108860, tb_c65532, tb_c67108864, tb_c100663296, tb_c0, z0, z1, mc, m0, m1]
  all_goals simp [z0, z1]
/-! ### AOP_RRRR: TABY -/
def sz_AOP_RRRR (i : Nat) : Nat := ([5, 5, 5, 5] : List Nat).getD i 0
theorem bt_AOP_RRRR_0 : bt (⟨#[84, 65, 66, 89]⟩ : ByteArray) ((0 : Nat) : Int) = 84 := by decide +kernel
theorem bt_AOP_RRRR_1 : bt (⟨#[84, 65, 66, 89]⟩ : ByteArray) ((1 : Nat) : Int) = 65 := by decide +kernel
theorem bt_AOP_RRRR_2 : bt (⟨#[84, 65, 66, 89]⟩ : ByteArray) ((2 : Nat) : Int) = 66 := by decide +kernel
theorem bt_AOP_RRRR_3 : bt (⟨#[84, 65, 66, 89]⟩ : ByteArray) ((3 : Nat) : Int) = 89 := by decide +kernel
theorem known_AOP_RRRR : Known (⟨#[84, 65, 66, 89]⟩ : ByteArray) sz_AOP_RRRR where
  size := below_4 (P := fun i => ∀ k, 12 ≤ k → spec_Size.f k (bt (⟨#[84, 65, 66, 89]⟩ : ByteArray) (i : Int)) = some (sz_AOP_RRRR i : Int)) (fun k hk => by rw [bt_AOP_RRRR_0]; exact size_T k (by omega)) (fun k hk => by rw [bt_AOP_RRRR_1]; exact size_A k (by omega)) (fun k hk => by rw [bt_AOP_RRRR_2]; exact size_B k (by omega)) (fun k hk => by rw [bt_AOP_RRRR_3]; exact size_Y k (by omega))
  few := below_4 (P := fun i => sz_AOP_RRRR i ≤ 62) (by decide) (by decide) (by decide) (by decide)
  put := below_4 (P := fun i => ∀ k, 12 ≤ k → ∀ v : Int, 0 ≤ v → v < 2 ^ sz_AOP_RRRR i → ∃ t, spec_Put.f k v (bt (⟨#[84, 65, 66, 89]⟩ : ByteArray) (i : Int)) = some t) (fun k hk v h0 h1 => by rw [bt_AOP_RRRR_0]; exact ⟨_, put_T k (by omega) v h0 h1⟩) (fun k hk v h0 h1 => by rw [bt_AOP_RRRR_1]; exact ⟨_, put_A k (by omega) v h0 h1⟩) (fun k hk v h0 h1 => by rw [bt_AOP_RRRR_2]; exact ⟨_, put_B k (by omega) v h0 h1⟩) (fun k hk v h0 h1 => by rw [bt_AOP_RRRR_3]; exact ⟨_, put_Y k (by omega) v h0 h1⟩)
theorem word_AOP_RRRR (m : Nat) (code : Int) {f0 f1 f2 f3 : Int} (h0 : 0 ≤ f0) (g0 : f0 < 32) (h1 : 0 ≤ f1) (g1 : f1 < 32) (h2 : 0 ≤ f2) (g2 : f2 < 32) (h3 : 0 ≤ f3) (g3 : f3 < 32) : spec_Word.f (m + 20) (⟨#[65, 79, 80, 95, 82, 82, 82, 82]⟩ : ByteArray) (⟨#[84, 65, 66, 89]⟩ : ByteArray) code [f0, f1, f2, f3] = some (Go.bits .or .u32 (Go.bits .or .u32 (Go.bits .or .u32 (Go.bits .or .u32 code (f0 * 2097152 % 4294967296)) (f1 * 65536 % 4294967296)) (f2 * 2048 % 4294967296)) (f3 * 64 % 4294967296), true) := by
  unfold spec_Word.f
  rw [if_pos (show (([f0, f1, f2, f3] : List Int).length : Int) = (((⟨#[84, 65, 66, 89]⟩ : ByteArray)).size : Int) from rfl)]
  show spec_Word.l0 (m + 19 + 1) code [f0, f1, f2, f3] ((0 : Nat) : Int) (⟨#[65, 79, 80, 95, 82, 82, 82, 82]⟩ : ByteArray) (⟨#[84, 65, 66, 89]⟩ : ByteArray) = _
  rw [word_round (m + 19) _ _ 0 _ _ 5 (by simp) (by decide) (by rw [bt_AOP_RRRR_0]; exact size_T _ (by omega)) (by decide) (by simp)]
  rw [show rd [f0, f1, f2, f3] ((0 : Nat) : Int) = f0 from rfl, bt_AOP_RRRR_0, if_neg (by omega), if_neg (by omega), put_T _ (by omega) f0 h0 g0, Option.bind_some]
  rw [word_round (m + 18) _ _ 1 _ _ 5 (by simp) (by decide) (by rw [bt_AOP_RRRR_1]; exact size_A _ (by omega)) (by decide) (by simp)]
  rw [show rd [f0, f1, f2, f3] ((1 : Nat) : Int) = f1 from rfl, bt_AOP_RRRR_1, if_neg (by omega), if_neg (by omega), put_A _ (by omega) f1 h1 g1, Option.bind_some]
  rw [word_round (m + 17) _ _ 2 _ _ 5 (by simp) (by decide) (by rw [bt_AOP_RRRR_2]; exact size_B _ (by omega)) (by decide) (by simp)]
  rw [show rd [f0, f1, f2, f3] ((2 : Nat) : Int) = f2 from rfl, bt_AOP_RRRR_2, if_neg (by omega), if_neg (by omega), put_B _ (by omega) f2 h2 g2, Option.bind_some]
  rw [word_round (m + 16) _ _ 3 _ _ 5 (by simp) (by decide) (by rw [bt_AOP_RRRR_3]; exact size_Y _ (by omega)) (by decide) (by simp)]
  rw [show rd [f0, f1, f2, f3] ((3 : Nat) : Int) = f3 from rfl, bt_AOP_RRRR_3, if_neg (by omega), if_neg (by omega), put_Y _ (by omega) f3 h3 g3, Option.bind_some]
  rw [word_end (m + 15) _ _ 4 _ _ rfl]
set_option maxHeartbeats 4000000 in
theorem leaf_AOP_RRRR {code f0 f1 f2 f3 : Int} (h0 : 0 ≤ f0) (g0 : f0 < 32) (h1 : 0 ≤ f1) (g1 : f1 < 32) (h2 : 0 ≤ f2) (g2 : f2 < 32) (h3 : 0 ≤ f3) (g3 : f3 < 32) : ppc64obj_AOP_RRRR.f (code % 4294967296) (f0 % 4294967296) (f1 % 4294967296) (f2 % 4294967296) (f3 % 4294967296) = some (Go.bits .or .u32 (Go.bits .or .u32 (Go.bits .or .u32 (Go.bits .or .u32 code (f0 * 2097152 % 4294967296)) (f1 * 65536 % 4294967296)) (f2 * 2048 % 4294967296)) (f3 * 64 % 4294967296)) := by
  have z0 : ∀ p, 5 ≤ p → tb f0 p = false := fun p hp => tb_small f0 5 p h0 g0 hp
  have z1 : ∀ p, 5 ≤ p → tb f1 p = false := fun p hp => tb_small f1 5 p h1 g1 hp
  have z2 : ∀ p, 5 ≤ p → tb f2 p = false := fun p hp => tb_small f2 5 p h2 g2 hp
  have z3 : ∀ p, 5 ≤ p → tb f3 p = false := fun p hp => tb_small f3 5 p h3 g3 hp
  have mc : ∀ p, tb (code % 4294967296) p = tb code p := tb_mod code
  have m0 : ∀ p, tb (f0 % 4294967296) p = tb f0 p := tb_mod f0
  have m1 : ∀ p, tb (f1 % 4294967296) p = tb f1 p := tb_mod f1
  have m2 : ∀ p, tb (f2 % 4294967296) p = tb f2 p := tb_mod f2
  have m3 : ∀ p, tb (f3 % 4294967296) p = tb f3 p := tb_mod f3
  show some (Go.bits .or .u32 (Go.bits .or .u32 (Go.bits .or .u32 (Go.bits .or .u32 (code % 4294967296) (((Go.bits .and .u32 (f0 % 4294967296) 31) * 2097152) % 4294967296)) (((Go.bits .and .u32 (f1 % 4294967296) 31) * 65536) % 4294967296)) (((Go.bits .and .u32 (f2 % 4294967296) 31) * 2048) % 4294967296)) (((Go.bits .and .u32 (f3 % 4294967296) 31) * 64) % 4294967296)) = _
  refine congrArg some (tb_ext (or32_in _ _).1 (or32_in _ _).2 (or32_in _ _).1 (or32_in _ _).2 (p32 ?_ ?_ ?_ ?_ ?_ ?_ ?_ ?_ ?_ ?_ ?_ ?_ ?_ ?_ ?_ ?_ ?_ ?_ ?_ ?_ ?_ ?_ ?_ ?_ ?_ ?_ ?_ ?_ ?_ ?_ ?_ ?_))
  all_goals simp only [tb_or, tb_and, tb_s0, tb_s1, tb_s2, tb_s3, tb_s4, tb_s5, tb_s6, tb_s7, tb_s8, tb_s9, tb_s10, tb_s11, tb_s12, tb_s13, tb_s14, tb_s15, tb_s16, tb_s17, tb_s18, tb_s19, tb_s20, tb_s21, tb_s22, tb_s23, tb_s24, tb_s25, tb_s26, tb_s27, tb_s28, tb_s29, tb_s30, tb_s31, tb_d1, tb_d2, tb_d3, tb_d4, tb_d5, tb_d6, tb_d7, tb_d8, tb_d9, tb_d10, tb_d11, tb_d12, tb_d13, tb_d14, tb_d15, tb_d16, tb_d17, tb_d18, tb_d19, tb_d20, tb_d21, tb_d22, tb_d23, tb_d24, tb_d25, tb_d26, tb_d27, tb_d28, tb_d29, tb_d30, tb_d31, tb_m1, tb_m2, tb_m3, tb_m4, tb_m5, tb_m6, tb_m7, tb_m8, tb_m9, tb_m10, tb_m11, tb_m12, tb_m13, tb_m14, tb_m15, tb_m16, tb_m17, tb_m18, tb_m19, tb_m20, tb_m21, tb_m22, tb_m23, tb_m24, tb_m25, tb_m26, tb_m27, tb_m28, tb_m29, tb_m30, tb_m31, tb_c1, tb_c3, tb_c15, tb_c31, tb_c32, tb_c65535, tb_c4095, tb_c262143, tb_c67108860, tb_c65532, tb_c67108864, tb_c100663296, tb_c0, z0, z1, z2, z3, mc, m0, m1, m2, m3]
  all_goals simp [z0, z1, z2, z3]
/-! ### AOP_IRR: TAu -/
def sz_AOP_IRR (i : Nat) : Nat := ([5, 5, 16] : List Nat).getD i 0
theorem bt_AOP_IRR_0 : bt (⟨#[84, 65, 117]⟩ : ByteArray) ((0 : Nat) : Int) = 84 := by decide +kernel
theorem bt_AOP_IRR_1 : bt (⟨#[84, 65, 117]⟩ : ByteArray) ((1 : Nat) : Int) = 65 := by decide +kernel
theorem bt_AOP_IRR_2 : bt (⟨#[84, 65, 117]⟩ : ByteArray) ((2 : Nat) : Int) = 117 := by decide +kernel
theorem known_AOP_IRR : Known (⟨#[84, 65, 117]⟩ : ByteArray) sz_AOP_IRR where
  size := below_3 (P := fun i => ∀ k, 12 ≤ k → spec_Size.f k (bt (⟨#[84, 65, 117]⟩ : ByteArray) (i : Int)) = some (sz_AOP_IRR i : Int)) (fun k hk => by rw [bt_AOP_IRR_0]; exact size_T k (by omega)) (fun k hk => by rw [bt_AOP_IRR_1]; exact size_A k (by omega)) (fun k hk => by rw [bt_AOP_IRR_2]; exact size_u k (by omega))
  few := below_3 (P := fun i => sz_AOP_IRR i ≤ 62) (by decide) (by decide) (by decide)
  put := below_3 (P := fun i => ∀ k, 12 ≤ k → ∀ v : Int, 0 ≤ v → v < 2 ^ sz_AOP_IRR i → ∃ t, spec_Put.f k v (bt (⟨#[84, 65, 117]⟩ : ByteArray) (i : Int)) = some t) (fun k hk v h0 h1 => by rw [bt_AOP_IRR_0]; exact ⟨_, put_T k (by omega) v h0 h1⟩) (fun k hk v h0 h1 => by rw [bt_AOP_IRR_1]; exact ⟨_, put_A k (by omega) v h0 h1⟩) (fun k hk v h0 h1 => by rw [bt_AOP_IRR_2]; exact ⟨_, put_u k (by omega) v h0 h1⟩)
theorem word_AOP_IRR (m : Nat) (code : Int) {f0 f1 f2 : Int} (h0 : 0 ≤ f0) (g0 : f0 < 32) (h1 : 0 ≤ f1) (g1 : f1 < 32) (h2 : 0 ≤ f2) (g2 : f2 < 65536) : spec_Word.f (m + 20) (⟨#[65, 79, 80, 95, 73, 82, 82]⟩ : ByteArray) (⟨#[84, 65, 117]⟩ : ByteArray) code [f0, f1, f2] = some (Go.bits .or .u32 (Go.bits .or .u32 (Go.bits .or .u32 code (f0 * 2097152 % 4294967296)) (f1 * 65536 % 4294967296)) (f2 * 1 % 4294967296), true) := by
  unfold spec_Word.f
  rw [if_pos (show (([f0, f1, f2] : List Int).length : Int) = (((⟨#[84, 65, 117]⟩ : ByteArray)).size : Int) from rfl)]
  show spec_Word.l0 (m + 19 + 1) code [f0, f1, f2] ((0 : Nat) : Int) (⟨#[65, 79, 80, 95, 73, 82, 82]⟩ : ByteArray) (⟨#[84, 65, 117]⟩ : ByteArray) = _
  rw [word_round (m + 19) _ _ 0 _ _ 5 (by simp) (by decide) (by rw [bt_AOP_IRR_0]; exact size_T _ (by omega)) (by decide) (by simp)]
  rw [show rd [f0, f1, f2] ((0 : Nat) : Int) = f0 from rfl, bt_AOP_IRR_0, if_neg (by omega), if_neg (by omega), put_T _ (by omega) f0 h0 g0, Option.bind_some]
  rw [word_round (m + 18) _ _ 1 _ _ 5 (by simp) (by decide) (by rw [bt_AOP_IRR_1]; exact size_A _ (by omega)) (by decide) (by simp)]
  rw [show rd [f0, f1, f2] ((1 : Nat) : Int) = f1 from rfl, bt_AOP_IRR_1, if_neg (by omega), if_neg (by omega), put_A _ (by omega) f1 h1 g1, Option.bind_some]
  rw [word_round (m + 17) _ _ 2 _ _ 16 (by simp) (by decide) (by rw [bt_AOP_IRR_2]; exact size_u _ (by omega)) (by decide) (by simp)]
  rw [show rd [f0, f1, f2] ((2 : Nat) : Int) = f2 from rfl, bt_AOP_IRR_2, if_neg (by omega), if_neg (by omega), put_u _ (by omega) f2 h2 g2, Option.bind_some]
  rw [word_end (m + 16) _ _ 3 _ _ rfl]
set_option maxHeartbeats 4000000 in
theorem leaf_AOP_IRR {code f0 f1 f2 : Int} (h0 : 0 ≤ f0) (g0 : f0 < 32) (h1 : 0 ≤ f1) (g1 : f1 < 32) (h2 : 0 ≤ f2) (g2 : f2 < 65536) : ppc64obj_AOP_IRR.f (code % 4294967296) (f0 % 4294967296) (f1 % 4294967296) (f2 % 4294967296) = some (Go.bits .or .u32 (Go.bits .or .u32 (Go.bits .or .u32 code (f0 * 2097152 % 4294967296)) (f1 * 65536 % 4294967296)) (f2 * 1 % 4294967296)) := by
  have z0 : ∀ p, 5 ≤ p → tb f0 p = false := fun p hp => tb_small f0 5 p h0 g0 hp
  have z1 : ∀ p, 5 ≤ p → tb f1 p = false := fun p hp => tb_small f1 5 p h1 g1 hp
  have z2 : ∀ p, 16 ≤ p → tb f2 p = false := fun p hp => tb_small f2 16 p h2 g2 hp
  have mc : ∀ p, tb (code % 4294967296) p = tb code p := tb_mod code
  have m0 : ∀ p, tb (f0 % 4294967296) p = tb f0 p := tb_mod f0
  have m1 : ∀ p, tb (f1 % 4294967296) p = tb f1 p := tb_mod f1
  have m2 : ∀ p, tb (f2 % 4294967296) p = tb f2 p := tb_mod f2
  show some (Go.bits .or .u32 (Go.bits .or .u32 (Go.bits .or .u32 (code % 4294967296) (((Go.bits .and .u32 (f0 % 4294967296) 31) * 2097152) % 4294967296)) (((Go.bits .and .u32 (f1 % 4294967296) 31) * 65536) % 4294967296)) (Go.bits .and .u32 (f2 % 4294967296) 65535)) = _
  refine congrArg some (tb_ext (or32_in _ _).1 (or32_in _ _).2 (or32_in _ _).1 (or32_in _ _).2 (p32 ?_ ?_ ?_ ?_ ?_ ?_ ?_ ?_ ?_ ?_ ?_ ?_ ?_ ?_ ?_ ?_ ?_ ?_ ?_ ?_ ?_ ?_ ?_ ?_ ?_ ?_ ?_ ?_ ?_ ?_ ?_ ?_))
  all_goals simp only [tb_or, tb_and, tb_s0, tb_s1, tb_s2, tb_s3, tb_s4, tb_s5, tb_s6, tb_s7, tb_s8, tb_s9, tb_s10, tb_s11, tb_s12, tb_s13, tb_s14, tb_s15, tb_s16, tb_s17, tb_s18, tb_s19, tb_s20, tb_s21, tb_s22, tb_s23, tb_s24, tb_s25, tb_s26, tb_s27, tb_s28, tb_s29, tb_s30, tb_s31, tb_d1, tb_d2, tb_d3, tb_d4, tb_d5, tb_d6, tb_d7, tb_d8, tb_d9, tb_d10, tb_d11, tb_d12, tb_d13, tb_d14, tb_d15, tb_d16, tb_d17, tb_d18, tb_d19, tb_d20, tb_d21, tb_d22, tb_d23, tb_d24, tb_d25, tb_d26, tb_d27, tb_d28, tb_d29, tb_d30, tb_d31, tb_m1, tb_m2, tb_m3, tb_m4, tb_m5, tb_m6, tb_m7, tb_m8, tb_m9, tb_m10, tb_m11, tb_m12, tb_m13, tb_m14, tb_m15, tb_m16, tb_m17, tb_m18, tb_m19, tb_m20, tb_m21, tb_m22, tb_m23, tb_m24, tb_m25, tb_m26, tb_m27, tb_m28, tb_m29, tb_m30, tb_m31, tb_c1, tb_c3, tb_c15, tb_c31, tb_c32, tb_c65535, tb_c4095, tb_c262143, tb_c67108860, tb_c65532, tb_c67108864, tb_c100663296, tb_c0, z0, z1, z2, mc, m0, m1, m2]
  all_goals simp [z0, z1, z2]
/-! ### AOP_VIRR: TBU -/
def sz_AOP_VIRR (i : Nat) : Nat := ([5, 5, 5] : List Nat).getD i 0
theorem bt_AOP_VIRR_0 : bt (⟨#[84, 66, 85]⟩ : ByteArray) ((0 : Nat) : Int) = 84 := by decide +kernel
theorem bt_AOP_VIRR_1 : bt (⟨#[84, 66, 85]⟩ : ByteArray) ((1 : Nat) : Int) = 66 := by decide +kernel
theorem bt_AOP_VIRR_2 : bt (⟨#[84, 66, 85]⟩ : ByteArray) ((2 : Nat) : Int) = 85 := by decide +kernel
theorem known_AOP_VIRR : Known (⟨#[84, 66, 85]⟩ : ByteArray) sz_AOP_VIRR where
  size := below_3 (P := fun i => ∀ k, 12 ≤ k → spec_Size.f k (bt (⟨#[84, 66, 85]⟩ : ByteArray) (i : Int)) = some (sz_AOP_VIRR i : Int)) (fun k hk => by rw [bt_AOP_VIRR_0]; exact size_T k (by omega)) (fun k hk => by rw [bt_AOP_VIRR_1]; exact size_B k (by omega)) (fun k hk => by rw [bt_AOP_VIRR_2]; exact size_U k (by omega))
  few := below_3 (P := fun i => sz_AOP_VIRR i ≤ 62) (by decide) (by decide) (by decide)
  put := below_3 (P := fun i => ∀ k, 12 ≤ k → ∀ v : Int, 0 ≤ v → v < 2 ^ sz_AOP_VIRR i → ∃ t, spec_Put.f k v (bt (⟨#[84, 66, 85]⟩ : ByteArray) (i : Int)) = some t) (fun k hk v h0 h1 => by rw [bt_AOP_VIRR_0]; exact ⟨_, put_T k (by omega) v h0 h1⟩) (fun k hk v h0 h1 => by rw [bt_AOP_VIRR_1]; exact ⟨_, put_B k (by omega) v h0 h1⟩) (fun k hk v h0 h1 => by rw [bt_AOP_VIRR_2]; exact ⟨_, put_U k (by omega) v h0 h1⟩)
theorem word_AOP_VIRR (m : Nat) (code : Int) {f0 f1 f2 : Int} (h0 : 0 ≤ f0) (g0 : f0 < 32) (h1 : 0 ≤ f1) (g1 : f1 < 32) (h2 : 0 ≤ f2) (g2 : f2 < 32) : spec_Word.f (m + 20) (⟨#[65, 79, 80, 95, 86, 73, 82, 82]⟩ : ByteArray) (⟨#[84, 66, 85]⟩ : ByteArray) code [f0, f1, f2] = some (Go.bits .or .u32 (Go.bits .or .u32 (Go.bits .or .u32 code (f0 * 2097152 % 4294967296)) (f1 * 2048 % 4294967296)) (f2 * 65536 % 4294967296), true) := by
  unfold spec_Word.f
  rw [if_pos (show (([f0, f1, f2] : List Int).length : Int) = (((⟨#[84, 66, 85]⟩ : ByteArray)).size : Int) from rfl)]
  show spec_Word.l0 (m + 19 + 1) code [f0, f1, f2] ((0 : Nat) : Int) (⟨#[65, 79, 80, 95, 86, 73, 82, 82]⟩ : ByteArray) (⟨#[84, 66, 85]⟩ : ByteArray) = _
  rw [word_round (m + 19) _ _ 0 _ _ 5 (by simp) (by decide) (by rw [bt_AOP_VIRR_0]; exact size_T _ (by omega)) (by decide) (by simp)]
  rw [show rd [f0, f1, f2] ((0 : Nat) : Int) = f0 from rfl, bt_AOP_VIRR_0, if_neg (by omega), if_neg (by omega), put_T _ (by omega) f0 h0 g0, Option.bind_some]
  rw [word_round (m + 18) _ _ 1 _ _ 5 (by simp) (by decide) (by rw [bt_AOP_VIRR_1]; exact size_B _ (by omega)) (by decide) (by simp)]
  rw [show rd [f0, f1, f2] ((1 : Nat) : Int) = f1 from rfl, bt_AOP_VIRR_1, if_neg (by omega), if_neg (by omega), put_B _ (by omega) f1 h1 g1, Option.bind_some]
  rw [word_round (m + 17) _ _ 2 _ _ 5 (by simp) (by decide) (by rw [bt_AOP_VIRR_2]; exact size_U _ (by omega)) (by decide) (by simp)]
  rw [show rd [f0, f1, f2] ((2 : Nat) : Int) = f2 from rfl, bt_AOP_VIRR_2, if_neg (by omega), if_neg (by omega), put_U _ (by omega) f2 h2 g2, Option.bind_some]
  rw [word_end (m + 16) _ _ 3 _ _ rfl]
set_option maxHeartbeats 4000000 in
theorem leaf_AOP_VIRR {code f0 f1 f2 : Int} (h0 : 0 ≤ f0) (g0 : f0 < 32) (h1 : 0 ≤ f1) (g1 : f1 < 32) (h2 : 0 ≤ f2) (g2 : f2 < 32) : ppc64obj_AOP_VIRR.f (code % 4294967296) (f0 % 4294967296) (f1 % 4294967296) (f2 % 4294967296) = some (Go.bits .or .u32 (Go.bits .or .u32 (Go.bits .or .u32 code (f0 * 2097152 % 4294967296)) (f1 * 2048 % 4294967296)) (f2 * 65536 % 4294967296)) := by
  have z0 : ∀ p, 5 ≤ p → tb f0 p = false := fun p hp => tb_small f0 5 p h0 g0 hp
  have z1 : ∀ p, 5 ≤ p → tb f1 p = false := fun p hp => tb_small f1 5 p h1 g1 hp
  have z2 : ∀ p, 5 ≤ p → tb f2 p = false := fun p hp => tb_small f2 5 p h2 g2 hp
  have mc : ∀ p, tb (code % 4294967296) p = tb code p := tb_mod code
  have m0 : ∀ p, tb (f0 % 4294967296) p = tb f0 p := tb_mod f0
  have m1 : ∀ p, tb (f1 % 4294967296) p = tb f1 p := tb_mod f1
  have m2 : ∀ p, tb (f2 % 4294967296) p = tb f2 p := tb_mod f2
  show some (Go.bits .or .u32 (Go.bits .or .u32 (Go.bits .or .u32 (code % 4294967296) (((Go.bits .and .u32 (f0 % 4294967296) 31) * 2097152) % 4294967296)) (((Go.bits .and .u32 (f2 % 4294967296) 65535) * 65536) % 4294967296)) (((Go.bits .and .u32 (f1 % 4294967296) 31) * 2048) % 4294967296)) = _
  refine congrArg some (tb_ext (or32_in _ _).1 (or32_in _ _).2 (or32_in _ _).1 (or32_in _ _).2 (p32 ?_ ?_ ?_ ?_ ?_ ?_ ?_ ?_ ?_ ?_ ?_ ?_ ?_ ?_ ?_ ?_ ?_ ?_ ?_ ?_ ?_ ?_ ?_ ?_ ?_ ?_ ?_ ?_ ?_ ?_ ?_ ?_))
  all_goals simp only [tb_or, tb_and, tb_s0, tb_s1, tb_s2, tb_s3, tb_s4, tb_s5, tb_s6, tb_s7, tb_s8, tb_s9, tb_s10, tb_s11, tb_s12, tb_s13, tb_s14, tb_s15, tb_s16, tb_s17, tb_s18, tb_s19, tb_s20, tb_s21, tb_s22, tb_s23, tb_s24, tb_s25, tb_s26, tb_s27, tb_s28, tb_s29, tb_s30, tb_s31, tb_d1, tb_d2, tb_d3, tb_d4, tb_d5, tb_d6, tb_d7, tb_d8, tb_d9, tb_d10, tb_d11, tb_d12, tb_d13, tb_d14, tb_d15, tb_d16, tb_d17, tb_d18, tb_d19, tb_d20, tb_d21, tb_d22, tb_d23, tb_d24, tb_d25, tb_d26, tb_d27, tb_d28, tb_d29, tb_d30, tb_d31, tb_m1, tb_m2, tb_m3, tb_m4, tb_m5, tb_m6, tb_m7, tb_m8, tb_m9, tb_m10, tb_m11, tb_m12, tb_m13, tb_m14, tb_m15, tb_m16, tb_m17, tb_m18, tb_m19, tb_m20, tb_m21, tb_m22, tb_m23, tb_m24, tb_m25, tb_m26, tb_m27, tb_m28, tb_m29, tb_m30, tb_m31, tb_c1, tb_c3, tb_c15, tb_c31, tb_c32, tb_c65535, tb_c4095, tb_c262143, tb_c67108860, tb_c65532, tb_c67108864, tb_c100663296, tb_c0, z0, z1, z2, mc, m0, m1, m2]
  all_goals simp [z0, z1, z2]
/-! ### AOP_IIRR: TARQ -/
def sz_AOP_IIRR (i : Nat) : Nat := ([5, 5, 1, 4] : List Nat).getD i 0
theorem bt_AOP_IIRR_0 : bt (⟨#[84, 65, 82, 81]⟩ : ByteArray) ((0 : Nat) : Int) = 84 := by decide +kernel
theorem bt_AOP_IIRR_1 : bt (⟨#[84, 65, 82, 81]⟩ : ByteArray) ((1 : Nat) : Int) = 65 := by decide +kernel
theorem bt_AOP_IIRR_2 : bt (⟨#[84, 65, 82, 81]⟩ : ByteArray) ((2 : Nat) : Int) = 82 := by decide +kernel
theorem bt_AOP_IIRR_3 : bt (⟨#[84, 65, 82, 81]⟩ : ByteArray) ((3 : Nat) : Int) = 81 := by decide +kernel
theorem known_AOP_IIRR : Known (⟨#[84, 65, 82, 81]⟩ : ByteArray) sz_AOP_IIRR where
  size := below_4 (P := fun i => ∀ k, 12 ≤ k → spec_Size.f k (bt (⟨#[84, 65, 82, 81]⟩ : ByteArray) (i : Int)) = some (sz_AOP_IIRR i : Int)) (fun k hk => by rw [bt_AOP_IIRR_0]; exact size_T k (by omega)) (fun k hk => by rw [bt_AOP_IIRR_1]; exact size_A k (by omega)) (fun k hk => by rw [bt_AOP_IIRR_2]; exact size_R k (by omega)) (fun k hk => by rw [bt_AOP_IIRR_3]; exact size_Q k (by omega))
  few := below_4 (P := fun i => sz_AOP_IIRR i ≤ 62) (by decide) (by decide) (by decide) (by decide)
  put := below_4 (P := fun i => ∀ k, 12 ≤ k → ∀ v : Int, 0 ≤ v → v < 2 ^ sz_AOP_IIRR i → ∃ t, spec_Put.f k v (bt (⟨#[84, 65, 82, 81]⟩ : ByteArray) (i : Int)) = some t) (fun k hk v h0 h1 => by rw [bt_AOP_IIRR_0]; exact ⟨_, put_T k (by omega) v h0 h1⟩) (fun k hk v h0 h1 => by rw [bt_AOP_IIRR_1]; exact ⟨_, put_A k (by omega) v h0 h1⟩) (fun k hk v h0 h1 => by rw [bt_AOP_IIRR_2]; exact ⟨_, put_R k (by omega) v h0 h1⟩) (fun k hk v h0 h1 => by rw [bt_AOP_IIRR_3]; exact ⟨_, put_Q k (by omega) v h0 h1⟩)
theorem word_AOP_IIRR (m : Nat) (code : Int) {f0 f1 f2 f3 : Int} (h0 : 0 ≤ f0) (g0 : f0 < 32) (h1 : 0 ≤ f1) (g1 : f1 < 32) (h2 : 0 ≤ f2) (g2 : f2 < 2) (h3 : 0 ≤ f3) (g3 : f3 < 16) : spec_Word.f (m + 20) (⟨#[65, 79, 80, 95, 73, 73, 82, 82]⟩ : ByteArray) (⟨#[84, 65, 82, 81]⟩ : ByteArray) code [f0, f1, f2, f3] = some (Go.bits .or .u32 (Go.bits .or .u32 (Go.bits .or .u32 (Go.bits .or .u32 code (f0 * 2097152 % 4294967296)) (f1 * 65536 % 4294967296)) (f2 * 32768 % 4294967296)) (f3 * 2048 % 4294967296), true) := by
  unfold spec_Word.f
  rw [if_pos (show (([f0, f1, f2, f3] : List Int).length : Int) = (((⟨#[84, 65, 82, 81]⟩ : ByteArray)).size : Int) from rfl)]
  show spec_Word.l0 (m + 19 + 1) code [f0, f1, f2, f3] ((0 : Nat) : Int) (⟨#[65, 79, 80, 95, 73, 73, 82, 82]⟩ : ByteArray) (⟨#[84, 65, 82, 81]⟩ : ByteArray) = _
  rw [word_round (m + 19) _ _ 0 _ _ 5 (by simp) (by decide) (by rw [bt_AOP_IIRR_0]; exact size_T _ (by omega)) (by decide) (by simp)]
  rw [show rd [f0, f1, f2, f3] ((0 : Nat) : Int) = f0 from rfl, bt_AOP_IIRR_0, if_neg (by omega), if_neg (by omega), put_T _ (by omega) f0 h0 g0, Option.bind_some]
  rw [word_round (m + 18) _ _ 1 _ _ 5 (by simp) (by decide) (by rw [bt_AOP_IIRR_1]; exact size_A _ (by omega)) (by decide) (by simp)]
  rw [show rd [f0, f1, f2, f3] ((1 : Nat) : Int) = f1 from rfl, bt_AOP_IIRR_1, if_neg (by omega), if_neg (by omega), put_A _ (by omega) f1 h1 g1, Option.bind_some]
  rw [word_round (m + 17) _ _ 2 _ _ 1 (by simp) (by decide) (by rw [bt_AOP_IIRR_2]; exact size_R _ (by omega)) (by decide) (by simp)]
  rw [show rd [f0, f1, f2, f3] ((2 : Nat) : Int) = f2 from rfl, bt_AOP_IIRR_2, if_neg (by omega), if_neg (by omega), put_R _ (by omega) f2 h2 g2, Option.bind_some]
  rw [word_round (m + 16) _ _ 3 _ _ 4 (by simp) (by decide) (by rw [bt_AOP_IIRR_3]; exact size_Q _ (by omega)) (by decide) (by simp)]
  rw [show rd [f0, f1, f2, f3] ((3 : Nat) : Int) = f3 from rfl, bt_AOP_IIRR_3, if_neg (by omega), if_neg (by omega), put_Q _ (by omega) f3 h3 g3, Option.bind_some]
  rw [word_end (m + 15) _ _ 4 _ _ rfl]
set_option maxHeartbeats 4000000 in
theorem leaf_AOP_IIRR {code f0 f1 f2 f3 : Int} (h0 : 0 ≤ f0) (g0 : f0 < 32) (h1 : 0 ≤ f1) (g1 : f1 < 32) (h2 : 0 ≤ f2) (g2 : f2 < 2) (h3 : 0 ≤ f3) (g3 : f3 < 16) : ppc64obj_AOP_IIRR.f (code % 4294967296) (f0 % 4294967296) (f1 % 4294967296) (f2 % 4294967296) (f3 % 4294967296) = some (Go.bits .or .u32 (Go.bits .or .u32 (Go.bits .or .u32 (Go.bits .or .u32 code (f0 * 2097152 % 4294967296)) (f1 * 65536 % 4294967296)) (f2 * 32768 % 4294967296)) (f3 * 2048 % 4294967296)) := by
  have z0 : ∀ p, 5 ≤ p → tb f0 p = false := fun p hp => tb_small f0 5 p h0 g0 hp
  have z1 : ∀ p, 5 ≤ p → tb f1 p = false := fun p hp => tb_small f1 5 p h1 g1 hp
  have z2 : ∀ p, 1 ≤ p → tb f2 p = false := fun p hp => tb_small f2 1 p h2 g2 hp
  have z3 : ∀ p, 4 ≤ p → tb f3 p = false := fun p hp => tb_small f3 4 p h3 g3 hp
  have mc : ∀ p, tb (code % 4294967296) p = tb code p := tb_mod code
  have m0 : ∀ p, tb (f0 % 4294967296) p = tb f0 p := tb_mod f0
  have m1 : ∀ p, tb (f1 % 4294967296) p = tb f1 p := tb_mod f1
  have m2 : ∀ p, tb (f2 % 4294967296) p = tb f2 p := tb_mod f2
  have m3 : ∀ p, tb (f3 % 4294967296) p = tb f3 p := tb_mod f3
  show some (Go.bits .or .u32 (Go.bits .or .u32 (Go.bits .or .u32 (Go.bits .or .u32 (code % 4294967296) (((Go.bits .and .u32 (f0 % 4294967296) 31) * 2097152) % 4294967296)) (((Go.bits .and .u32 (f1 % 4294967296) 31) * 65536) % 4294967296)) (((Go.bits .and .u32 (f2 % 4294967296) 1) * 32768) % 4294967296)) (((Go.bits .and .u32 (f3 % 4294967296) 15) * 2048) % 4294967296)) = _
  refine congrArg some (tb_ext (or32_in _ _).1 (or32_in _ _).2 (or32_in _ _).1 (or32_in _ _).2 (p32 ?_ ?_ ?_ ?_ ?_ ?_ ?_ ?_ ?_ ?_ ?_ ?_ ?_ ?_ ?_ ?_ ?_ ?_ ?_ ?_ ?_ ?_ ?_ ?_ ?_ ?_ ?_ ?_ ?_ ?_ ?_ ?_))
  all_goals simp only [tb_or, tb_and, tb_s0, tb_s1, tb_s2, tb_s3, tb_s4, tb_s5, tb_s6, tb_s7, tb_s8, tb_s9, tb_s10, tb_s11, tb_s12, tb_s13, tb_s14, tb_s15, tb_s16, tb_s17, tb_s18, tb_s19, tb_s20, tb_s21, tb_s22, tb_s23, tb_s24, tb_s25, tb_s26, tb_s27, tb_s28, tb_s29, tb_s30, tb_s31, tb_d1, tb_d2, tb_d3, tb_d4, tb_d5, tb_d6, tb_d7, tb_d8, tb_d9, tb_d10, tb_d11, tb_d12, tb_d13, tb_d14, tb_d15, tb_d16, tb_d17, tb_d18, tb_d19, tb_d20, tb_d21, tb_d22, tb_d23, tb_d24, tb_d25, tb_d26, tb_d27, tb_d28, tb_d29, tb_d30, tb_d31, tb_m1, tb_m2, tb_m3, tb_m4, tb_m5, tb_m6, tb_m7, tb_m8, tb_m9, tb_m10, tb_m11, tb_m12, tb_m13, tb_m14, tb_m15, tb_m16, tb_m17, tb_m18, tb_m19, tb_m20, tb_m21, tb_m22, tb_m23, tb_m24, tb_m25, tb_m26, tb_m27, tb_m28, tb_m29, tb_m30, tb_m31, tb_c1, tb_c3, tb_c15, tb_c31, tb_c32, tb_c65535, tb_c4095, tb_c262143, tb_c67108860, tb_c65532, tb_c67108864, tb_c100663296, tb_c0, z0, z1, z2, z3, mc, m0, m1, m2, m3]
  all_goals simp [z0, z1, z2, z3]
/-! ### AOP_IRRR: TABZ -/
def sz_AOP_IRRR (i : Nat) : Nat := ([5, 5, 5, 4] : List Nat).getD i 0
theorem bt_AOP_IRRR_0 : bt (⟨#[84, 65, 66, 90]⟩ : ByteArray) ((0 : Nat) : Int) = 84 := by decide +kernel
theorem bt_AOP_IRRR_1 : bt (⟨#[84, 65, 66, 90]⟩ : ByteArray) ((1 : Nat) : Int) = 65 := by decide +kernel
theorem bt_AOP_IRRR_2 : bt (⟨#[84, 65, 66, 90]⟩ : ByteArray) ((2 : Nat) : Int) = 66 := by decide +kernel
theorem bt_AOP_IRRR_3 : bt (⟨#[84, 65, 66, 90]⟩ : ByteArray) ((3 : Nat) : Int) = 90 := by decide +kernel
theorem known_AOP_IRRR : Known (⟨#[84, 65, 66, 90]⟩ : ByteArray) sz_AOP_IRRR where
  size := below_4 (P := fun i => ∀ k, 12 ≤ k → spec_Size.f k (bt (⟨#[84, 65, 66, 90]⟩ : ByteArray) (i : Int)) = some (sz_AOP_IRRR i : Int)) (fun k hk => by rw [bt_AOP_IRRR_0]; exact size_T k (by omega)) (fun k hk => by rw [bt_AOP_IRRR_1]; exact size_A k (by omega)) (fun k hk => by rw [bt_AOP_IRRR_2]; exact size_B k (by omega)) (fun k hk => by rw [bt_AOP_IRRR_3]; exact size_Z k (by omega))
  few := below_4 (P := fun i => sz_AOP_IRRR i ≤ 62) (by decide) (by decide) (by decide) (by decide)
  put := below_4 (P := fun i => ∀ k, 12 ≤ k → ∀ v : Int, 0 ≤ v → v < 2 ^ sz_AOP_IRRR i → ∃ t, spec_Put.f k v (bt (⟨#[84, 65, 66, 90]⟩ : ByteArray) (i : Int)) = some t) (fun k hk v h0 h1 => by rw [bt_AOP_IRRR_0]; exact ⟨_, put_T k (by omega) v h0 h1⟩) (fun k hk v h0 h1 => by rw [bt_AOP_IRRR_1]; exact ⟨_, put_A k (by omega) v h0 h1⟩) (fun k hk v h0 h1 => by rw [bt_AOP_IRRR_2]; exact ⟨_, put_B k (by omega) v h0 h1⟩) (fun k hk v h0 h1 => by rw [bt_AOP_IRRR_3]; exact ⟨_, put_Z k (by omega) v h0 h1⟩)
theorem word_AOP_IRRR (m : Nat) (code : Int) {f0 f1 f2 f3 : Int} (h0 : 0 ≤ f0) (g0 : f0 < 32) (h1 : 0 ≤ f1) (g1 : f1 < 32) (h2 : 0 ≤ f2) (g2 : f2 < 32) (h3 : 0 ≤ f3) (g3 : f3 < 16) : spec_Word.f (m + 20) (⟨#[65, 79, 80, 95, 73, 82, 82, 82]⟩ : ByteArray) (⟨#[84, 65, 66, 90]⟩ : ByteArray) code [f0, f1, f2, f3] = some (Go.bits .or .u32 (Go.bits .or .u32 (Go.bits .or .u32 (Go.bits .or .u32 code (f0 * 2097152 % 4294967296)) (f1 * 65536 % 4294967296)) (f2 * 2048 % 4294967296)) (f3 * 64 % 4294967296), true) := by
  unfold spec_Word.f
  rw [if_pos (show (([f0, f1, f2, f3] : List Int).length : Int) = (((⟨#[84, 65, 66, 90]⟩ : ByteArray)).size : Int) from rfl)]
  show spec_Word.l0 (m + 19 + 1) code [f0, f1, f2, f3] ((0 : Nat) : Int) (⟨#[65, 79, 80, 95, 73, 82, 82, 82]⟩ : ByteArray) (⟨#[84, 65, 66, 90]⟩ : ByteArray) = _
  rw [word_round (m + 19) _ _ 0 _ _ 5 (by simp) (by decide) (by rw [bt_AOP_IRRR_0]; exact size_T _ (by omega)) (by decide) (by simp)]
  rw [show rd [f0, f1, f2, f3] ((0 : Nat) : Int) = f0 from rfl, bt_AOP_IRRR_0, if_neg (by omega), if_neg (by omega), put_T _ (by omega) f0 h0 g0, Option.bind_some]
  rw [word_round (m + 18) _ _ 1 _ _ 5 (by simp) (by decide) (by rw [bt_AOP_IRRR_1]; exact size_A _ (by omega)) (by decide) (by simp)]
  rw [show rd [f0, f1, f2, f3] ((1 : Nat) : Int) = f1 from rfl, bt_AOP_IRRR_1, if_neg (by omega), if_neg (by omega), put_A _ (by omega) f1 h1 g1, Option.bind_some]
  rw [word_round (m + 17) _ _ 2 _ _ 5 (by simp) (by decide) (by rw [bt_AOP_IRRR_2]; exact size_B _ (by omega)) (by decide) (by simp)]
  rw [show rd [f0, f1, f2, f3] ((2 : Nat) : Int) = f2 from rfl, bt_AOP_IRRR_2, if_neg (by omega), if_neg (by omega), put_B _ (by omega) f2 h2 g2, Option.bind_some]
  rw [word_round (m + 16) _ _ 3 _ _ 4 (by simp) (by decide) (by rw [bt_AOP_IRRR_3]; exact size_Z _ (by omega)) (by decide) (by simp)]
  rw [show rd [f0, f1, f2, f3] ((3 : Nat) : Int) = f3 from rfl, bt_AOP_IRRR_3, if_neg (by omega), if_neg (by omega), put_Z _ (by omega) f3 h3 g3, Option.bind_some]
  rw [word_end (m + 15) _ _ 4 _ _ rfl]
set_option maxHeartbeats 4000000 in
theorem leaf_AOP_IRRR {code f0 f1 f2 f3 : Int} (h0 : 0 ≤ f0) (g0 : f0 < 32) (h1 : 0 ≤ f1) (g1 : f1 < 32) (h2 : 0 ≤ f2) (g2 : f2 < 32) (h3 : 0 ≤ f3) (g3 : f3 < 16) : ppc64obj_AOP_IRRR.f (code % 4294967296) (f0 % 4294967296) (f1 % 4294967296) (f2 % 4294967296) (f3 % 4294967296) = some (Go.bits .or .u32 (Go.bits .or .u32 (Go.bits .or .u32 (Go.bits .or .u32 code (f0 * 2097152 % 4294967296)) (f1 * 65536 % 4294967296)) (f2 * 2048 % 4294967296)) (f3 * 64 % 4294967296)) := by
  have z0 : ∀ p, 5 ≤ p → tb f0 p = false := fun p hp => tb_small f0 5 p h0 g0 hp
  have z1 : ∀ p, 5 ≤ p → tb f1 p = false := fun p hp => tb_small f1 5 p h1 g1 hp
  have z2 : ∀ p, 5 ≤ p → tb f2 p = false := fun p hp => tb_small f2 5 p h2 g2 hp
  have z3 : ∀ p, 4 ≤ p → tb f3 p = false := fun p hp => tb_small f3 4 p h3 g3 hp
  have mc : ∀ p, tb (code % 4294967296) p = tb code p := tb_mod code
  have m0 : ∀ p, tb (f0 % 4294967296) p = tb f0 p := tb_mod f0
  have m1 : ∀ p, tb (f1 % 4294967296) p = tb f1 p := tb_mod f1
  have m2 : ∀ p, tb (f2 % 4294967296) p = tb f2 p := tb_mod f2
  have m3 : ∀ p, tb (f3 % 4294967296) p = tb f3 p := tb_mod f3
  show some (Go.bits .or .u32 (Go.bits .or .u32 (Go.bits .or .u32 (Go.bits .or .u32 (code % 4294967296) (((Go.bits .and .u32 (f0 % 4294967296) 31) * 2097152) % 4294967296)) (((Go.bits .and .u32 (f1 % 4294967296) 31) * 65536) % 4294967296)) (((Go.bits .and .u32 (f2 % 4294967296) 31) * 2048) % 4294967296)) (((Go.bits .and .u32 (f3 % 4294967296) 15) * 64) % 4294967296)) = _
  refine congrArg some (tb_ext (or32_in _ _).1 (or32_in _ _).2 (or32_in _ _).1 (or32_in _ _).2 (p32 ?_ ?_ ?_ ?_ ?_ ?_ ?_ ?_ ?_ ?_ ?_ ?_ ?_ ?_ ?_ ?_ ?_ ?_ ?_ ?_ ?_ ?_ ?_ ?_ ?_ ?_ ?_ ?_ ?_ ?_ ?_ ?_))
  all_goals simp only [tb_or, tb_and, tb_s0, tb_s1, tb_s2, tb_s3, tb_s4, tb_s5, tb_s6, tb_s7, tb_s8, tb_s9, tb_s10, tb_s11, tb_s12, tb_s13, tb_s14, tb_s15, tb_s16, tb_s17, tb_s18, tb_s19, tb_s20, tb_s21, tb_s22, tb_s23, tb_s24, tb_s25, tb_s26, tb_s27, tb_s28, tb_s29, tb_s30, tb_s31, tb_d1, tb_d2, tb_d3, tb_d4, tb_d5, tb_d6, tb_d7, tb_d8, tb_d9, tb_d10, tb_d11, tb_d12, tb_d13, tb_d14, tb_d15, tb_d16, tb_d17, tb_d18, tb_d19, tb_d20, tb_d21, tb_d22, tb_d23, tb_d24, tb_d25, tb_d26, tb_d27, tb_d28, tb_d29, tb_d30, tb_d31, tb_m1, tb_m2, tb_m3, tb_m4, tb_m5, tb_m6, tb_m7, tb_m8, tb_m9, tb_m10, tb_m11, tb_m12, tb_m13, tb_m14, tb_m15, tb_m16, tb_m17, tb_m18, tb_m19, tb_m20, tb_m21, tb_m22, tb_m23, tb_m24, tb_m25, tb_m26, tb_m27, tb_m28, tb_m29, tb_m30, tb_m31, tb_c1, tb_c3, tb_c15, tb_c31, tb_c32, tb_c65535, tb_c4095, tb_c262143, tb_c67108860, tb_c65532, tb_c67108864, tb_c100663296, tb_c0, z0, z1, z2, z3, mc, m0, m1, m2, m3]
  all_goals simp [z0, z1, z2, z3]
/-! ### AOP_IR: TU -/
def sz_AOP_IR (i : Nat) : Nat := ([5, 5] : List Nat).getD i 0
theorem bt_AOP_IR_0 : bt (⟨#[84, 85]⟩ : ByteArray) ((0 : Nat) : Int) = 84 := by decide +kernel
theorem bt_AOP_IR_1 : bt (⟨#[84, 85]⟩ : ByteArray) ((1 : Nat) : Int) = 85 := by decide +kernel
theorem known_AOP_IR : Known (⟨#[84, 85]⟩ : ByteArray) sz_AOP_IR where
  size := below_2 (P := fun i => ∀ k, 12 ≤ k → spec_Size.f k (bt (⟨#[84, 85]⟩ : ByteArray) (i : Int)) = some (sz_AOP_IR i : Int)) (fun k hk => by rw [bt_AOP_IR_0]; exact size_T k (by omega)) (fun k hk => by rw [bt_AOP_IR_1]; exact size_U k (by omega))
  few := below_2 (P := fun i => sz_AOP_IR i ≤ 62) (by decide) (by decide)
  put := below_2 (P := fun i => ∀ k, 12 ≤ k → ∀ v : Int, 0 ≤ v → v < 2 ^ sz_AOP_IR i → ∃ t, spec_Put.f k v (bt (⟨#[84, 85]⟩ : ByteArray) (i : Int)) = some t) (fun k hk v h0 h1 => by rw [bt_AOP_IR_0]; exact ⟨_, put_T k (by omega) v h0 h1⟩) (fun k hk v h0 h1 => by rw [bt_AOP_IR_1]; exact ⟨_, put_U k (by omega) v h0 h1⟩)
theorem word_AOP_IR (m : Nat) (code : Int) {f0 f1 : Int} (h0 : 0 ≤ f0) (g0 : f0 < 32) (h1 : 0 ≤ f1) (g1 : f1 < 32) : spec_Word.f (m + 20) (⟨#[65, 79, 80, 95, 73, 82]⟩ : ByteArray) (⟨#[84, 85]⟩ : ByteArray) code [f0, f1] = some (Go.bits .or .u32 (Go.bits .or .u32 code (f0 * 2097152 % 4294967296)) (f1 * 65536 % 4294967296), true) := by
  unfold spec_Word.f
  rw [if_pos (show (([f0, f1] : List Int).length : Int) = (((⟨#[84, 85]⟩ : ByteArray)).size : Int) from rfl)]
  show spec_Word.l0 (m + 19 + 1) code [f0, f1] ((0 : Nat) : Int) (⟨#[65, 79, 80, 95, 73, 82]⟩ : ByteArray) (⟨#[84, 85]⟩ : ByteArray) = _
  rw [word_round (m + 19) _ _ 0 _ _ 5 (by simp) (by decide) (by rw [bt_AOP_IR_0]; exact size_T _ (by omega)) (by decide) (by simp)]
  rw [show rd [f0, f1] ((0 : Nat) : Int) = f0 from rfl, bt_AOP_IR_0, if_neg (by omega), if_neg (by omega), put_T _ (by omega) f0 h0 g0, Option.bind_some]
  rw [word_round (m + 18) _ _ 1 _ _ 5 (by simp) (by decide) (by rw [bt_AOP_IR_1]; exact size_U _ (by omega)) (by decide) (by simp)]
  rw [show rd [f0, f1] ((1 : Nat) : Int) = f1 from rfl, bt_AOP_IR_1, if_neg (by omega), if_neg (by omega), put_U _ (by omega) f1 h1 g1, Option.bind_some]
  rw [word_end (m + 17) _ _ 2 _ _ rfl]
set_option maxHeartbeats 4000000 in
theorem leaf_AOP_IR {code f0 f1 : Int} (h0 : 0 ≤ f0) (g0 : f0 < 32) (h1 : 0 ≤ f1) (g1 : f1 < 32) : ppc64obj_AOP_IR.f (code % 4294967296) (f0 % 4294967296) (f1 % 4294967296) = some (Go.bits .or .u32 (Go.bits .or .u32 code (f0 * 2097152 % 4294967296)) (f1 * 65536 % 4294967296)) := by
  have z0 : ∀ p, 5 ≤ p → tb f0 p = false := fun p hp => tb_small f0 5 p h0 g0 hp
  have z1 : ∀ p, 5 ≤ p → tb f1 p = false := fun p hp => tb_small f1 5 p h1 g1 hp
  have mc : ∀ p, tb (code % 4294967296) p = tb code p := tb_mod code
  have m0 : ∀ p, tb (f0 % 4294967296) p = tb f0 p := tb_mod f0
  have m1 : ∀ p, tb (f1 % 4294967296) p = tb f1 p := tb_mod f1
  show some (Go.bits .or .u32 (Go.bits .or .u32 (code % 4294967296) (((Go.bits .and .u32 (f0 % 4294967296) 31) * 2097152) % 4294967296)) (((Go.bits .and .u32 (f1 % 4294967296) 31) * 65536) % 4294967296)) = _
  refine congrArg some (tb_ext (or32_in _ _).1 (or32_in _ _).2 (or32_in _ _).1 (or32_in _ _).2 (p32 ?_ ?_ ?_ ?_ ?_ ?_ ?_ ?_ ?_ ?_ ?_ ?_ ?_ ?_ ?_ ?_ ?_ ?_ ?_ ?_ ?_ ?_ ?_ ?_ ?_ ?_ ?_ ?_ ?_ ?_ ?_ ?_))
  all_goals simp only [tb_or, tb_and, tb_s0, tb_s1, tb_s2, tb_s3, tb_s4, tb_s5, tb_s6, tb_s7, tb_s8, tb_s9, tb_s10, tb_s11, tb_s12, tb_s13, tb_s14, tb_s15, tb_s16, tb_s17, tb_s18, tb_s19, tb_s20, tb_s21, tb_s22, tb_s23, tb_s24, tb_s25, tb_s26, tb_s27, tb_s28, tb_s29, tb_s30, tb_s31, tb_d1, tb_d2, tb_d3, tb_d4, tb_d5, tb_d6, tb_d7, tb_d8, tb_d9, tb_d10, tb_d11, tb_d12, tb_d13, tb_d14, tb_d15, tb_d16, tb_d17, tb_d18, tb_d19, tb_d20, tb_d21, tb_d22, tb_d23, tb_d24, tb_d25, tb_d26, tb_d27, tb_d28, tb_d29, tb_d30, tb_d31, tb_m1, tb_m2, tb_m3, tb_m4, tb_m5, tb_m6, tb_m7, tb_m8, tb_m9, tb_m10, tb_m11, tb_m12, tb_m13, tb_m14, tb_m15, tb_m16, tb_m17, tb_m18, tb_m19, tb_m20, tb_m21, tb_m22, tb_m23, tb_m24, tb_m25, tb_m26, tb_m27, tb_m28, tb_m29, tb_m30, tb_m31, tb_c1, tb_c3, tb_c15, tb_c31, tb_c32, tb_c65535, tb_c4095, tb_c262143, tb_c67108860, tb_c65532, tb_c67108864, tb_c100663296, tb_c0, z0, z1, mc, m0, m1]
  all_goals simp [z0, z1]

end Go.Proofs.Ytnfkdmoblncclaa.X
