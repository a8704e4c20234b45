/- Each encoder of fields of this part: its letters and its word. -/
import Derived.Test.YtnfkdmoblncclaaXBelow
import Derived.Test.YtnfkdmoblncclaaXPureWord
namespace Go.Proofs.Ytnfkdmoblncclaa.X
open Go.RowKit Go.Proofs.YtnfkdmoblncclaaW.PrintWords Go.Proofs.YtnfkdmoblncclaaW.PrintLast Go.Proofs.YtnfkdmoblncclaaW.PrintMore
attribute [local go_sem] max2_int min2_int max_two min_two max_three min_three max_four min_four   -- for this text's walks alone
set_option linter.unusedVariables false
set_option linter.unusedSimpArgs false

/-! ### AOP_XX1: iAB -/
def sz_AOP_XX1 (i : Nat) : Nat := ([6, 5, 5] : List Nat).getD i 0
theorem bt_AOP_XX1_0 : bt (⟨#[105, 65, 66]⟩ : ByteArray) ((0 : Nat) : Int) = 105 := by decide +kernel
theorem bt_AOP_XX1_1 : bt (⟨#[105, 65, 66]⟩ : ByteArray) ((1 : Nat) : Int) = 65 := by decide +kernel
theorem bt_AOP_XX1_2 : bt (⟨#[105, 65, 66]⟩ : ByteArray) ((2 : Nat) : Int) = 66 := by decide +kernel
theorem known_AOP_XX1 : Known (⟨#[105, 65, 66]⟩ : ByteArray) sz_AOP_XX1 where
  size := below_3 (P := fun i => ∀ k, 12 ≤ k → spec_Size.f k (bt (⟨#[105, 65, 66]⟩ : ByteArray) (i : Int)) = some (sz_AOP_XX1 i : Int)) (fun k hk => by rw [bt_AOP_XX1_0]; exact size_i k (by omega)) (fun k hk => by rw [bt_AOP_XX1_1]; exact size_A k (by omega)) (fun k hk => by rw [bt_AOP_XX1_2]; exact size_B k (by omega))
  few := below_3 (P := fun i => sz_AOP_XX1 i ≤ 62) (by decide) (by decide) (by decide)
  put := below_3 (P := fun i => ∀ k, 12 ≤ k → ∀ v : Int, 0 ≤ v → v < 2 ^ sz_AOP_XX1 i → ∃ t, spec_Put.f k v (bt (⟨#[105, 65, 66]⟩ : ByteArray) (i : Int)) = some t) (fun k hk v h0 h1 => by rw [bt_AOP_XX1_0]; exact ⟨_, put_i k (by omega) v h0 h1⟩) (fun k hk v h0 h1 => by rw [bt_AOP_XX1_1]; exact ⟨_, put_A k (by omega) v h0 h1⟩) (fun k hk v h0 h1 => by rw [bt_AOP_XX1_2]; exact ⟨_, put_B k (by omega) v h0 h1⟩)
theorem word_AOP_XX1 (m : Nat) (code : Int) {f0 f1 f2 : Int} (h0 : 0 ≤ f0) (g0 : f0 < 64) (h1 : 0 ≤ f1) (g1 : f1 < 32) (h2 : 0 ≤ f2) (g2 : f2 < 32) : spec_Word.f (m + 20) (⟨#[65, 79, 80, 95, 88, 88, 49]⟩ : ByteArray) (⟨#[105, 65, 66]⟩ : ByteArray) code [f0, f1, f2] = some (Go.bits .or .u32 (Go.bits .or .u32 (Go.bits .or .u32 code (Go.bits .or .u32 (f0 % 32 * 2097152 % 4294967296) (f0 / 32 * 1 % 4294967296))) (f1 * 65536 % 4294967296)) (f2 * 2048 % 4294967296), true) := by
  unfold spec_Word.f
  rw [if_pos (show (([f0, f1, f2] : List Int).length : Int) = (((⟨#[105, 65, 66]⟩ : ByteArray)).size : Int) from rfl)]
  show spec_Word.l0 (m + 19 + 1) code [f0, f1, f2] ((0 : Nat) : Int) (⟨#[65, 79, 80, 95, 88, 88, 49]⟩ : ByteArray) (⟨#[105, 65, 66]⟩ : ByteArray) = _
  rw [word_round (m + 19) _ _ 0 _ _ 6 (by simp) (by decide) (by rw [bt_AOP_XX1_0]; exact size_i _ (by omega)) (by decide) (by simp)]
  rw [show rd [f0, f1, f2] ((0 : Nat) : Int) = f0 from rfl, bt_AOP_XX1_0, if_neg (by omega), if_neg (by omega), put_i _ (by omega) f0 h0 g0, Option.bind_some]
  rw [word_round (m + 18) _ _ 1 _ _ 5 (by simp) (by decide) (by rw [bt_AOP_XX1_1]; exact size_A _ (by omega)) (by decide) (by simp)]
  rw [show rd [f0, f1, f2] ((1 : Nat) : Int) = f1 from rfl, bt_AOP_XX1_1, if_neg (by omega), if_neg (by omega), put_A _ (by omega) f1 h1 g1, Option.bind_some]
  rw [word_round (m + 17) _ _ 2 _ _ 5 (by simp) (by decide) (by rw [bt_AOP_XX1_2]; exact size_B _ (by omega)) (by decide) (by simp)]
  rw [show rd [f0, f1, f2] ((2 : Nat) : Int) = f2 from rfl, bt_AOP_XX1_2, if_neg (by omega), if_neg (by omega), put_B _ (by omega) f2 h2 g2, Option.bind_some]
  rw [word_end (m + 16) _ _ 3 _ _ rfl]
set_option maxHeartbeats 4000000 in
theorem leaf_AOP_XX1 {code f0 f1 f2 : Int} (h0 : 0 ≤ f0) (g0 : f0 < 64) (h1 : 0 ≤ f1) (g1 : f1 < 32) (h2 : 0 ≤ f2) (g2 : f2 < 32) : ppc64obj_AOP_XX1.f (code % 4294967296) (f0 % 4294967296) (f1 % 4294967296) (f2 % 4294967296) = some (Go.bits .or .u32 (Go.bits .or .u32 (Go.bits .or .u32 code (Go.bits .or .u32 (f0 % 32 * 2097152 % 4294967296) (f0 / 32 * 1 % 4294967296))) (f1 * 65536 % 4294967296)) (f2 * 2048 % 4294967296)) := by
  have z0 : ∀ p, 6 ≤ p → tb f0 p = false := fun p hp => tb_small f0 6 p h0 g0 hp
  have l0 : ∀ p, tb (f0 % 32) p = (tb f0 p && decide (p < 5)) := fun p => tb_lo5 f0 p h0
  have u0 : ∀ p, tb (f0 / 32) p = tb f0 (5 + p) := fun p => tb_hi5 f0 p h0 (by omega)
  have z1 : ∀ p, 5 ≤ p → tb f1 p = false := fun p hp => tb_small f1 5 p h1 g1 hp
  have z2 : ∀ p, 5 ≤ p → tb f2 p = false := fun p hp => tb_small f2 5 p h2 g2 hp
  have mc : ∀ p, tb (code % 4294967296) p = tb code p := tb_mod code
  have m0 : ∀ p, tb (f0 % 4294967296) p = tb f0 p := tb_mod f0
  have m1 : ∀ p, tb (f1 % 4294967296) p = tb f1 p := tb_mod f1
  have m2 : ∀ p, tb (f2 % 4294967296) p = tb f2 p := tb_mod f2
  show some (Go.bits .or .u32 (Go.bits .or .u32 (Go.bits .or .u32 (Go.bits .or .u32 (code % 4294967296) (((Go.bits .and .u32 (f0 % 4294967296) 31) * 2097152) % 4294967296)) (((Go.bits .and .u32 (f1 % 4294967296) 31) * 65536) % 4294967296)) (((Go.bits .and .u32 (f2 % 4294967296) 31) * 2048) % 4294967296)) ((Go.bits .and .u32 (f0 % 4294967296) 32) / 32)) = _
  refine congrArg some (tb_ext (or32_in _ _).1 (or32_in _ _).2 (or32_in _ _).1 (or32_in _ _).2 (p32 ?_ ?_ ?_ ?_ ?_ ?_ ?_ ?_ ?_ ?_ ?_ ?_ ?_ ?_ ?_ ?_ ?_ ?_ ?_ ?_ ?_ ?_ ?_ ?_ ?_ ?_ ?_ ?_ ?_ ?_ ?_ ?_))
  all_goals simp only [tb_or, tb_and, tb_s0, tb_s1, tb_s2, tb_s3, tb_s4, tb_s5, tb_s6, tb_s7, tb_s8, tb_s9, tb_s10, tb_s11, tb_s12, tb_s13, tb_s14, tb_s15, tb_s16, tb_s17, tb_s18, tb_s19, tb_s20, tb_s21, tb_s22, tb_s23, tb_s24, tb_s25, tb_s26, tb_s27, tb_s28, tb_s29, tb_s30, tb_s31, tb_d1, tb_d2, tb_d3, tb_d4, tb_d5, tb_d6, tb_d7, tb_d8, tb_d9, tb_d10, tb_d11, tb_d12, tb_d13, tb_d14, tb_d15, tb_d16, tb_d17, tb_d18, tb_d19, tb_d20, tb_d21, tb_d22, tb_d23, tb_d24, tb_d25, tb_d26, tb_d27, tb_d28, tb_d29, tb_d30, tb_d31, tb_m1, tb_m2, tb_m3, tb_m4, tb_m5, tb_m6, tb_m7, tb_m8, tb_m9, tb_m10, tb_m11, tb_m12, tb_m13, tb_m14, tb_m15, tb_m16, tb_m17, tb_m18, tb_m19, tb_m20, tb_m21, tb_m22, tb_m23, tb_m24, tb_m25, tb_m26, tb_m27, tb_m28, tb_m29, tb_m30, tb_m31, tb_c1, tb_c3, tb_c15, tb_c31, tb_c32, tb_c65535, tb_c4095, tb_c262143, tb_c67108860, tb_c65532, tb_c67108864, tb_c100663296, tb_c0, z0, z1, z2, l0, u0, mc, m0, m1, m2]
  all_goals simp [z0, z1, z2, l0, u0]
/-! ### AOP_XX2: iNk -/
def sz_AOP_XX2 (i : Nat) : Nat := ([6, 2, 6] : List Nat).getD i 0
theorem bt_AOP_XX2_0 : bt (⟨#[105, 78, 107]⟩ : ByteArray) ((0 : Nat) : Int) = 105 := by decide +kernel
theorem bt_AOP_XX2_1 : bt (⟨#[105, 78, 107]⟩ : ByteArray) ((1 : Nat) : Int) = 78 := by decide +kernel
theorem bt_AOP_XX2_2 : bt (⟨#[105, 78, 107]⟩ : ByteArray) ((2 : Nat) : Int) = 107 := by decide +kernel
theorem known_AOP_XX2 : Known (⟨#[105, 78, 107]⟩ : ByteArray) sz_AOP_XX2 where
  size := below_3 (P := fun i => ∀ k, 12 ≤ k → spec_Size.f k (bt (⟨#[105, 78, 107]⟩ : ByteArray) (i : Int)) = some (sz_AOP_XX2 i : Int)) (fun k hk => by rw [bt_AOP_XX2_0]; exact size_i k (by omega)) (fun k hk => by rw [bt_AOP_XX2_1]; exact size_N k (by omega)) (fun k hk => by rw [bt_AOP_XX2_2]; exact size_k k (by omega))
  few := below_3 (P := fun i => sz_AOP_XX2 i ≤ 62) (by decide) (by decide) (by decide)
  put := below_3 (P := fun i => ∀ k, 12 ≤ k → ∀ v : Int, 0 ≤ v → v < 2 ^ sz_AOP_XX2 i → ∃ t, spec_Put.f k v (bt (⟨#[105, 78, 107]⟩ : ByteArray) (i : Int)) = some t) (fun k hk v h0 h1 => by rw [bt_AOP_XX2_0]; exact ⟨_, put_i k (by omega) v h0 h1⟩) (fun k hk v h0 h1 => by rw [bt_AOP_XX2_1]; exact ⟨_, put_N k (by omega) v h0 h1⟩) (fun k hk v h0 h1 => by rw [bt_AOP_XX2_2]; exact ⟨_, put_k k (by omega) v h0 h1⟩)
theorem word_AOP_XX2 (m : Nat) (code : Int) {f0 f1 f2 : Int} (h0 : 0 ≤ f0) (g0 : f0 < 64) (h1 : 0 ≤ f1) (g1 : f1 < 4) (h2 : 0 ≤ f2) (g2 : f2 < 64) : spec_Word.f (m + 20) (⟨#[65, 79, 80, 95, 88, 88, 50]⟩ : ByteArray) (⟨#[105, 78, 107]⟩ : ByteArray) code [f0, f1, f2] = some (Go.bits .or .u32 (Go.bits .or .u32 (Go.bits .or .u32 code (Go.bits .or .u32 (f0 % 32 * 2097152 % 4294967296) (f0 / 32 * 1 % 4294967296))) (f1 * 65536 % 4294967296)) (Go.bits .or .u32 (f2 % 32 * 2048 % 4294967296) (f2 / 32 * 2 % 4294967296)), true) := by
  unfold spec_Word.f
  rw [if_pos (show (([f0, f1, f2] : List Int).length : Int) = (((⟨#[105, 78, 107]⟩ : ByteArray)).size : Int) from rfl)]
  show spec_Word.l0 (m + 19 + 1) code [f0, f1, f2] ((0 : Nat) : Int) (⟨#[65, 79, 80, 95, 88, 88, 50]⟩ : ByteArray) (⟨#[105, 78, 107]⟩ : ByteArray) = _
  rw [word_round (m + 19) _ _ 0 _ _ 6 (by simp) (by decide) (by rw [bt_AOP_XX2_0]; exact size_i _ (by omega)) (by decide) (by simp)]
  rw [show rd [f0, f1, f2] ((0 : Nat) : Int) = f0 from rfl, bt_AOP_XX2_0, if_neg (by omega), if_neg (by omega), put_i _ (by omega) f0 h0 g0, Option.bind_some]
  rw [word_round (m + 18) _ _ 1 _ _ 2 (by simp) (by decide) (by rw [bt_AOP_XX2_1]; exact size_N _ (by omega)) (by decide) (by simp)]
  rw [show rd [f0, f1, f2] ((1 : Nat) : Int) = f1 from rfl, bt_AOP_XX2_1, if_neg (by omega), if_neg (by omega), put_N _ (by omega) f1 h1 g1, Option.bind_some]
  rw [word_round (m + 17) _ _ 2 _ _ 6 (by simp) (by decide) (by rw [bt_AOP_XX2_2]; exact size_k _ (by omega)) (by decide) (by simp)]
  rw [show rd [f0, f1, f2] ((2 : Nat) : Int) = f2 from rfl, bt_AOP_XX2_2, if_neg (by omega), if_neg (by omega), put_k _ (by omega) f2 h2 g2, Option.bind_some]
  rw [word_end (m + 16) _ _ 3 _ _ rfl]
set_option maxHeartbeats 4000000 in
theorem leaf_AOP_XX2 {code f0 f1 f2 : Int} (h0 : 0 ≤ f0) (g0 : f0 < 64) (h1 : 0 ≤ f1) (g1 : f1 < 4) (h2 : 0 ≤ f2) (g2 : f2 < 64) : ppc64obj_AOP_XX2.f (code % 4294967296) (f0 % 4294967296) (f1 % 4294967296) (f2 % 4294967296) = some (Go.bits .or .u32 (Go.bits .or .u32 (Go.bits .or .u32 code (Go.bits .or .u32 (f0 % 32 * 2097152 % 4294967296) (f0 / 32 * 1 % 4294967296))) (f1 * 65536 % 4294967296)) (Go.bits .or .u32 (f2 % 32 * 2048 % 4294967296) (f2 / 32 * 2 % 4294967296))) := by
  have z0 : ∀ p, 6 ≤ p → tb f0 p = false := fun p hp => tb_small f0 6 p h0 g0 hp
  have l0 : ∀ p, tb (f0 % 32) p = (tb f0 p && decide (p < 5)) := fun p => tb_lo5 f0 p h0
  have u0 : ∀ p, tb (f0 / 32) p = tb f0 (5 + p) := fun p => tb_hi5 f0 p h0 (by omega)
  have z1 : ∀ p, 2 ≤ p → tb f1 p = false := fun p hp => tb_small f1 2 p h1 g1 hp
  have z2 : ∀ p, 6 ≤ p → tb f2 p = false := fun p hp => tb_small f2 6 p h2 g2 hp
  have l2 : ∀ p, tb (f2 % 32) p = (tb f2 p && decide (p < 5)) := fun p => tb_lo5 f2 p h2
  have u2 : ∀ p, tb (f2 / 32) p = tb f2 (5 + p) := fun p => tb_hi5 f2 p h2 (by omega)
  have mc : ∀ p, tb (code % 4294967296) p = tb code p := tb_mod code
  have m0 : ∀ p, tb (f0 % 4294967296) p = tb f0 p := tb_mod f0
  have m1 : ∀ p, tb (f1 % 4294967296) p = tb f1 p := tb_mod f1
  have m2 : ∀ p, tb (f2 % 4294967296) p = tb f2 p := tb_mod f2
  show some (Go.bits .or .u32 (Go.bits .or .u32 (Go.bits .or .u32 (Go.bits .or .u32 (Go.bits .or .u32 (code % 4294967296) (((Go.bits .and .u32 (f0 % 4294967296) 31) * 2097152) % 4294967296)) (((Go.bits .and .u32 (f1 % 4294967296) 3) * 65536) % 4294967296)) (((Go.bits .and .u32 (f2 % 4294967296) 31) * 2048) % 4294967296)) ((Go.bits .and .u32 (f2 % 4294967296) 32) / 16)) ((Go.bits .and .u32 (f0 % 4294967296) 32) / 32)) = _
  refine congrArg some (tb_ext (or32_in _ _).1 (or32_in _ _).2 (or32_in _ _).1 (or32_in _ _).2 (p32 ?_ ?_ ?_ ?_ ?_ ?_ ?_ ?_ ?_ ?_ ?_ ?_ ?_ ?_ ?_ ?_ ?_ ?_ ?_ ?_ ?_ ?_ ?_ ?_ ?_ ?_ ?_ ?_ ?_ ?_ ?_ ?_))
  all_goals simp only [tb_or, tb_and, tb_s0, tb_s1, tb_s2, tb_s3, tb_s4, tb_s5, tb_s6, tb_s7, tb_s8, tb_s9, tb_s10, tb_s11, tb_s12, tb_s13, tb_s14, tb_s15, tb_s16, tb_s17, tb_s18, tb_s19, tb_s20, tb_s21, tb_s22, tb_s23, tb_s24, tb_s25, tb_s26, tb_s27, tb_s28, tb_s29, tb_s30, tb_s31, tb_d1, tb_d2, tb_d3, tb_d4, tb_d5, tb_d6, tb_d7, tb_d8, tb_d9, tb_d10, tb_d11, tb_d12, tb_d13, tb_d14, tb_d15, tb_d16, tb_d17, tb_d18, tb_d19, tb_d20, tb_d21, tb_d22, tb_d23, tb_d24, tb_d25, tb_d26, tb_d27, tb_d28, tb_d29, tb_d30, tb_d31, tb_m1, tb_m2, tb_m3, tb_m4, tb_m5, tb_m6, tb_m7, tb_m8, tb_m9, tb_m10, tb_m11, tb_m12, tb_m13, tb_m14, tb_m15, tb_m16, tb_m17, tb_m18, tb_m19, tb_m20, tb_m21, tb_m22, tb_m23, tb_m24, tb_m25, tb_m26, tb_m27, tb_m28, tb_m29, tb_m30, tb_m31, tb_c1, tb_c3, tb_c15, tb_c31, tb_c32, tb_c65535, tb_c4095, tb_c262143, tb_c67108860, tb_c65532, tb_c67108864, tb_c100663296, tb_c0, z0, z1, z2, l0, u0, l2, u2, mc, m0, m1, m2]
  all_goals simp [z0, z1, z2, l0, u0, l2, u2]
/-! ### AOP_XX3: ijk -/
def sz_AOP_XX3 (i : Nat) : Nat := ([6, 6, 6] : List Nat).getD i 0
theorem bt_AOP_XX3_0 : bt (⟨#[105, 106, 107]⟩ : ByteArray) ((0 : Nat) : Int) = 105 := by decide +kernel
theorem bt_AOP_XX3_1 : bt (⟨#[105, 106, 107]⟩ : ByteArray) ((1 : Nat) : Int) = 106 := by decide +kernel
theorem bt_AOP_XX3_2 : bt (⟨#[105, 106, 107]⟩ : ByteArray) ((2 : Nat) : Int) = 107 := by decide +kernel
theorem known_AOP_XX3 : Known (⟨#[105, 106, 107]⟩ : ByteArray) sz_AOP_XX3 where
  size := below_3 (P := fun i => ∀ k, 12 ≤ k → spec_Size.f k (bt (⟨#[105, 106, 107]⟩ : ByteArray) (i : Int)) = some (sz_AOP_XX3 i : Int)) (fun k hk => by rw [bt_AOP_XX3_0]; exact size_i k (by omega)) (fun k hk => by rw [bt_AOP_XX3_1]; exact size_j k (by omega)) (fun k hk => by rw [bt_AOP_XX3_2]; exact size_k k (by omega))
  few := below_3 (P := fun i => sz_AOP_XX3 i ≤ 62) (by decide) (by decide) (by decide)
  put := below_3 (P := fun i => ∀ k, 12 ≤ k → ∀ v : Int, 0 ≤ v → v < 2 ^ sz_AOP_XX3 i → ∃ t, spec_Put.f k v (bt (⟨#[105, 106, 107]⟩ : ByteArray) (i : Int)) = some t) (fun k hk v h0 h1 => by rw [bt_AOP_XX3_0]; exact ⟨_, put_i k (by omega) v h0 h1⟩) (fun k hk v h0 h1 => by rw [bt_AOP_XX3_1]; exact ⟨_, put_j k (by omega) v h0 h1⟩) (fun k hk v h0 h1 => by rw [bt_AOP_XX3_2]; exact ⟨_, put_k k (by omega) v h0 h1⟩)
theorem word_AOP_XX3 (m : Nat) (code : Int) {f0 f1 f2 : Int} (h0 : 0 ≤ f0) (g0 : f0 < 64) (h1 : 0 ≤ f1) (g1 : f1 < 64) (h2 : 0 ≤ f2) (g2 : f2 < 64) : spec_Word.f (m + 20) (⟨#[65, 79, 80, 95, 88, 88, 51]⟩ : ByteArray) (⟨#[105, 106, 107]⟩ : ByteArray) code [f0, f1, f2] = some (Go.bits .or .u32 (Go.bits .or .u32 (Go.bits .or .u32 code (Go.bits .or .u32 (f0 % 32 * 2097152 % 4294967296) (f0 / 32 * 1 % 4294967296))) (Go.bits .or .u32 (f1 % 32 * 65536 % 4294967296) (f1 / 32 * 4 % 4294967296))) (Go.bits .or .u32 (f2 % 32 * 2048 % 4294967296) (f2 / 32 * 2 % 4294967296)), true) := by
  unfold spec_Word.f
  rw [if_pos (show (([f0, f1, f2] : List Int).length : Int) = (((⟨#[105, 106, 107]⟩ : ByteArray)).size : Int) from rfl)]
  show spec_Word.l0 (m + 19 + 1) code [f0, f1, f2] ((0 : Nat) : Int) (⟨#[65, 79, 80, 95, 88, 88, 51]⟩ : ByteArray) (⟨#[105, 106, 107]⟩ : ByteArray) = _
  rw [word_round (m + 19) _ _ 0 _ _ 6 (by simp) (by decide) (by rw [bt_AOP_XX3_0]; exact size_i _ (by omega)) (by decide) (by simp)]
  rw [show rd [f0, f1, f2] ((0 : Nat) : Int) = f0 from rfl, bt_AOP_XX3_0, if_neg (by omega), if_neg (by omega), put_i _ (by omega) f0 h0 g0, Option.bind_some]
  rw [word_round (m + 18) _ _ 1 _ _ 6 (by simp) (by decide) (by rw [bt_AOP_XX3_1]; exact size_j _ (by omega)) (by decide) (by simp)]
  rw [show rd [f0, f1, f2] ((1 : Nat) : Int) = f1 from rfl, bt_AOP_XX3_1, if_neg (by omega), if_neg (by omega), put_j _ (by omega) f1 h1 g1, Option.bind_some]
  rw [word_round (m + 17) _ _ 2 _ _ 6 (by simp) (by decide) (by rw [bt_AOP_XX3_2]; exact size_k _ (by omega)) (by decide) (by simp)]
  rw [show rd [f0, f1, f2] ((2 : Nat) : Int) = f2 from rfl, bt_AOP_XX3_2, if_neg (by omega), if_neg (by omega), put_k _ (by omega) f2 h2 g2, Option.bind_some]
  rw [word_end (m + 16) _ _ 3 _ _ rfl]
set_option maxHeartbeats 4000000 in
theorem leaf_AOP_XX3 {code f0 f1 f2 : Int} (h0 : 0 ≤ f0) (g0 : f0 < 64) (h1 : 0 ≤ f1) (g1 : f1 < 64) (h2 : 0 ≤ f2) (g2 : f2 < 64) : ppc64obj_AOP_XX3.f (code % 4294967296) (f0 % 4294967296) (f1 % 4294967296) (f2 % 4294967296) = some (Go.bits .or .u32 (Go.bits .or .u32 (Go.bits .or .u32 code (Go.bits .or .u32 (f0 % 32 * 2097152 % 4294967296) (f0 / 32 * 1 % 4294967296))) (Go.bits .or .u32 (f1 % 32 * 65536 % 4294967296) (f1 / 32 * 4 % 4294967296))) (Go.bits .or .u32 (f2 % 32 * 2048 % 4294967296) (f2 / 32 * 2 % 4294967296))) := by
  have z0 : ∀ p, 6 ≤ p → tb f0 p = false := fun p hp => tb_small f0 6 p h0 g0 hp
  have l0 : ∀ p, tb (f0 % 32) p = (tb f0 p && decide (p < 5)) := fun p => tb_lo5 f0 p h0
  have u0 : ∀ p, tb (f0 / 32) p = tb f0 (5 + p) := fun p => tb_hi5 f0 p h0 (by omega)
  have z1 : ∀ p, 6 ≤ p → tb f1 p = false := fun p hp => tb_small f1 6 p h1 g1 hp
  have l1 : ∀ p, tb (f1 % 32) p = (tb f1 p && decide (p < 5)) := fun p => tb_lo5 f1 p h1
  have u1 : ∀ p, tb (f1 / 32) p = tb f1 (5 + p) := fun p => tb_hi5 f1 p h1 (by omega)
  have z2 : ∀ p, 6 ≤ p → tb f2 p = false := fun p hp => tb_small f2 6 p h2 g2 hp
  have l2 : ∀ p, tb (f2 % 32) p = (tb f2 p && decide (p < 5)) := fun p => tb_lo5 f2 p h2
  have u2 : ∀ p, tb (f2 / 32) p = tb f2 (5 + p) := fun p => tb_hi5 f2 p h2 (by omega)
  have mc : ∀ p, tb (code % 4294967296) p = tb code p := tb_mod code
  have m0 : ∀ p, tb (f0 % 4294967296) p = tb f0 p := tb_mod f0
  have m1 : ∀ p, tb (f1 % 4294967296) p = tb f1 p := tb_mod f1
  have m2 : ∀ p, tb (f2 % 4294967296) p = tb f2 p := tb_mod f2
  show some (Go.bits .or .u32 (Go.bits .or .u32 (Go.bits .or .u32 (Go.bits .or .u32 (Go.bits .or .u32 (Go.bits .or .u32 (code % 4294967296) (((Go.bits .and .u32 (f0 % 4294967296) 31) * 2097152) % 4294967296)) (((Go.bits .and .u32 (f1 % 4294967296) 31) * 65536) % 4294967296)) (((Go.bits .and .u32 (f2 % 4294967296) 31) * 2048) % 4294967296)) ((Go.bits .and .u32 (f1 % 4294967296) 32) / 8)) ((Go.bits .and .u32 (f2 % 4294967296) 32) / 16)) ((Go.bits .and .u32 (f0 % 4294967296) 32) / 32)) = _
  refine congrArg some (tb_ext (or32_in _ _).1 (or32_in _ _).2 (or32_in _ _).1 (or32_in _ _).2 (p32 ?_ ?_ ?_ ?_ ?_ ?_ ?_ ?_ ?_ ?_ ?_ ?_ ?_ ?_ ?_ ?_ ?_ ?_ ?_ ?_ ?_ ?_ ?_ ?_ ?_ ?_ ?_ ?_ ?_ ?_ ?_ ?_))
  all_goals simp only [tb_or, tb_and, tb_s0, tb_s1, tb_s2, tb_s3, tb_s4, tb_s5, tb_s6, tb_s7, tb_s8, tb_s9, tb_s10, tb_s11, tb_s12, tb_s13, tb_s14, tb_s15, tb_s16, tb_s17, tb_s18, tb_s19, tb_s20, tb_s21, tb_s22, tb_s23, tb_s24, tb_s25, tb_s26, tb_s27, tb_s28, tb_s29, tb_s30, tb_s31, tb_d1, tb_d2, tb_d3, tb_d4, tb_d5, tb_d6, tb_d7, tb_d8, tb_d9, tb_d10, tb_d11, tb_d12, tb_d13, tb_d14, tb_d15, tb_d16, tb_d17, tb_d18, tb_d19, tb_d20, tb_d21, tb_d22, tb_d23, tb_d24, tb_d25, tb_d26, tb_d27, tb_d28, tb_d29, tb_d30, tb_d31, tb_m1, tb_m2, tb_m3, tb_m4, tb_m5, tb_m6, tb_m7, tb_m8, tb_m9, tb_m10, tb_m11, tb_m12, tb_m13, tb_m14, tb_m15, tb_m16, tb_m17, tb_m18, tb_m19, tb_m20, tb_m21, tb_m22, tb_m23, tb_m24, tb_m25, tb_m26, tb_m27, tb_m28, tb_m29, tb_m30, tb_m31, tb_c1, tb_c3, tb_c15, tb_c31, tb_c32, tb_c65535, tb_c4095, tb_c262143, tb_c67108860, tb_c65532, tb_c67108864, tb_c100663296, tb_c0, z0, z1, z2, l0, u0, l1, u1, l2, u2, mc, m0, m1, m2]
  all_goals simp [z0, z1, z2, l0, u0, l1, u1, l2, u2]
/-! ### AOP_XX3I: ijkn -/
def sz_AOP_XX3I (i : Nat) : Nat := ([6, 6, 6, 2] : List Nat).getD i 0
theorem bt_AOP_XX3I_0 : bt (⟨#[105, 106, 107, 110]⟩ : ByteArray) ((0 : Nat) : Int) = 105 := by decide +kernel
theorem bt_AOP_XX3I_1 : bt (⟨#[105, 106, 107, 110]⟩ : ByteArray) ((1 : Nat) : Int) = 106 := by decide +kernel
theorem bt_AOP_XX3I_2 : bt (⟨#[105, 106, 107, 110]⟩ : ByteArray) ((2 : Nat) : Int) = 107 := by decide +kernel
theorem bt_AOP_XX3I_3 : bt (⟨#[105, 106, 107, 110]⟩ : ByteArray) ((3 : Nat) : Int) = 110 := by decide +kernel
theorem known_AOP_XX3I : Known (⟨#[105, 106, 107, 110]⟩ : ByteArray) sz_AOP_XX3I where
  size := below_4 (P := fun i => ∀ k, 12 ≤ k → spec_Size.f k (bt (⟨#[105, 106, 107, 110]⟩ : ByteArray) (i : Int)) = some (sz_AOP_XX3I i : Int)) (fun k hk => by rw [bt_AOP_XX3I_0]; exact size_i k (by omega)) (fun k hk => by rw [bt_AOP_XX3I_1]; exact size_j k (by omega)) (fun k hk => by rw [bt_AOP_XX3I_2]; exact size_k k (by omega)) (fun k hk => by rw [bt_AOP_XX3I_3]; exact size_n k (by omega))
  few := below_4 (P := fun i => sz_AOP_XX3I i ≤ 62) (by decide) (by decide) (by decide) (by decide)
  put := below_4 (P := fun i => ∀ k, 12 ≤ k → ∀ v : Int, 0 ≤ v → v < 2 ^ sz_AOP_XX3I i → ∃ t, spec_Put.f k v (bt (⟨#[105, 106, 107, 110]⟩ : ByteArray) (i : Int)) = some t) (fun k hk v h0 h1 => by rw [bt_AOP_XX3I_0]; exact ⟨_, put_i k (by omega) v h0 h1⟩) (fun k hk v h0 h1 => by rw [bt_AOP_XX3I_1]; exact ⟨_, put_j k (by omega) v h0 h1⟩) (fun k hk v h0 h1 => by rw [bt_AOP_XX3I_2]; exact ⟨_, put_k k (by omega) v h0 h1⟩) (fun k hk v h0 h1 => by rw [bt_AOP_XX3I_3]; exact ⟨_, put_n k (by omega) v h0 h1⟩)
theorem word_AOP_XX3I (m : Nat) (code : Int) {f0 f1 f2 f3 : Int} (h0 : 0 ≤ f0) (g0 : f0 < 64) (h1 : 0 ≤ f1) (g1 : f1 < 64) (h2 : 0 ≤ f2) (g2 : f2 < 64) (h3 : 0 ≤ f3) (g3 : f3 < 4) : spec_Word.f (m + 20) (⟨#[65, 79, 80, 95, 88, 88, 51, 73]⟩ : ByteArray) (⟨#[105, 106, 107, 110]⟩ : ByteArray) code [f0, f1, f2, f3] = some (Go.bits .or .u32 (Go.bits .or .u32 (Go.bits .or .u32 (Go.bits .or .u32 code (Go.bits .or .u32 (f0 % 32 * 2097152 % 4294967296) (f0 / 32 * 1 % 4294967296))) (Go.bits .or .u32 (f1 % 32 * 65536 % 4294967296) (f1 / 32 * 4 % 4294967296))) (Go.bits .or .u32 (f2 % 32 * 2048 % 4294967296) (f2 / 32 * 2 % 4294967296))) (f3 * 256 % 4294967296), true) := by
  unfold spec_Word.f
  rw [if_pos (show (([f0, f1, f2, f3] : List Int).length : Int) = (((⟨#[105, 106, 107, 110]⟩ : ByteArray)).size : Int) from rfl)]
  show spec_Word.l0 (m + 19 + 1) code [f0, f1, f2, f3] ((0 : Nat) : Int) (⟨#[65, 79, 80, 95, 88, 88, 51, 73]⟩ : ByteArray) (⟨#[105, 106, 107, 110]⟩ : ByteArray) = _
  rw [word_round (m + 19) _ _ 0 _ _ 6 (by simp) (by decide) (by rw [bt_AOP_XX3I_0]; exact size_i _ (by omega)) (by decide) (by simp)]
  rw [show rd [f0, f1, f2, f3] ((0 : Nat) : Int) = f0 from rfl, bt_AOP_XX3I_0, if_neg (by omega), if_neg (by omega), put_i _ (by omega) f0 h0 g0, Option.bind_some]
  rw [word_round (m + 18) _ _ 1 _ _ 6 (by simp) (by decide) (by rw [bt_AOP_XX3I_1]; exact size_j _ (by omega)) (by decide) (by simp)]
  rw [show rd [f0, f1, f2, f3] ((1 : Nat) : Int) = f1 from rfl, bt_AOP_XX3I_1, if_neg (by omega), if_neg (by omega), put_j _ (by omega) f1 h1 g1, Option.bind_some]
  rw [word_round (m + 17) _ _ 2 _ _ 6 (by simp) (by decide) (by rw [bt_AOP_XX3I_2]; exact size_k _ (by omega)) (by decide) (by simp)]
  rw [show rd [f0, f1, f2, f3] ((2 : Nat) : Int) = f2 from rfl, bt_AOP_XX3I_2, if_neg (by omega), if_neg (by omega), put_k _ (by omega) f2 h2 g2, Option.bind_some]
  rw [word_round (m + 16) _ _ 3 _ _ 2 (by simp) (by decide) (by rw [bt_AOP_XX3I_3]; exact size_n _ (by omega)) (by decide) (by simp)]
  rw [show rd [f0, f1, f2, f3] ((3 : Nat) : Int) = f3 from rfl, bt_AOP_XX3I_3, if_neg (by omega), if_neg (by omega), put_n _ (by omega) f3 h3 g3, Option.bind_some]
  rw [word_end (m + 15) _ _ 4 _ _ rfl]
set_option maxHeartbeats 4000000 in
theorem leaf_AOP_XX3I {code f0 f1 f2 f3 : Int} (h0 : 0 ≤ f0) (g0 : f0 < 64) (h1 : 0 ≤ f1) (g1 : f1 < 64) (h2 : 0 ≤ f2) (g2 : f2 < 64) (h3 : 0 ≤ f3) (g3 : f3 < 4) : ppc64obj_AOP_XX3I.f (code % 4294967296) (f0 % 4294967296) (f1 % 4294967296) (f2 % 4294967296) (f3 % 4294967296) = some (Go.bits .or .u32 (Go.bits .or .u32 (Go.bits .or .u32 (Go.bits .or .u32 code (Go.bits .or .u32 (f0 % 32 * 2097152 % 4294967296) (f0 / 32 * 1 % 4294967296))) (Go.bits .or .u32 (f1 % 32 * 65536 % 4294967296) (f1 / 32 * 4 % 4294967296))) (Go.bits .or .u32 (f2 % 32 * 2048 % 4294967296) (f2 / 32 * 2 % 4294967296))) (f3 * 256 % 4294967296)) := by
  have z0 : ∀ p, 6 ≤ p → tb f0 p = false := fun p hp => tb_small f0 6 p h0 g0 hp
  have l0 : ∀ p, tb (f0 % 32) p = (tb f0 p && decide (p < 5)) := fun p => tb_lo5 f0 p h0
  have u0 : ∀ p, tb (f0 / 32) p = tb f0 (5 + p) := fun p => tb_hi5 f0 p h0 (by omega)
  have z1 : ∀ p, 6 ≤ p → tb f1 p = false := fun p hp => tb_small f1 6 p h1 g1 hp
  have l1 : ∀ p, tb (f1 % 32) p = (tb f1 p && decide (p < 5)) := fun p => tb_lo5 f1 p h1
  have u1 : ∀ p, tb (f1 / 32) p = tb f1 (5 + p) := fun p => tb_hi5 f1 p h1 (by omega)
  have z2 : ∀ p, 6 ≤ p → tb f2 p = false := fun p hp => tb_small f2 6 p h2 g2 hp
  have l2 : ∀ p, tb (f2 % 32) p = (tb f2 p && decide (p < 5)) := fun p => tb_lo5 f2 p h2
  have u2 : ∀ p, tb (f2 / 32) p = tb f2 (5 + p) := fun p => tb_hi5 f2 p h2 (by omega)
  have z3 : ∀ p, 2 ≤ p → tb f3 p = false := fun p hp => tb_small f3 2 p h3 g3 hp
  have mc : ∀ p, tb (code % 4294967296) p = tb code p := tb_mod code
  have m0 : ∀ p, tb (f0 % 4294967296) p = tb f0 p := tb_mod f0
  have m1 : ∀ p, tb (f1 % 4294967296) p = tb f1 p := tb_mod f1
  have m2 : ∀ p, tb (f2 % 4294967296) p = tb f2 p := tb_mod f2
  have m3 : ∀ p, tb (f3 % 4294967296) p = tb f3 p := tb_mod f3
  show some (Go.bits .or .u32 (Go.bits .or .u32 (Go.bits .or .u32 (Go.bits .or .u32 (Go.bits .or .u32 (Go.bits .or .u32 (Go.bits .or .u32 (code % 4294967296) (((Go.bits .and .u32 (f0 % 4294967296) 31) * 2097152) % 4294967296)) (((Go.bits .and .u32 (f1 % 4294967296) 31) * 65536) % 4294967296)) (((Go.bits .and .u32 (f2 % 4294967296) 31) * 2048) % 4294967296)) (((Go.bits .and .u32 (f3 % 4294967296) 3) * 256) % 4294967296)) ((Go.bits .and .u32 (f1 % 4294967296) 32) / 8)) ((Go.bits .and .u32 (f2 % 4294967296) 32) / 16)) ((Go.bits .and .u32 (f0 % 4294967296) 32) / 32)) = _
  refine congrArg some (tb_ext (or32_in _ _).1 (or32_in _ _).2 (or32_in _ _).1 (or32_in _ _).2 (p32 ?_ ?_ ?_ ?_ ?_ ?_ ?_ ?_ ?_ ?_ ?_ ?_ ?_ ?_ ?_ ?_ ?_ ?_ ?_ ?_ ?_ ?_ ?_ ?_ ?_ ?_ ?_ ?_ ?_ ?_ ?_ ?_))
  all_goals simp only [tb_or, tb_and, tb_s0, tb_s1, tb_s2, tb_s3, tb_s4, tb_s5, tb_s6, tb_s7, tb_s8, tb_s9, tb_s10, tb_s11, tb_s12, tb_s13, tb_s14, tb_s15, tb_s16, tb_s17, tb_s18, tb_s19, tb_s20, tb_s21, tb_s22, tb_s23, tb_s24, tb_s25, tb_s26, tb_s27, tb_s28, tb_s29, tb_s30, tb_s31, tb_d1, tb_d2, tb_d3, tb_d4, tb_d5, tb_d6, tb_d7, tb_d8, tb_d9, tb_d10, tb_d11, tb_d12, tb_d13, tb_d14, tb_d15, tb_d16, tb_d17, tb_d18, tb_d19, tb_d20, tb_d21, tb_d22, tb_d23, tb_d24, tb_d25, tb_d26, tb_d27, tb_d28, tb_d29, tb_d30, tb_d31, tb_m1, tb_m2, tb_m3, tb_m4, tb_m5, tb_m6, tb_m7, tb_m8, tb_m9, tb_m10, tb_m11, tb_m12, tb_m13, tb_m14, tb_m15, tb_m16, tb_m17, tb_m18, tb_m19, tb_m20, tb_m21, tb_m22, tb_m23, tb_m24, tb_m25, tb_m26, tb_m27, tb_m28, tb_m29, tb_m30, tb_m31, tb_c1, tb_c3, tb_c15, tb_c31, tb_c32, tb_c65535, tb_c4095, tb_c262143, tb_c67108860, tb_c65532, tb_c67108864, tb_c100663296, tb_c0, z0, z1, z2, z3, l0, u0, l1, u1, l2, u2, mc, m0, m1, m2, m3]
  all_goals simp [z0, z1, z2, z3, l0, u0, l1, u1, l2, u2]
/-! ### AOP_XX4: ijkq -/
def sz_AOP_XX4 (i : Nat) : Nat := ([6, 6, 6, 6] : List Nat).getD i 0
theorem bt_AOP_XX4_0 : bt (⟨#[105, 106, 107, 113]⟩ : ByteArray) ((0 : Nat) : Int) = 105 := by decide +kernel
theorem bt_AOP_XX4_1 : bt (⟨#[105, 106, 107, 113]⟩ : ByteArray) ((1 : Nat) : Int) = 106 := by decide +kernel
theorem bt_AOP_XX4_2 : bt (⟨#[105, 106, 107, 113]⟩ : ByteArray) ((2 : Nat) : Int) = 107 := by decide +kernel
theorem bt_AOP_XX4_3 : bt (⟨#[105, 106, 107, 113]⟩ : ByteArray) ((3 : Nat) : Int) = 113 := by decide +kernel
theorem known_AOP_XX4 : Known (⟨#[105, 106, 107, 113]⟩ : ByteArray) sz_AOP_XX4 where
  size := below_4 (P := fun i => ∀ k, 12 ≤ k → spec_Size.f k (bt (⟨#[105, 106, 107, 113]⟩ : ByteArray) (i : Int)) = some (sz_AOP_XX4 i : Int)) (fun k hk => by rw [bt_AOP_XX4_0]; exact size_i k (by omega)) (fun k hk => by rw [bt_AOP_XX4_1]; exact size_j k (by omega)) (fun k hk => by rw [bt_AOP_XX4_2]; exact size_k k (by omega)) (fun k hk => by rw [bt_AOP_XX4_3]; exact size_q k (by omega))
  few := below_4 (P := fun i => sz_AOP_XX4 i ≤ 62) (by decide) (by decide) (by decide) (by decide)
  put := below_4 (P := fun i => ∀ k, 12 ≤ k → ∀ v : Int, 0 ≤ v → v < 2 ^ sz_AOP_XX4 i → ∃ t, spec_Put.f k v (bt (⟨#[105, 106, 107, 113]⟩ : ByteArray) (i : Int)) = some t) (fun k hk v h0 h1 => by rw [bt_AOP_XX4_0]; exact ⟨_, put_i k (by omega) v h0 h1⟩) (fun k hk v h0 h1 => by rw [bt_AOP_XX4_1]; exact ⟨_, put_j k (by omega) v h0 h1⟩) (fun k hk v h0 h1 => by rw [bt_AOP_XX4_2]; exact ⟨_, put_k k (by omega) v h0 h1⟩) (fun k hk v h0 h1 => by rw [bt_AOP_XX4_3]; exact ⟨_, put_q k (by omega) v h0 h1⟩)
theorem word_AOP_XX4 (m : Nat) (code : Int) {f0 f1 f2 f3 : Int} (h0 : 0 ≤ f0) (g0 : f0 < 64) (h1 : 0 ≤ f1) (g1 : f1 < 64) (h2 : 0 ≤ f2) (g2 : f2 < 64) (h3 : 0 ≤ f3) (g3 : f3 < 64) : spec_Word.f (m + 20) (⟨#[65, 79, 80, 95, 88, 88, 52]⟩ : ByteArray) (⟨#[105, 106, 107, 113]⟩ : ByteArray) code [f0, f1, f2, f3] = some (Go.bits .or .u32 (Go.bits .or .u32 (Go.bits .or .u32 (Go.bits .or .u32 code (Go.bits .or .u32 (f0 % 32 * 2097152 % 4294967296) (f0 / 32 * 1 % 4294967296))) (Go.bits .or .u32 (f1 % 32 * 65536 % 4294967296) (f1 / 32 * 4 % 4294967296))) (Go.bits .or .u32 (f2 % 32 * 2048 % 4294967296) (f2 / 32 * 2 % 4294967296))) (Go.bits .or .u32 (f3 % 32 * 64 % 4294967296) (f3 / 32 * 8 % 4294967296)), true) := by
  unfold spec_Word.f
  rw [if_pos (show (([f0, f1, f2, f3] : List Int).length : Int) = (((⟨#[105, 106, 107, 113]⟩ : ByteArray)).size : Int) from rfl)]
  show spec_Word.l0 (m + 19 + 1) code [f0, f1, f2, f3] ((0 : Nat) : Int) (⟨#[65, 79, 80, 95, 88, 88, 52]⟩ : ByteArray) (⟨#[105, 106, 107, 113]⟩ : ByteArray) = _
  rw [word_round (m + 19) _ _ 0 _ _ 6 (by simp) (by decide) (by rw [bt_AOP_XX4_0]; exact size_i _ (by omega)) (by decide) (by simp)]
  rw [show rd [f0, f1, f2, f3] ((0 : Nat) : Int) = f0 from rfl, bt_AOP_XX4_0, if_neg (by omega), if_neg (by omega), put_i _ (by omega) f0 h0 g0, Option.bind_some]
  rw [word_round (m + 18) _ _ 1 _ _ 6 (by simp) (by decide) (by rw [bt_AOP_XX4_1]; exact size_j _ (by omega)) (by decide) (by simp)]
  rw [show rd [f0, f1, f2, f3] ((1 : Nat) : Int) = f1 from rfl, bt_AOP_XX4_1, if_neg (by omega), if_neg (by omega), put_j _ (by omega) f1 h1 g1, Option.bind_some]
  rw [word_round (m + 17) _ _ 2 _ _ 6 (by simp) (by decide) (by rw [bt_AOP_XX4_2]; exact size_k _ (by omega)) (by decide) (by simp)]
  rw [show rd [f0, f1, f2, f3] ((2 : Nat) : Int) = f2 from rfl, bt_AOP_XX4_2, if_neg (by omega), if_neg (by omega), put_k _ (by omega) f2 h2 g2, Option.bind_some]
  rw [word_round (m + 16) _ _ 3 _ _ 6 (by simp) (by decide) (by rw [bt_AOP_XX4_3]; exact size_q _ (by omega)) (by decide) (by simp)]
  rw [show rd [f0, f1, f2, f3] ((3 : Nat) : Int) = f3 from rfl, bt_AOP_XX4_3, if_neg (by omega), if_neg (by omega), put_q _ (by omega) f3 h3 g3, Option.bind_some]
  rw [word_end (m + 15) _ _ 4 _ _ rfl]
set_option maxHeartbeats 4000000 in
theorem leaf_AOP_XX4 {code f0 f1 f2 f3 : Int} (h0 : 0 ≤ f0) (g0 : f0 < 64) (h1 : 0 ≤ f1) (g1 : f1 < 64) (h2 : 0 ≤ f2) (g2 : f2 < 64) (h3 : 0 ≤ f3) (g3 : f3 < 64) : ppc64obj_AOP_XX4.f (code % 4294967296) (f0 % 4294967296) (f1 % 4294967296) (f2 % 4294967296) (f3 % 4294967296) = some (Go.bits .or .u32 (Go.bits .or .u32 (Go.bits .or .u32 (Go.bits .or .u32 code (Go.bits .or .u32 (f0 % 32 * 2097152 % 4294967296) (f0 / 32 * 1 % 4294967296))) (Go.bits .or .u32 (f1 % 32 * 65536 % 4294967296) (f1 / 32 * 4 % 4294967296))) (Go.bits .or .u32 (f2 % 32 * 2048 % 4294967296) (f2 / 32 * 2 % 4294967296))) (Go.bits .or .u32 (f3 % 32 * 64 % 4294967296) (f3 / 32 * 8 % 4294967296))) := by
  have z0 : ∀ p, 6 ≤ p → tb f0 p = false := fun p hp => tb_small f0 6 p h0 g0 hp
  have l0 : ∀ p, tb (f0 % 32) p = (tb f0 p && decide (p < 5)) := fun p => tb_lo5 f0 p h0
  have u0 : ∀ p, tb (f0 / 32) p = tb f0 (5 + p) := fun p => tb_hi5 f0 p h0 (by omega)
  have z1 : ∀ p, 6 ≤ p → tb f1 p = false := fun p hp => tb_small f1 6 p h1 g1 hp
  have l1 : ∀ p, tb (f1 % 32) p = (tb f1 p && decide (p < 5)) := fun p => tb_lo5 f1 p h1
  have u1 : ∀ p, tb (f1 / 32) p = tb f1 (5 + p) := fun p => tb_hi5 f1 p h1 (by omega)
  have z2 : ∀ p, 6 ≤ p → tb f2 p = false := fun p hp => tb_small f2 6 p h2 g2 hp
  have l2 : ∀ p, tb (f2 % 32) p = (tb f2 p && decide (p < 5)) := fun p => tb_lo5 f2 p h2
  have u2 : ∀ p, tb (f2 / 32) p = tb f2 (5 + p) := fun p => tb_hi5 f2 p h2 (by omega)
  have z3 : ∀ p, 6 ≤ p → tb f3 p = false := fun p hp => tb_small f3 6 p h3 g3 hp
  have l3 : ∀ p, tb (f3 % 32) p = (tb f3 p && decide (p < 5)) := fun p => tb_lo5 f3 p h3
  have u3 : ∀ p, tb (f3 / 32) p = tb f3 (5 + p) := fun p => tb_hi5 f3 p h3 (by omega)
  have mc : ∀ p, tb (code % 4294967296) p = tb code p := tb_mod code
  have m0 : ∀ p, tb (f0 % 4294967296) p = tb f0 p := tb_mod f0
  have m1 : ∀ p, tb (f1 % 4294967296) p = tb f1 p := tb_mod f1
  have m2 : ∀ p, tb (f2 % 4294967296) p = tb f2 p := tb_mod f2
  have m3 : ∀ p, tb (f3 % 4294967296) p = tb f3 p := tb_mod f3
  show some (Go.bits .or .u32 (Go.bits .or .u32 (Go.bits .or .u32 (Go.bits .or .u32 (Go.bits .or .u32 (Go.bits .or .u32 (Go.bits .or .u32 (Go.bits .or .u32 (code % 4294967296) (((Go.bits .and .u32 (f0 % 4294967296) 31) * 2097152) % 4294967296)) (((Go.bits .and .u32 (f1 % 4294967296) 31) * 65536) % 4294967296)) (((Go.bits .and .u32 (f2 % 4294967296) 31) * 2048) % 4294967296)) (((Go.bits .and .u32 (f3 % 4294967296) 31) * 64) % 4294967296)) ((Go.bits .and .u32 (f3 % 4294967296) 32) / 4)) ((Go.bits .and .u32 (f1 % 4294967296) 32) / 8)) ((Go.bits .and .u32 (f2 % 4294967296) 32) / 16)) ((Go.bits .and .u32 (f0 % 4294967296) 32) / 32)) = _
  refine congrArg some (tb_ext (or32_in _ _).1 (or32_in _ _).2 (or32_in _ _).1 (or32_in _ _).2 (p32 ?_ ?_ ?_ ?_ ?_ ?_ ?_ ?_ ?_ ?_ ?_ ?_ ?_ ?_ ?_ ?_ ?_ ?_ ?_ ?_ ?_ ?_ ?_ ?_ ?_ ?_ ?_ ?_ ?_ ?_ ?_ ?_))
  all_goals simp only [tb_or, tb_and, tb_s0, tb_s1, tb_s2, tb_s3, tb_s4, tb_s5, tb_s6, tb_s7, tb_s8, tb_s9, tb_s10, tb_s11, tb_s12, tb_s13, tb_s14, tb_s15, tb_s16, tb_s17, tb_s18, tb_s19, tb_s20, tb_s21, tb_s22, tb_s23, tb_s24, tb_s25, tb_s26, tb_s27, tb_s28, tb_s29, tb_s30, tb_s31, tb_d1, tb_d2, tb_d3, tb_d4, tb_d5, tb_d6, tb_d7, tb_d8, tb_d9, tb_d10, tb_d11, tb_d12, tb_d13, tb_d14, tb_d15, tb_d16, tb_d17, tb_d18, tb_d19, tb_d20, tb_d21, tb_d22, tb_d23, tb_d24, tb_d25, tb_d26, tb_d27, tb_d28, tb_d29, tb_d30, tb_d31, tb_m1, tb_m2, tb_m3, tb_m4, tb_m5, tb_m6, tb_m7, tb_m8, tb_m9, tb_m10, tb_m11, tb_m12, tb_m13, tb_m14, tb_m15, tb_m16, tb_m17, tb_m18, tb_m19, tb_m20, tb_m21, tb_m22, tb_m23, tb_m24, tb_m25, tb_m26, tb_m27, tb_m28, tb_m29, tb_m30, tb_m31, tb_c1, tb_c3, tb_c15, tb_c31, tb_c32, tb_c65535, tb_c4095, tb_c262143, tb_c67108860, tb_c65532, tb_c67108864, tb_c100663296, tb_c0, z0, z1, z2, z3, l0, u0, l1, u1, l2, u2, l3, u3, mc, m0, m1, m2, m3]
  all_goals simp [z0, z1, z2, z3, l0, u0, l1, u1, l2, u2, l3, u3]
/-! ### AOP_Z23I: TABz -/
def sz_AOP_Z23I (i : Nat) : Nat := ([5, 5, 5, 2] : List Nat).getD i 0
theorem bt_AOP_Z23I_0 : bt (⟨#[84, 65, 66, 122]⟩ : ByteArray) ((0 : Nat) : Int) = 84 := by decide +kernel
theorem bt_AOP_Z23I_1 : bt (⟨#[84, 65, 66, 122]⟩ : ByteArray) ((1 : Nat) : Int) = 65 := by decide +kernel
theorem bt_AOP_Z23I_2 : bt (⟨#[84, 65, 66, 122]⟩ : ByteArray) ((2 : Nat) : Int) = 66 := by decide +kernel
theorem bt_AOP_Z23I_3 : bt (⟨#[84, 65, 66, 122]⟩ : ByteArray) ((3 : Nat) : Int) = 122 := by decide +kernel
theorem known_AOP_Z23I : Known (⟨#[84, 65, 66, 122]⟩ : ByteArray) sz_AOP_Z23I where
  size := below_4 (P := fun i => ∀ k, 12 ≤ k → spec_Size.f k (bt (⟨#[84, 65, 66, 122]⟩ : ByteArray) (i : Int)) = some (sz_AOP_Z23I i : Int)) (fun k hk => by rw [bt_AOP_Z23I_0]; exact size_T k (by omega)) (fun k hk => by rw [bt_AOP_Z23I_1]; exact size_A k (by omega)) (fun k hk => by rw [bt_AOP_Z23I_2]; exact size_B k (by omega)) (fun k hk => by rw [bt_AOP_Z23I_3]; exact size_z k (by omega))
  few := below_4 (P := fun i => sz_AOP_Z23I i ≤ 62) (by decide) (by decide) (by decide) (by decide)
  put := below_4 (P := fun i => ∀ k, 12 ≤ k → ∀ v : Int, 0 ≤ v → v < 2 ^ sz_AOP_Z23I i → ∃ t, spec_Put.f k v (bt (⟨#[84, 65, 66, 122]⟩ : ByteArray) (i : Int)) = some t) (fun k hk v h0 h1 => by rw [bt_AOP_Z23I_0]; exact ⟨_, put_T k (by omega) v h0 h1⟩) (fun k hk v h0 h1 => by rw [bt_AOP_Z23I_1]; exact ⟨_, put_A k (by omega) v h0 h1⟩) (fun k hk v h0 h1 => by rw [bt_AOP_Z23I_2]; exact ⟨_, put_B k (by omega) v h0 h1⟩) (fun k hk v h0 h1 => by rw [bt_AOP_Z23I_3]; exact ⟨_, put_z k (by omega) v h0 h1⟩)
theorem word_AOP_Z23I (m : Nat) (code : Int) {f0 f1 f2 f3 : Int} (h0 : 0 ≤ f0) (g0 : f0 < 32) (h1 : 0 ≤ f1) (g1 : f1 < 32) (h2 : 0 ≤ f2) (g2 : f2 < 32) (h3 : 0 ≤ f3) (g3 : f3 < 4) : spec_Word.f (m + 20) (⟨#[65, 79, 80, 95, 90, 50, 51, 73]⟩ : ByteArray) (⟨#[84, 65, 66, 122]⟩ : ByteArray) code [f0, f1, f2, f3] = some (Go.bits .or .u32 (Go.bits .or .u32 (Go.bits .or .u32 (Go.bits .or .u32 code (f0 * 2097152 % 4294967296)) (f1 * 65536 % 4294967296)) (f2 * 2048 % 4294967296)) (f3 * 512 % 4294967296), true) := by
  unfold spec_Word.f
  rw [if_pos (show (([f0, f1, f2, f3] : List Int).length : Int) = (((⟨#[84, 65, 66, 122]⟩ : ByteArray)).size : Int) from rfl)]
  show spec_Word.l0 (m + 19 + 1) code [f0, f1, f2, f3] ((0 : Nat) : Int) (⟨#[65, 79, 80, 95, 90, 50, 51, 73]⟩ : ByteArray) (⟨#[84, 65, 66, 122]⟩ : ByteArray) = _
  rw [word_round (m + 19) _ _ 0 _ _ 5 (by simp) (by decide) (by rw [bt_AOP_Z23I_0]; exact size_T _ (by omega)) (by decide) (by simp)]
  rw [show rd [f0, f1, f2, f3] ((0 : Nat) : Int) = f0 from rfl, bt_AOP_Z23I_0, if_neg (by omega), if_neg (by omega), put_T _ (by omega) f0 h0 g0, Option.bind_some]
  rw [word_round (m + 18) _ _ 1 _ _ 5 (by simp) (by decide) (by rw [bt_AOP_Z23I_1]; exact size_A _ (by omega)) (by decide) (by simp)]
  rw [show rd [f0, f1, f2, f3] ((1 : Nat) : Int) = f1 from rfl, bt_AOP_Z23I_1, if_neg (by omega), if_neg (by omega), put_A _ (by omega) f1 h1 g1, Option.bind_some]
  rw [word_round (m + 17) _ _ 2 _ _ 5 (by simp) (by decide) (by rw [bt_AOP_Z23I_2]; exact size_B _ (by omega)) (by decide) (by simp)]
  rw [show rd [f0, f1, f2, f3] ((2 : Nat) : Int) = f2 from rfl, bt_AOP_Z23I_2, if_neg (by omega), if_neg (by omega), put_B _ (by omega) f2 h2 g2, Option.bind_some]
  rw [word_round (m + 16) _ _ 3 _ _ 2 (by simp) (by decide) (by rw [bt_AOP_Z23I_3]; exact size_z _ (by omega)) (by decide) (by simp)]
  rw [show rd [f0, f1, f2, f3] ((3 : Nat) : Int) = f3 from rfl, bt_AOP_Z23I_3, if_neg (by omega), if_neg (by omega), put_z _ (by omega) f3 h3 g3, Option.bind_some]
  rw [word_end (m + 15) _ _ 4 _ _ rfl]
set_option maxHeartbeats 4000000 in
theorem leaf_AOP_Z23I {code f0 f1 f2 f3 : Int} (h0 : 0 ≤ f0) (g0 : f0 < 32) (h1 : 0 ≤ f1) (g1 : f1 < 32) (h2 : 0 ≤ f2) (g2 : f2 < 32) (h3 : 0 ≤ f3) (g3 : f3 < 4) : ppc64obj_AOP_Z23I.f (code % 4294967296) (f0 % 4294967296) (f1 % 4294967296) (f2 % 4294967296) (f3 % 4294967296) = some (Go.bits .or .u32 (Go.bits .or .u32 (Go.bits .or .u32 (Go.bits .or .u32 code (f0 * 2097152 % 4294967296)) (f1 * 65536 % 4294967296)) (f2 * 2048 % 4294967296)) (f3 * 512 % 4294967296)) := by
  have z0 : ∀ p, 5 ≤ p → tb f0 p = false := fun p hp => tb_small f0 5 p h0 g0 hp
  have z1 : ∀ p, 5 ≤ p → tb f1 p = false := fun p hp => tb_small f1 5 p h1 g1 hp
  have z2 : ∀ p, 5 ≤ p → tb f2 p = false := fun p hp => tb_small f2 5 p h2 g2 hp
  have z3 : ∀ p, 2 ≤ p → tb f3 p = false := fun p hp => tb_small f3 2 p h3 g3 hp
  have mc : ∀ p, tb (code % 4294967296) p = tb code p := tb_mod code
  have m0 : ∀ p, tb (f0 % 4294967296) p = tb f0 p := tb_mod f0
  have m1 : ∀ p, tb (f1 % 4294967296) p = tb f1 p := tb_mod f1
  have m2 : ∀ p, tb (f2 % 4294967296) p = tb f2 p := tb_mod f2
  have m3 : ∀ p, tb (f3 % 4294967296) p = tb f3 p := tb_mod f3
  show some (Go.bits .or .u32 (Go.bits .or .u32 (Go.bits .or .u32 (Go.bits .or .u32 (code % 4294967296) (((Go.bits .and .u32 (f0 % 4294967296) 31) * 2097152) % 4294967296)) (((Go.bits .and .u32 (f1 % 4294967296) 31) * 65536) % 4294967296)) (((Go.bits .and .u32 (f2 % 4294967296) 31) * 2048) % 4294967296)) (((Go.bits .and .u32 (f3 % 4294967296) 3) * 512) % 4294967296)) = _
  refine congrArg some (tb_ext (or32_in _ _).1 (or32_in _ _).2 (or32_in _ _).1 (or32_in _ _).2 (p32 ?_ ?_ ?_ ?_ ?_ ?_ ?_ ?_ ?_ ?_ ?_ ?_ ?_ ?_ ?_ ?_ ?_ ?_ ?_ ?_ ?_ ?_ ?_ ?_ ?_ ?_ ?_ ?_ ?_ ?_ ?_ ?_))
  all_goals simp only [tb_or, tb_and, tb_s0, tb_s1, tb_s2, tb_s3, tb_s4, tb_s5, tb_s6, tb_s7, tb_s8, tb_s9, tb_s10, tb_s11, tb_s12, tb_s13, tb_s14, tb_s15, tb_s16, tb_s17, tb_s18, tb_s19, tb_s20, tb_s21, tb_s22, tb_s23, tb_s24, tb_s25, tb_s26, tb_s27, tb_s28, tb_s29, tb_s30, tb_s31, tb_d1, tb_d2, tb_d3, tb_d4, tb_d5, tb_d6, tb_d7, tb_d8, tb_d9, tb_d10, tb_d11, tb_d12, tb_d13, tb_d14, tb_d15, tb_d16, tb_d17, tb_d18, tb_d19, tb_d20, tb_d21, tb_d22, tb_d23, tb_d24, tb_d25, tb_d26, tb_d27, tb_d28, tb_d29, tb_d30, tb_d31, tb_m1, tb_m2, tb_m3, tb_m4, tb_m5, tb_m6, tb_m7, tb_m8, tb_m9, tb_m10, tb_m11, tb_m12, tb_m13, tb_m14, tb_m15, tb_m16, tb_m17, tb_m18, tb_m19, tb_m20, tb_m21, tb_m22, tb_m23, tb_m24, tb_m25, tb_m26, tb_m27, tb_m28, tb_m29, tb_m30, tb_m31, tb_c1, tb_c3, tb_c15, tb_c31, tb_c32, tb_c65535, tb_c4095, tb_c262143, tb_c67108860, tb_c65532, tb_c67108864, tb_c100663296, tb_c0, z0, z1, z2, z3, mc, m0, m1, m2, m3]
  all_goals simp [z0, z1, z2, z3]

end Go.Proofs.Ytnfkdmoblncclaa.X
