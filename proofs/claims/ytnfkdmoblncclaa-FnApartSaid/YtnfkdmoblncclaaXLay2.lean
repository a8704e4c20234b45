/- Each encoder of fields of this part: its letters and its word. -/
import Derived.Test.YtnfkdmoblncclaaXBelow
import Derived.Test.YtnfkdmoblncclaaXPureWord
namespace Go.Proofs.Ytnfkdmoblncclaa.X
open Go.RowKit Go.Proofs.YtnfkdmoblncclaaW.PrintWords Go.Proofs.YtnfkdmoblncclaaW.PrintLast Go.Proofs.YtnfkdmoblncclaaW.PrintMore
attribute [local go_sem] max2_int min2_int max_two min_two max_three min_three max_four min_four   -- for this text's walks alone
set_option linter.unusedVariables false
set_option linter.unusedSimpArgs false

/-! ### AOP_RRRI: TABv -/
def sz_AOP_RRRI (i : Nat) : Nat := ([5, 5, 5, 1] : List Nat).getD i 0
theorem bt_AOP_RRRI_0 : bt (⟨#[84, 65, 66, 118]⟩ : ByteArray) ((0 : Nat) : Int) = 84 := by decide +kernel
theorem bt_AOP_RRRI_1 : bt (⟨#[84, 65, 66, 118]⟩ : ByteArray) ((1 : Nat) : Int) = 65 := by decide +kernel
theorem bt_AOP_RRRI_2 : bt (⟨#[84, 65, 66, 118]⟩ : ByteArray) ((2 : Nat) : Int) = 66 := by decide +kernel
theorem bt_AOP_RRRI_3 : bt (⟨#[84, 65, 66, 118]⟩ : ByteArray) ((3 : Nat) : Int) = 118 := by decide +kernel
theorem known_AOP_RRRI : Known (⟨#[84, 65, 66, 118]⟩ : ByteArray) sz_AOP_RRRI where
  size := below_4 (P := fun i => ∀ k, 12 ≤ k → spec_Size.f k (bt (⟨#[84, 65, 66, 118]⟩ : ByteArray) (i : Int)) = some (sz_AOP_RRRI i : Int)) (fun k hk => by rw [bt_AOP_RRRI_0]; exact size_T k (by omega)) (fun k hk => by rw [bt_AOP_RRRI_1]; exact size_A k (by omega)) (fun k hk => by rw [bt_AOP_RRRI_2]; exact size_B k (by omega)) (fun k hk => by rw [bt_AOP_RRRI_3]; exact size_v k (by omega))
  few := below_4 (P := fun i => sz_AOP_RRRI i ≤ 62) (by decide) (by decide) (by decide) (by decide)
  put := below_4 (P := fun i => ∀ k, 12 ≤ k → ∀ v : Int, 0 ≤ v → v < 2 ^ sz_AOP_RRRI i → ∃ t, spec_Put.f k v (bt (⟨#[84, 65, 66, 118]⟩ : ByteArray) (i : Int)) = some t) (fun k hk v h0 h1 => by rw [bt_AOP_RRRI_0]; exact ⟨_, put_T k (by omega) v h0 h1⟩) (fun k hk v h0 h1 => by rw [bt_AOP_RRRI_1]; exact ⟨_, put_A k (by omega) v h0 h1⟩) (fun k hk v h0 h1 => by rw [bt_AOP_RRRI_2]; exact ⟨_, put_B k (by omega) v h0 h1⟩) (fun k hk v h0 h1 => by rw [bt_AOP_RRRI_3]; exact ⟨_, put_v k (by omega) v h0 h1⟩)
theorem word_AOP_RRRI (m : Nat) (code : Int) {f0 f1 f2 f3 : Int} (h0 : 0 ≤ f0) (g0 : f0 < 32) (h1 : 0 ≤ f1) (g1 : f1 < 32) (h2 : 0 ≤ f2) (g2 : f2 < 32) (h3 : 0 ≤ f3) (g3 : f3 < 2) : spec_Word.f (m + 20) (⟨#[65, 79, 80, 95, 82, 82, 82, 73]⟩ : ByteArray) (⟨#[84, 65, 66, 118]⟩ : ByteArray) code [f0, f1, f2, f3] = some (Go.bits .or .u32 (Go.bits .or .u32 (Go.bits .or .u32 (Go.bits .or .u32 code (f0 * 2097152 % 4294967296)) (f1 * 65536 % 4294967296)) (f2 * 2048 % 4294967296)) (f3 * 1 % 4294967296), true) := by
  unfold spec_Word.f
  rw [if_pos (show (([f0, f1, f2, f3] : List Int).length : Int) = (((⟨#[84, 65, 66, 118]⟩ : ByteArray)).size : Int) from rfl)]
  show spec_Word.l0 (m + 19 + 1) code [f0, f1, f2, f3] ((0 : Nat) : Int) (⟨#[65, 79, 80, 95, 82, 82, 82, 73]⟩ : ByteArray) (⟨#[84, 65, 66, 118]⟩ : ByteArray) = _
  rw [word_round (m + 19) _ _ 0 _ _ 5 (by simp) (by decide) (by rw [bt_AOP_RRRI_0]; exact size_T _ (by omega)) (by decide) (by simp)]
  rw [show rd [f0, f1, f2, f3] ((0 : Nat) : Int) = f0 from rfl, bt_AOP_RRRI_0, if_neg (by omega), if_neg (by omega), put_T _ (by omega) f0 h0 g0, Option.bind_some]
  rw [word_round (m + 18) _ _ 1 _ _ 5 (by simp) (by decide) (by rw [bt_AOP_RRRI_1]; exact size_A _ (by omega)) (by decide) (by simp)]
  rw [show rd [f0, f1, f2, f3] ((1 : Nat) : Int) = f1 from rfl, bt_AOP_RRRI_1, if_neg (by omega), if_neg (by omega), put_A _ (by omega) f1 h1 g1, Option.bind_some]
  rw [word_round (m + 17) _ _ 2 _ _ 5 (by simp) (by decide) (by rw [bt_AOP_RRRI_2]; exact size_B _ (by omega)) (by decide) (by simp)]
  rw [show rd [f0, f1, f2, f3] ((2 : Nat) : Int) = f2 from rfl, bt_AOP_RRRI_2, if_neg (by omega), if_neg (by omega), put_B _ (by omega) f2 h2 g2, Option.bind_some]
  rw [word_round (m + 16) _ _ 3 _ _ 1 (by simp) (by decide) (by rw [bt_AOP_RRRI_3]; exact size_v _ (by omega)) (by decide) (by simp)]
  rw [show rd [f0, f1, f2, f3] ((3 : Nat) : Int) = f3 from rfl, bt_AOP_RRRI_3, if_neg (by omega), if_neg (by omega), put_v _ (by omega) f3 h3 g3, Option.bind_some]
  rw [word_end (m + 15) _ _ 4 _ _ rfl]
set_option maxHeartbeats 4000000 in
theorem leaf_AOP_RRRI {code f0 f1 f2 f3 : Int} (h0 : 0 ≤ f0) (g0 : f0 < 32) (h1 : 0 ≤ f1) (g1 : f1 < 32) (h2 : 0 ≤ f2) (g2 : f2 < 32) (h3 : 0 ≤ f3) (g3 : f3 < 2) : ppc64obj_AOP_RRRI.f (code % 4294967296) (f0 % 4294967296) (f1 % 4294967296) (f2 % 4294967296) (f3 % 4294967296) = some (Go.bits .or .u32 (Go.bits .or .u32 (Go.bits .or .u32 (Go.bits .or .u32 code (f0 * 2097152 % 4294967296)) (f1 * 65536 % 4294967296)) (f2 * 2048 % 4294967296)) (f3 * 1 % 4294967296)) := by
  have z0 : ∀ p, 5 ≤ p → tb f0 p = false := fun p hp => tb_small f0 5 p h0 g0 hp
  have z1 : ∀ p, 5 ≤ p → tb f1 p = false := fun p hp => tb_small f1 5 p h1 g1 hp
  have z2 : ∀ p, 5 ≤ p → tb f2 p = false := fun p hp => tb_small f2 5 p h2 g2 hp
  have z3 : ∀ p, 1 ≤ p → tb f3 p = false := fun p hp => tb_small f3 1 p h3 g3 hp
  have mc : ∀ p, tb (code % 4294967296) p = tb code p := tb_mod code
  have m0 : ∀ p, tb (f0 % 4294967296) p = tb f0 p := tb_mod f0
  have m1 : ∀ p, tb (f1 % 4294967296) p = tb f1 p := tb_mod f1
  have m2 : ∀ p, tb (f2 % 4294967296) p = tb f2 p := tb_mod f2
  have m3 : ∀ p, tb (f3 % 4294967296) p = tb f3 p := tb_mod f3
  show some (Go.bits .or .u32 (Go.bits .or .u32 (Go.bits .or .u32 (Go.bits .or .u32 (code % 4294967296) (((Go.bits .and .u32 (f0 % 4294967296) 31) * 2097152) % 4294967296)) (((Go.bits .and .u32 (f1 % 4294967296) 31) * 65536) % 4294967296)) (((Go.bits .and .u32 (f2 % 4294967296) 31) * 2048) % 4294967296)) (Go.bits .and .u32 (f3 % 4294967296) 1)) = _
  refine congrArg some (tb_ext (or32_in _ _).1 (or32_in _ _).2 (or32_in _ _).1 (or32_in _ _).2 (p32 ?_ ?_ ?_ ?_ ?_ ?_ ?_ ?_ ?_ ?_ ?_ ?_ ?_ ?_ ?_ ?_ ?_ ?_ ?_ ?_ ?_ ?_ ?_ ?_ ?_ ?_ ?_ ?_ ?_ ?_ ?_ ?_))
  all_goals simp only [tb_or, tb_and, tb_s0, tb_s1, tb_s2, tb_s3, tb_s4, tb_s5, tb_s6, tb_s7, tb_s8, tb_s9, tb_s10, tb_s11, tb_s12, tb_s13, tb_s14, tb_s15, tb_s16, tb_s17, tb_s18, tb_s19, tb_s20, tb_s21, tb_s22, tb_s23, tb_s24, tb_s25, tb_s26, tb_s27, tb_s28, tb_s29, tb_s30, tb_s31, tb_d1, tb_d2, tb_d3, tb_d4, tb_d5, tb_d6, tb_d7, tb_d8, tb_d9, tb_d10, tb_d11, tb_d12, tb_d13, tb_d14, tb_d15, tb_d16, tb_d17, tb_d18, tb_d19, tb_d20, tb_d21, tb_d22, tb_d23, tb_d24, tb_d25, tb_d26, tb_d27, tb_d28, tb_d29, tb_d30, tb_d31, tb_m1, tb_m2, tb_m3, tb_m4, tb_m5, tb_m6, tb_m7, tb_m8, tb_m9, tb_m10, tb_m11, tb_m12, tb_m13, tb_m14, tb_m15, tb_m16, tb_m17, tb_m18, tb_m19, tb_m20, tb_m21, tb_m22, tb_m23, tb_m24, tb_m25, tb_m26, tb_m27, tb_m28, tb_m29, tb_m30, tb_m31, tb_c1, tb_c3, tb_c15, tb_c31, tb_c32, tb_c65535, tb_c4095, tb_c262143, tb_c67108860, tb_c65532, tb_c67108864, tb_c100663296, tb_c0, z0, z1, z2, z3, mc, m0, m1, m2, m3]
  all_goals simp [z0, z1, z2, z3]
/-! ### LOP_RRR: ATB -/
def sz_LOP_RRR (i : Nat) : Nat := ([5, 5, 5] : List Nat).getD i 0
theorem bt_LOP_RRR_0 : bt (⟨#[65, 84, 66]⟩ : ByteArray) ((0 : Nat) : Int) = 65 := by decide +kernel
theorem bt_LOP_RRR_1 : bt (⟨#[65, 84, 66]⟩ : ByteArray) ((1 : Nat) : Int) = 84 := by decide +kernel
theorem bt_LOP_RRR_2 : bt (⟨#[65, 84, 66]⟩ : ByteArray) ((2 : Nat) : Int) = 66 := by decide +kernel
theorem known_LOP_RRR : Known (⟨#[65, 84, 66]⟩ : ByteArray) sz_LOP_RRR where
  size := below_3 (P := fun i => ∀ k, 12 ≤ k → spec_Size.f k (bt (⟨#[65, 84, 66]⟩ : ByteArray) (i : Int)) = some (sz_LOP_RRR i : Int)) (fun k hk => by rw [bt_LOP_RRR_0]; exact size_A k (by omega)) (fun k hk => by rw [bt_LOP_RRR_1]; exact size_T k (by omega)) (fun k hk => by rw [bt_LOP_RRR_2]; exact size_B k (by omega))
  few := below_3 (P := fun i => sz_LOP_RRR i ≤ 62) (by decide) (by decide) (by decide)
  put := below_3 (P := fun i => ∀ k, 12 ≤ k → ∀ v : Int, 0 ≤ v → v < 2 ^ sz_LOP_RRR i → ∃ t, spec_Put.f k v (bt (⟨#[65, 84, 66]⟩ : ByteArray) (i : Int)) = some t) (fun k hk v h0 h1 => by rw [bt_LOP_RRR_0]; exact ⟨_, put_A k (by omega) v h0 h1⟩) (fun k hk v h0 h1 => by rw [bt_LOP_RRR_1]; exact ⟨_, put_T k (by omega) v h0 h1⟩) (fun k hk v h0 h1 => by rw [bt_LOP_RRR_2]; exact ⟨_, put_B k (by omega) v h0 h1⟩)
theorem word_LOP_RRR (m : Nat) (code : Int) {f0 f1 f2 : Int} (h0 : 0 ≤ f0) (g0 : f0 < 32) (h1 : 0 ≤ f1) (g1 : f1 < 32) (h2 : 0 ≤ f2) (g2 : f2 < 32) : spec_Word.f (m + 20) (⟨#[76, 79, 80, 95, 82, 82, 82]⟩ : ByteArray) (⟨#[65, 84, 66]⟩ : ByteArray) code [f0, f1, f2] = some (Go.bits .or .u32 (Go.bits .or .u32 (Go.bits .or .u32 code (f0 * 65536 % 4294967296)) (f1 * 2097152 % 4294967296)) (f2 * 2048 % 4294967296), true) := by
  unfold spec_Word.f
  rw [if_pos (show (([f0, f1, f2] : List Int).length : Int) = (((⟨#[65, 84, 66]⟩ : ByteArray)).size : Int) from rfl)]
  show spec_Word.l0 (m + 19 + 1) code [f0, f1, f2] ((0 : Nat) : Int) (⟨#[76, 79, 80, 95, 82, 82, 82]⟩ : ByteArray) (⟨#[65, 84, 66]⟩ : ByteArray) = _
  rw [word_round (m + 19) _ _ 0 _ _ 5 (by simp) (by decide) (by rw [bt_LOP_RRR_0]; exact size_A _ (by omega)) (by decide) (by simp)]
  rw [show rd [f0, f1, f2] ((0 : Nat) : Int) = f0 from rfl, bt_LOP_RRR_0, if_neg (by omega), if_neg (by omega), put_A _ (by omega) f0 h0 g0, Option.bind_some]
  rw [word_round (m + 18) _ _ 1 _ _ 5 (by simp) (by decide) (by rw [bt_LOP_RRR_1]; exact size_T _ (by omega)) (by decide) (by simp)]
  rw [show rd [f0, f1, f2] ((1 : Nat) : Int) = f1 from rfl, bt_LOP_RRR_1, if_neg (by omega), if_neg (by omega), put_T _ (by omega) f1 h1 g1, Option.bind_some]
  rw [word_round (m + 17) _ _ 2 _ _ 5 (by simp) (by decide) (by rw [bt_LOP_RRR_2]; exact size_B _ (by omega)) (by decide) (by simp)]
  rw [show rd [f0, f1, f2] ((2 : Nat) : Int) = f2 from rfl, bt_LOP_RRR_2, if_neg (by omega), if_neg (by omega), put_B _ (by omega) f2 h2 g2, Option.bind_some]
  rw [word_end (m + 16) _ _ 3 _ _ rfl]
set_option maxHeartbeats 4000000 in
theorem leaf_LOP_RRR {code f0 f1 f2 : Int} (h0 : 0 ≤ f0) (g0 : f0 < 32) (h1 : 0 ≤ f1) (g1 : f1 < 32) (h2 : 0 ≤ f2) (g2 : f2 < 32) : ppc64obj_LOP_RRR.f (code % 4294967296) (f0 % 4294967296) (f1 % 4294967296) (f2 % 4294967296) = some (Go.bits .or .u32 (Go.bits .or .u32 (Go.bits .or .u32 code (f0 * 65536 % 4294967296)) (f1 * 2097152 % 4294967296)) (f2 * 2048 % 4294967296)) := by
  have z0 : ∀ p, 5 ≤ p → tb f0 p = false := fun p hp => tb_small f0 5 p h0 g0 hp
  have z1 : ∀ p, 5 ≤ p → tb f1 p = false := fun p hp => tb_small f1 5 p h1 g1 hp
  have z2 : ∀ p, 5 ≤ p → tb f2 p = false := fun p hp => tb_small f2 5 p h2 g2 hp
  have mc : ∀ p, tb (code % 4294967296) p = tb code p := tb_mod code
  have m0 : ∀ p, tb (f0 % 4294967296) p = tb f0 p := tb_mod f0
  have m1 : ∀ p, tb (f1 % 4294967296) p = tb f1 p := tb_mod f1
  have m2 : ∀ p, tb (f2 % 4294967296) p = tb f2 p := tb_mod f2
  show some (Go.bits .or .u32 (Go.bits .or .u32 (Go.bits .or .u32 (code % 4294967296) (((Go.bits .and .u32 (f1 % 4294967296) 31) * 2097152) % 4294967296)) (((Go.bits .and .u32 (f0 % 4294967296) 31) * 65536) % 4294967296)) (((Go.bits .and .u32 (f2 % 4294967296) 31) * 2048) % 4294967296)) = _
  refine congrArg some (tb_ext (or32_in _ _).1 (or32_in _ _).2 (or32_in _ _).1 (or32_in _ _).2 (p32 ?_ ?_ ?_ ?_ ?_ ?_ ?_ ?_ ?_ ?_ ?_ ?_ ?_ ?_ ?_ ?_ ?_ ?_ ?_ ?_ ?_ ?_ ?_ ?_ ?_ ?_ ?_ ?_ ?_ ?_ ?_ ?_))
  all_goals simp only [tb_or, tb_and, tb_s0, tb_s1, tb_s2, tb_s3, tb_s4, tb_s5, tb_s6, tb_s7, tb_s8, tb_s9, tb_s10, tb_s11, tb_s12, tb_s13, tb_s14, tb_s15, tb_s16, tb_s17, tb_s18, tb_s19, tb_s20, tb_s21, tb_s22, tb_s23, tb_s24, tb_s25, tb_s26, tb_s27, tb_s28, tb_s29, tb_s30, tb_s31, tb_d1, tb_d2, tb_d3, tb_d4, tb_d5, tb_d6, tb_d7, tb_d8, tb_d9, tb_d10, tb_d11, tb_d12, tb_d13, tb_d14, tb_d15, tb_d16, tb_d17, tb_d18, tb_d19, tb_d20, tb_d21, tb_d22, tb_d23, tb_d24, tb_d25, tb_d26, tb_d27, tb_d28, tb_d29, tb_d30, tb_d31, tb_m1, tb_m2, tb_m3, tb_m4, tb_m5, tb_m6, tb_m7, tb_m8, tb_m9, tb_m10, tb_m11, tb_m12, tb_m13, tb_m14, tb_m15, tb_m16, tb_m17, tb_m18, tb_m19, tb_m20, tb_m21, tb_m22, tb_m23, tb_m24, tb_m25, tb_m26, tb_m27, tb_m28, tb_m29, tb_m30, tb_m31, tb_c1, tb_c3, tb_c15, tb_c31, tb_c32, tb_c65535, tb_c4095, tb_c262143, tb_c67108860, tb_c65532, tb_c67108864, tb_c100663296, tb_c0, z0, z1, z2, mc, m0, m1, m2]
  all_goals simp [z0, z1, z2]
/-! ### LOP_IRR: ATu -/
def sz_LOP_IRR (i : Nat) : Nat := ([5, 5, 16] : List Nat).getD i 0
theorem bt_LOP_IRR_0 : bt (⟨#[65, 84, 117]⟩ : ByteArray) ((0 : Nat) : Int) = 65 := by decide +kernel
theorem bt_LOP_IRR_1 : bt (⟨#[65, 84, 117]⟩ : ByteArray) ((1 : Nat) : Int) = 84 := by decide +kernel
theorem bt_LOP_IRR_2 : bt (⟨#[65, 84, 117]⟩ : ByteArray) ((2 : Nat) : Int) = 117 := by decide +kernel
theorem known_LOP_IRR : Known (⟨#[65, 84, 117]⟩ : ByteArray) sz_LOP_IRR where
  size := below_3 (P := fun i => ∀ k, 12 ≤ k → spec_Size.f k (bt (⟨#[65, 84, 117]⟩ : ByteArray) (i : Int)) = some (sz_LOP_IRR i : Int)) (fun k hk => by rw [bt_LOP_IRR_0]; exact size_A k (by omega)) (fun k hk => by rw [bt_LOP_IRR_1]; exact size_T k (by omega)) (fun k hk => by rw [bt_LOP_IRR_2]; exact size_u k (by omega))
  few := below_3 (P := fun i => sz_LOP_IRR i ≤ 62) (by decide) (by decide) (by decide)
  put := below_3 (P := fun i => ∀ k, 12 ≤ k → ∀ v : Int, 0 ≤ v → v < 2 ^ sz_LOP_IRR i → ∃ t, spec_Put.f k v (bt (⟨#[65, 84, 117]⟩ : ByteArray) (i : Int)) = some t) (fun k hk v h0 h1 => by rw [bt_LOP_IRR_0]; exact ⟨_, put_A k (by omega) v h0 h1⟩) (fun k hk v h0 h1 => by rw [bt_LOP_IRR_1]; exact ⟨_, put_T k (by omega) v h0 h1⟩) (fun k hk v h0 h1 => by rw [bt_LOP_IRR_2]; exact ⟨_, put_u k (by omega) v h0 h1⟩)
theorem word_LOP_IRR (m : Nat) (code : Int) {f0 f1 f2 : Int} (h0 : 0 ≤ f0) (g0 : f0 < 32) (h1 : 0 ≤ f1) (g1 : f1 < 32) (h2 : 0 ≤ f2) (g2 : f2 < 65536) : spec_Word.f (m + 20) (⟨#[76, 79, 80, 95, 73, 82, 82]⟩ : ByteArray) (⟨#[65, 84, 117]⟩ : ByteArray) code [f0, f1, f2] = some (Go.bits .or .u32 (Go.bits .or .u32 (Go.bits .or .u32 code (f0 * 65536 % 4294967296)) (f1 * 2097152 % 4294967296)) (f2 * 1 % 4294967296), true) := by
  unfold spec_Word.f
  rw [if_pos (show (([f0, f1, f2] : List Int).length : Int) = (((⟨#[65, 84, 117]⟩ : ByteArray)).size : Int) from rfl)]
  show spec_Word.l0 (m + 19 + 1) code [f0, f1, f2] ((0 : Nat) : Int) (⟨#[76, 79, 80, 95, 73, 82, 82]⟩ : ByteArray) (⟨#[65, 84, 117]⟩ : ByteArray) = _
  rw [word_round (m + 19) _ _ 0 _ _ 5 (by simp) (by decide) (by rw [bt_LOP_IRR_0]; exact size_A _ (by omega)) (by decide) (by simp)]
  rw [show rd [f0, f1, f2] ((0 : Nat) : Int) = f0 from rfl, bt_LOP_IRR_0, if_neg (by omega), if_neg (by omega), put_A _ (by omega) f0 h0 g0, Option.bind_some]
  rw [word_round (m + 18) _ _ 1 _ _ 5 (by simp) (by decide) (by rw [bt_LOP_IRR_1]; exact size_T _ (by omega)) (by decide) (by simp)]
  rw [show rd [f0, f1, f2] ((1 : Nat) : Int) = f1 from rfl, bt_LOP_IRR_1, if_neg (by omega), if_neg (by omega), put_T _ (by omega) f1 h1 g1, Option.bind_some]
  rw [word_round (m + 17) _ _ 2 _ _ 16 (by simp) (by decide) (by rw [bt_LOP_IRR_2]; exact size_u _ (by omega)) (by decide) (by simp)]
  rw [show rd [f0, f1, f2] ((2 : Nat) : Int) = f2 from rfl, bt_LOP_IRR_2, if_neg (by omega), if_neg (by omega), put_u _ (by omega) f2 h2 g2, Option.bind_some]
  rw [word_end (m + 16) _ _ 3 _ _ rfl]
set_option maxHeartbeats 4000000 in
theorem leaf_LOP_IRR {code f0 f1 f2 : Int} (h0 : 0 ≤ f0) (g0 : f0 < 32) (h1 : 0 ≤ f1) (g1 : f1 < 32) (h2 : 0 ≤ f2) (g2 : f2 < 65536) : ppc64obj_LOP_IRR.f (code % 4294967296) (f0 % 4294967296) (f1 % 4294967296) (f2 % 4294967296) = some (Go.bits .or .u32 (Go.bits .or .u32 (Go.bits .or .u32 code (f0 * 65536 % 4294967296)) (f1 * 2097152 % 4294967296)) (f2 * 1 % 4294967296)) := by
  have z0 : ∀ p, 5 ≤ p → tb f0 p = false := fun p hp => tb_small f0 5 p h0 g0 hp
  have z1 : ∀ p, 5 ≤ p → tb f1 p = false := fun p hp => tb_small f1 5 p h1 g1 hp
  have z2 : ∀ p, 16 ≤ p → tb f2 p = false := fun p hp => tb_small f2 16 p h2 g2 hp
  have mc : ∀ p, tb (code % 4294967296) p = tb code p := tb_mod code
  have m0 : ∀ p, tb (f0 % 4294967296) p = tb f0 p := tb_mod f0
  have m1 : ∀ p, tb (f1 % 4294967296) p = tb f1 p := tb_mod f1
  have m2 : ∀ p, tb (f2 % 4294967296) p = tb f2 p := tb_mod f2
  show some (Go.bits .or .u32 (Go.bits .or .u32 (Go.bits .or .u32 (code % 4294967296) (((Go.bits .and .u32 (f1 % 4294967296) 31) * 2097152) % 4294967296)) (((Go.bits .and .u32 (f0 % 4294967296) 31) * 65536) % 4294967296)) (Go.bits .and .u32 (f2 % 4294967296) 65535)) = _
  refine congrArg some (tb_ext (or32_in _ _).1 (or32_in _ _).2 (or32_in _ _).1 (or32_in _ _).2 (p32 ?_ ?_ ?_ ?_ ?_ ?_ ?_ ?_ ?_ ?_ ?_ ?_ ?_ ?_ ?_ ?_ ?_ ?_ ?_ ?_ ?_ ?_ ?_ ?_ ?_ ?_ ?_ ?_ ?_ ?_ ?_ ?_))
  all_goals simp only [tb_or, tb_and, tb_s0, tb_s1, tb_s2, tb_s3, tb_s4, tb_s5, tb_s6, tb_s7, tb_s8, tb_s9, tb_s10, tb_s11, tb_s12, tb_s13, tb_s14, tb_s15, tb_s16, tb_s17, tb_s18, tb_s19, tb_s20, tb_s21, tb_s22, tb_s23, tb_s24, tb_s25, tb_s26, tb_s27, tb_s28, tb_s29, tb_s30, tb_s31, tb_d1, tb_d2, tb_d3, tb_d4, tb_d5, tb_d6, tb_d7, tb_d8, tb_d9, tb_d10, tb_d11, tb_d12, tb_d13, tb_d14, tb_d15, tb_d16, tb_d17, tb_d18, tb_d19, tb_d20, tb_d21, tb_d22, tb_d23, tb_d24, tb_d25, tb_d26, tb_d27, tb_d28, tb_d29, tb_d30, tb_d31, tb_m1, tb_m2, tb_m3, tb_m4, tb_m5, tb_m6, tb_m7, tb_m8, tb_m9, tb_m10, tb_m11, tb_m12, tb_m13, tb_m14, tb_m15, tb_m16, tb_m17, tb_m18, tb_m19, tb_m20, tb_m21, tb_m22, tb_m23, tb_m24, tb_m25, tb_m26, tb_m27, tb_m28, tb_m29, tb_m30, tb_m31, tb_c1, tb_c3, tb_c15, tb_c31, tb_c32, tb_c65535, tb_c4095, tb_c262143, tb_c67108860, tb_c65532, tb_c67108864, tb_c100663296, tb_c0, z0, z1, z2, mc, m0, m1, m2]
  all_goals simp [z0, z1, z2]
/-! ### OP_BCR: Oa -/
def sz_OP_BCR (i : Nat) : Nat := ([5, 5] : List Nat).getD i 0
theorem bt_OP_BCR_0 : bt (⟨#[79, 97]⟩ : ByteArray) ((0 : Nat) : Int) = 79 := by decide +kernel
theorem bt_OP_BCR_1 : bt (⟨#[79, 97]⟩ : ByteArray) ((1 : Nat) : Int) = 97 := by decide +kernel
theorem known_OP_BCR : Known (⟨#[79, 97]⟩ : ByteArray) sz_OP_BCR where
  size := below_2 (P := fun i => ∀ k, 12 ≤ k → spec_Size.f k (bt (⟨#[79, 97]⟩ : ByteArray) (i : Int)) = some (sz_OP_BCR i : Int)) (fun k hk => by rw [bt_OP_BCR_0]; exact size_O k (by omega)) (fun k hk => by rw [bt_OP_BCR_1]; exact size_a k (by omega))
  few := below_2 (P := fun i => sz_OP_BCR i ≤ 62) (by decide) (by decide)
  put := below_2 (P := fun i => ∀ k, 12 ≤ k → ∀ v : Int, 0 ≤ v → v < 2 ^ sz_OP_BCR i → ∃ t, spec_Put.f k v (bt (⟨#[79, 97]⟩ : ByteArray) (i : Int)) = some t) (fun k hk v h0 h1 => by rw [bt_OP_BCR_0]; exact ⟨_, put_O k (by omega) v h0 h1⟩) (fun k hk v h0 h1 => by rw [bt_OP_BCR_1]; exact ⟨_, put_a k (by omega) v h0 h1⟩)
theorem word_OP_BCR (m : Nat) (code : Int) {f0 f1 : Int} (h0 : 0 ≤ f0) (g0 : f0 < 32) (h1 : 0 ≤ f1) (g1 : f1 < 32) : spec_Word.f (m + 20) (⟨#[79, 80, 95, 66, 67, 82]⟩ : ByteArray) (⟨#[79, 97]⟩ : ByteArray) code [f0, f1] = some (Go.bits .or .u32 (Go.bits .or .u32 code (f0 * 2097152 % 4294967296)) (f1 * 65536 % 4294967296), true) := by
  unfold spec_Word.f
  rw [if_pos (show (([f0, f1] : List Int).length : Int) = (((⟨#[79, 97]⟩ : ByteArray)).size : Int) from rfl)]
  show spec_Word.l0 (m + 19 + 1) code [f0, f1] ((0 : Nat) : Int) (⟨#[79, 80, 95, 66, 67, 82]⟩ : ByteArray) (⟨#[79, 97]⟩ : ByteArray) = _
  rw [word_round (m + 19) _ _ 0 _ _ 5 (by simp) (by decide) (by rw [bt_OP_BCR_0]; exact size_O _ (by omega)) (by decide) (by simp)]
  rw [show rd [f0, f1] ((0 : Nat) : Int) = f0 from rfl, bt_OP_BCR_0, if_neg (by omega), if_neg (by omega), put_O _ (by omega) f0 h0 g0, Option.bind_some]
  rw [word_round (m + 18) _ _ 1 _ _ 5 (by simp) (by decide) (by rw [bt_OP_BCR_1]; exact size_a _ (by omega)) (by decide) (by simp)]
  rw [show rd [f0, f1] ((1 : Nat) : Int) = f1 from rfl, bt_OP_BCR_1, if_neg (by omega), if_neg (by omega), put_a _ (by omega) f1 h1 g1, Option.bind_some]
  rw [word_end (m + 17) _ _ 2 _ _ rfl]
set_option maxHeartbeats 4000000 in
theorem leaf_OP_BCR {code f0 f1 : Int} (h0 : 0 ≤ f0) (g0 : f0 < 32) (h1 : 0 ≤ f1) (g1 : f1 < 32) : ppc64obj_OP_BCR.f (code % 4294967296) (f0 % 4294967296) (f1 % 4294967296) = some (Go.bits .or .u32 (Go.bits .or .u32 code (f0 * 2097152 % 4294967296)) (f1 * 65536 % 4294967296)) := by
  have z0 : ∀ p, 5 ≤ p → tb f0 p = false := fun p hp => tb_small f0 5 p h0 g0 hp
  have z1 : ∀ p, 5 ≤ p → tb f1 p = false := fun p hp => tb_small f1 5 p h1 g1 hp
  have mc : ∀ p, tb (code % 4294967296) p = tb code p := tb_mod code
  have m0 : ∀ p, tb (f0 % 4294967296) p = tb f0 p := tb_mod f0
  have m1 : ∀ p, tb (f1 % 4294967296) p = tb f1 p := tb_mod f1
  show some (Go.bits .or .u32 (Go.bits .or .u32 (code % 4294967296) (((Go.bits .and .u32 (f0 % 4294967296) 31) * 2097152) % 4294967296)) (((Go.bits .and .u32 (f1 % 4294967296) 31) * 65536) % 4294967296)) = _
  refine congrArg some (tb_ext (or32_in _ _).1 (or32_in _ _).2 (or32_in _ _).1 (or32_in _ _).2 (p32 ?_ ?_ ?_ ?_ ?_ ?_ ?_ ?_ ?_ ?_ ?_ ?_ ?_ ?_ ?_ ?_ ?_ ?_ ?_ ?_ ?_ ?_ ?_ ?_ ?_ ?_ ?_ ?_ ?_ ?_ ?_ ?_))
  all_goals simp only [tb_or, tb_and, tb_s0, tb_s1, tb_s2, tb_s3, tb_s4, tb_s5, tb_s6, tb_s7, tb_s8, tb_s9, tb_s10, tb_s11, tb_s12, tb_s13, tb_s14, tb_s15, tb_s16, tb_s17, tb_s18, tb_s19, tb_s20, tb_s21, tb_s22, tb_s23, tb_s24, tb_s25, tb_s26, tb_s27, tb_s28, tb_s29, tb_s30, tb_s31, tb_d1, tb_d2, tb_d3, tb_d4, tb_d5, tb_d6, tb_d7, tb_d8, tb_d9, tb_d10, tb_d11, tb_d12, tb_d13, tb_d14, tb_d15, tb_d16, tb_d17, tb_d18, tb_d19, tb_d20, tb_d21, tb_d22, tb_d23, tb_d24, tb_d25, tb_d26, tb_d27, tb_d28, tb_d29, tb_d30, tb_d31, tb_m1, tb_m2, tb_m3, tb_m4, tb_m5, tb_m6, tb_m7, tb_m8, tb_m9, tb_m10, tb_m11, tb_m12, tb_m13, tb_m14, tb_m15, tb_m16, tb_m17, tb_m18, tb_m19, tb_m20, tb_m21, tb_m22, tb_m23, tb_m24, tb_m25, tb_m26, tb_m27, tb_m28, tb_m29, tb_m30, tb_m31, tb_c1, tb_c3, tb_c15, tb_c31, tb_c32, tb_c65535, tb_c4095, tb_c262143, tb_c67108860, tb_c65532, tb_c67108864, tb_c100663296, tb_c0, z0, z1, mc, m0, m1]
  all_goals simp [z0, z1]
/-! ### OP_RLW: AThme -/
def sz_OP_RLW (i : Nat) : Nat := ([5, 5, 5, 5, 5] : List Nat).getD i 0
theorem bt_OP_RLW_0 : bt (⟨#[65, 84, 104, 109, 101]⟩ : ByteArray) ((0 : Nat) : Int) = 65 := by decide +kernel
theorem bt_OP_RLW_1 : bt (⟨#[65, 84, 104, 109, 101]⟩ : ByteArray) ((1 : Nat) : Int) = 84 := by decide +kernel
theorem bt_OP_RLW_2 : bt (⟨#[65, 84, 104, 109, 101]⟩ : ByteArray) ((2 : Nat) : Int) = 104 := by decide +kernel
theorem bt_OP_RLW_3 : bt (⟨#[65, 84, 104, 109, 101]⟩ : ByteArray) ((3 : Nat) : Int) = 109 := by decide +kernel
theorem bt_OP_RLW_4 : bt (⟨#[65, 84, 104, 109, 101]⟩ : ByteArray) ((4 : Nat) : Int) = 101 := by decide +kernel
theorem known_OP_RLW : Known (⟨#[65, 84, 104, 109, 101]⟩ : ByteArray) sz_OP_RLW where
  size := below_5 (P := fun i => ∀ k, 12 ≤ k → spec_Size.f k (bt (⟨#[65, 84, 104, 109, 101]⟩ : ByteArray) (i : Int)) = some (sz_OP_RLW i : Int)) (fun k hk => by rw [bt_OP_RLW_0]; exact size_A k (by omega)) (fun k hk => by rw [bt_OP_RLW_1]; exact size_T k (by omega)) (fun k hk => by rw [bt_OP_RLW_2]; exact size_h k (by omega)) (fun k hk => by rw [bt_OP_RLW_3]; exact size_m k (by omega)) (fun k hk => by rw [bt_OP_RLW_4]; exact size_e k (by omega))
  few := below_5 (P := fun i => sz_OP_RLW i ≤ 62) (by decide) (by decide) (by decide) (by decide) (by decide)
  put := below_5 (P := fun i => ∀ k, 12 ≤ k → ∀ v : Int, 0 ≤ v → v < 2 ^ sz_OP_RLW i → ∃ t, spec_Put.f k v (bt (⟨#[65, 84, 104, 109, 101]⟩ : ByteArray) (i : Int)) = some t) (fun k hk v h0 h1 => by rw [bt_OP_RLW_0]; exact ⟨_, put_A k (by omega) v h0 h1⟩) (fun k hk v h0 h1 => by rw [bt_OP_RLW_1]; exact ⟨_, put_T k (by omega) v h0 h1⟩) (fun k hk v h0 h1 => by rw [bt_OP_RLW_2]; exact ⟨_, put_h k (by omega) v h0 h1⟩) (fun k hk v h0 h1 => by rw [bt_OP_RLW_3]; exact ⟨_, put_m k (by omega) v h0 h1⟩) (fun k hk v h0 h1 => by rw [bt_OP_RLW_4]; exact ⟨_, put_e k (by omega) v h0 h1⟩)
theorem word_OP_RLW (m : Nat) (code : Int) {f0 f1 f2 f3 f4 : Int} (h0 : 0 ≤ f0) (g0 : f0 < 32) (h1 : 0 ≤ f1) (g1 : f1 < 32) (h2 : 0 ≤ f2) (g2 : f2 < 32) (h3 : 0 ≤ f3) (g3 : f3 < 32) (h4 : 0 ≤ f4) (g4 : f4 < 32) : spec_Word.f (m + 20) (⟨#[79, 80, 95, 82, 76, 87]⟩ : ByteArray) (⟨#[65, 84, 104, 109, 101]⟩ : ByteArray) code [f0, f1, f2, f3, f4] = some (Go.bits .or .u32 (Go.bits .or .u32 (Go.bits .or .u32 (Go.bits .or .u32 (Go.bits .or .u32 code (f0 * 65536 % 4294967296)) (f1 * 2097152 % 4294967296)) (f2 * 2048 % 4294967296)) (f3 * 64 % 4294967296)) (f4 * 2 % 4294967296), true) := by
  unfold spec_Word.f
  rw [if_pos (show (([f0, f1, f2, f3, f4] : List Int).length : Int) = (((⟨#[65, 84, 104, 109, 101]⟩ : ByteArray)).size : Int) from rfl)]
  show spec_Word.l0 (m + 19 + 1) code [f0, f1, f2, f3, f4] ((0 : Nat) : Int) (⟨#[79, 80, 95, 82, 76, 87]⟩ : ByteArray) (⟨#[65, 84, 104, 109, 101]⟩ : ByteArray) = _
  rw [word_round (m + 19) _ _ 0 _ _ 5 (by simp) (by decide) (by rw [bt_OP_RLW_0]; exact size_A _ (by omega)) (by decide) (by simp)]
  rw [show rd [f0, f1, f2, f3, f4] ((0 : Nat) : Int) = f0 from rfl, bt_OP_RLW_0, if_neg (by omega), if_neg (by omega), put_A _ (by omega) f0 h0 g0, Option.bind_some]
  rw [word_round (m + 18) _ _ 1 _ _ 5 (by simp) (by decide) (by rw [bt_OP_RLW_1]; exact size_T _ (by omega)) (by decide) (by simp)]
  rw [show rd [f0, f1, f2, f3, f4] ((1 : Nat) : Int) = f1 from rfl, bt_OP_RLW_1, if_neg (by omega), if_neg (by omega), put_T _ (by omega) f1 h1 g1, Option.bind_some]
  rw [word_round (m + 17) _ _ 2 _ _ 5 (by simp) (by decide) (by rw [bt_OP_RLW_2]; exact size_h _ (by omega)) (by decide) (by simp)]
  rw [show rd [f0, f1, f2, f3, f4] ((2 : Nat) : Int) = f2 from rfl, bt_OP_RLW_2, if_neg (by omega), if_neg (by omega), put_h _ (by omega) f2 h2 g2, Option.bind_some]
  rw [word_round (m + 16) _ _ 3 _ _ 5 (by simp) (by decide) (by rw [bt_OP_RLW_3]; exact size_m _ (by omega)) (by decide) (by simp)]
  rw [show rd [f0, f1, f2, f3, f4] ((3 : Nat) : Int) = f3 from rfl, bt_OP_RLW_3, if_neg (by omega), if_neg (by omega), put_m _ (by omega) f3 h3 g3, Option.bind_some]
  rw [word_round (m + 15) _ _ 4 _ _ 5 (by simp) (by decide) (by rw [bt_OP_RLW_4]; exact size_e _ (by omega)) (by decide) (by simp)]
  rw [show rd [f0, f1, f2, f3, f4] ((4 : Nat) : Int) = f4 from rfl, bt_OP_RLW_4, if_neg (by omega), if_neg (by omega), put_e _ (by omega) f4 h4 g4, Option.bind_some]
  rw [word_end (m + 14) _ _ 5 _ _ rfl]
set_option maxHeartbeats 4000000 in
theorem leaf_OP_RLW {code f0 f1 f2 f3 f4 : Int} (h0 : 0 ≤ f0) (g0 : f0 < 32) (h1 : 0 ≤ f1) (g1 : f1 < 32) (h2 : 0 ≤ f2) (g2 : f2 < 32) (h3 : 0 ≤ f3) (g3 : f3 < 32) (h4 : 0 ≤ f4) (g4 : f4 < 32) : ppc64obj_OP_RLW.f (code % 4294967296) (f0 % 4294967296) (f1 % 4294967296) (f2 % 4294967296) (f3 % 4294967296) (f4 % 4294967296) = some (Go.bits .or .u32 (Go.bits .or .u32 (Go.bits .or .u32 (Go.bits .or .u32 (Go.bits .or .u32 code (f0 * 65536 % 4294967296)) (f1 * 2097152 % 4294967296)) (f2 * 2048 % 4294967296)) (f3 * 64 % 4294967296)) (f4 * 2 % 4294967296)) := by
  have z0 : ∀ p, 5 ≤ p → tb f0 p = false := fun p hp => tb_small f0 5 p h0 g0 hp
  have z1 : ∀ p, 5 ≤ p → tb f1 p = false := fun p hp => tb_small f1 5 p h1 g1 hp
  have z2 : ∀ p, 5 ≤ p → tb f2 p = false := fun p hp => tb_small f2 5 p h2 g2 hp
  have z3 : ∀ p, 5 ≤ p → tb f3 p = false := fun p hp => tb_small f3 5 p h3 g3 hp
  have z4 : ∀ p, 5 ≤ p → tb f4 p = false := fun p hp => tb_small f4 5 p h4 g4 hp
  have mc : ∀ p, tb (code % 4294967296) p = tb code p := tb_mod code
  have m0 : ∀ p, tb (f0 % 4294967296) p = tb f0 p := tb_mod f0
  have m1 : ∀ p, tb (f1 % 4294967296) p = tb f1 p := tb_mod f1
  have m2 : ∀ p, tb (f2 % 4294967296) p = tb f2 p := tb_mod f2
  have m3 : ∀ p, tb (f3 % 4294967296) p = tb f3 p := tb_mod f3
  have m4 : ∀ p, tb (f4 % 4294967296) p = tb f4 p := tb_mod f4
  show some (Go.bits .or .u32 (Go.bits .or .u32 (Go.bits .or .u32 (Go.bits .or .u32 (Go.bits .or .u32 (code % 4294967296) (((Go.bits .and .u32 (f1 % 4294967296) 31) * 2097152) % 4294967296)) (((Go.bits .and .u32 (f0 % 4294967296) 31) * 65536) % 4294967296)) (((Go.bits .and .u32 (f2 % 4294967296) 31) * 2048) % 4294967296)) (((Go.bits .and .u32 (f3 % 4294967296) 31) * 64) % 4294967296)) (((Go.bits .and .u32 (f4 % 4294967296) 31) * 2) % 4294967296)) = _
  refine congrArg some (tb_ext (or32_in _ _).1 (or32_in _ _).2 (or32_in _ _).1 (or32_in _ _).2 (p32 ?_ ?_ ?_ ?_ ?_ ?_ ?_ ?_ ?_ ?_ ?_ ?_ ?_ ?_ ?_ ?_ ?_ ?_ ?_ ?_ ?_ ?_ ?_ ?_ ?_ ?_ ?_ ?_ ?_ ?_ ?_ ?_))
  all_goals simp only [tb_or, tb_and, tb_s0, tb_s1, tb_s2, tb_s3, tb_s4, tb_s5, tb_s6, tb_s7, tb_s8, tb_s9, tb_s10, tb_s11, tb_s12, tb_s13, tb_s14, tb_s15, tb_s16, tb_s17, tb_s18, tb_s19, tb_s20, tb_s21, tb_s22, tb_s23, tb_s24, tb_s25, tb_s26, tb_s27, tb_s28, tb_s29, tb_s30, tb_s31, tb_d1, tb_d2, tb_d3, tb_d4, tb_d5, tb_d6, tb_d7, tb_d8, tb_d9, tb_d10, tb_d11, tb_d12, tb_d13, tb_d14, tb_d15, tb_d16, tb_d17, tb_d18, tb_d19, tb_d20, tb_d21, tb_d22, tb_d23, tb_d24, tb_d25, tb_d26, tb_d27, tb_d28, tb_d29, tb_d30, tb_d31, tb_m1, tb_m2, tb_m3, tb_m4, tb_m5, tb_m6, tb_m7, tb_m8, tb_m9, tb_m10, tb_m11, tb_m12, tb_m13, tb_m14, tb_m15, tb_m16, tb_m17, tb_m18, tb_m19, tb_m20, tb_m21, tb_m22, tb_m23, tb_m24, tb_m25, tb_m26, tb_m27, tb_m28, tb_m29, tb_m30, tb_m31, tb_c1, tb_c3, tb_c15, tb_c31, tb_c32, tb_c65535, tb_c4095, tb_c262143, tb_c67108860, tb_c65532, tb_c67108864, tb_c100663296, tb_c0, z0, z1, z2, z3, z4, mc, m0, m1, m2, m3, m4]
  all_goals simp [z0, z1, z2, z3, z4]
/-! ### AOP_ISEL: TABb -/
def sz_AOP_ISEL (i : Nat) : Nat := ([5, 5, 5, 5] : List Nat).getD i 0
theorem bt_AOP_ISEL_0 : bt (⟨#[84, 65, 66, 98]⟩ : ByteArray) ((0 : Nat) : Int) = 84 := by decide +kernel
theorem bt_AOP_ISEL_1 : bt (⟨#[84, 65, 66, 98]⟩ : ByteArray) ((1 : Nat) : Int) = 65 := by decide +kernel
theorem bt_AOP_ISEL_2 : bt (⟨#[84, 65, 66, 98]⟩ : ByteArray) ((2 : Nat) : Int) = 66 := by decide +kernel
theorem bt_AOP_ISEL_3 : bt (⟨#[84, 65, 66, 98]⟩ : ByteArray) ((3 : Nat) : Int) = 98 := by decide +kernel
theorem known_AOP_ISEL : Known (⟨#[84, 65, 66, 98]⟩ : ByteArray) sz_AOP_ISEL where
  size := below_4 (P := fun i => ∀ k, 12 ≤ k → spec_Size.f k (bt (⟨#[84, 65, 66, 98]⟩ : ByteArray) (i : Int)) = some (sz_AOP_ISEL i : Int)) (fun k hk => by rw [bt_AOP_ISEL_0]; exact size_T k (by omega)) (fun k hk => by rw [bt_AOP_ISEL_1]; exact size_A k (by omega)) (fun k hk => by rw [bt_AOP_ISEL_2]; exact size_B k (by omega)) (fun k hk => by rw [bt_AOP_ISEL_3]; exact size_b k (by omega))
  few := below_4 (P := fun i => sz_AOP_ISEL i ≤ 62) (by decide) (by decide) (by decide) (by decide)
  put := below_4 (P := fun i => ∀ k, 12 ≤ k → ∀ v : Int, 0 ≤ v → v < 2 ^ sz_AOP_ISEL i → ∃ t, spec_Put.f k v (bt (⟨#[84, 65, 66, 98]⟩ : ByteArray) (i : Int)) = some t) (fun k hk v h0 h1 => by rw [bt_AOP_ISEL_0]; exact ⟨_, put_T k (by omega) v h0 h1⟩) (fun k hk v h0 h1 => by rw [bt_AOP_ISEL_1]; exact ⟨_, put_A k (by omega) v h0 h1⟩) (fun k hk v h0 h1 => by rw [bt_AOP_ISEL_2]; exact ⟨_, put_B k (by omega) v h0 h1⟩) (fun k hk v h0 h1 => by rw [bt_AOP_ISEL_3]; exact ⟨_, put_b k (by omega) v h0 h1⟩)
theorem word_AOP_ISEL (m : Nat) (code : Int) {f0 f1 f2 f3 : Int} (h0 : 0 ≤ f0) (g0 : f0 < 32) (h1 : 0 ≤ f1) (g1 : f1 < 32) (h2 : 0 ≤ f2) (g2 : f2 < 32) (h3 : 0 ≤ f3) (g3 : f3 < 32) : spec_Word.f (m + 20) (⟨#[65, 79, 80, 95, 73, 83, 69, 76]⟩ : ByteArray) (⟨#[84, 65, 66, 98]⟩ : ByteArray) code [f0, f1, f2, f3] = some (Go.bits .or .u32 (Go.bits .or .u32 (Go.bits .or .u32 (Go.bits .or .u32 code (f0 * 2097152 % 4294967296)) (f1 * 65536 % 4294967296)) (f2 * 2048 % 4294967296)) (f3 * 64 % 4294967296), true) := by
  unfold spec_Word.f
  rw [if_pos (show (([f0, f1, f2, f3] : List Int).length : Int) = (((⟨#[84, 65, 66, 98]⟩ : ByteArray)).size : Int) from rfl)]
  show spec_Word.l0 (m + 19 + 1) code [f0, f1, f2, f3] ((0 : Nat) : Int) (⟨#[65, 79, 80, 95, 73, 83, 69, 76]⟩ : ByteArray) (⟨#[84, 65, 66, 98]⟩ : ByteArray) = _
  rw [word_round (m + 19) _ _ 0 _ _ 5 (by simp) (by decide) (by rw [bt_AOP_ISEL_0]; exact size_T _ (by omega)) (by decide) (by simp)]
  rw [show rd [f0, f1, f2, f3] ((0 : Nat) : Int) = f0 from rfl, bt_AOP_ISEL_0, if_neg (by omega), if_neg (by omega), put_T _ (by omega) f0 h0 g0, Option.bind_some]
  rw [word_round (m + 18) _ _ 1 _ _ 5 (by simp) (by decide) (by rw [bt_AOP_ISEL_1]; exact size_A _ (by omega)) (by decide) (by simp)]
  rw [show rd [f0, f1, f2, f3] ((1 : Nat) : Int) = f1 from rfl, bt_AOP_ISEL_1, if_neg (by omega), if_neg (by omega), put_A _ (by omega) f1 h1 g1, Option.bind_some]
  rw [word_round (m + 17) _ _ 2 _ _ 5 (by simp) (by decide) (by rw [bt_AOP_ISEL_2]; exact size_B _ (by omega)) (by decide) (by simp)]
  rw [show rd [f0, f1, f2, f3] ((2 : Nat) : Int) = f2 from rfl, bt_AOP_ISEL_2, if_neg (by omega), if_neg (by omega), put_B _ (by omega) f2 h2 g2, Option.bind_some]
  rw [word_round (m + 16) _ _ 3 _ _ 5 (by simp) (by decide) (by rw [bt_AOP_ISEL_3]; exact size_b _ (by omega)) (by decide) (by simp)]
  rw [show rd [f0, f1, f2, f3] ((3 : Nat) : Int) = f3 from rfl, bt_AOP_ISEL_3, if_neg (by omega), if_neg (by omega), put_b _ (by omega) f3 h3 g3, Option.bind_some]
  rw [word_end (m + 15) _ _ 4 _ _ rfl]
set_option maxHeartbeats 4000000 in
theorem leaf_AOP_ISEL {code f0 f1 f2 f3 : Int} (h0 : 0 ≤ f0) (g0 : f0 < 32) (h1 : 0 ≤ f1) (g1 : f1 < 32) (h2 : 0 ≤ f2) (g2 : f2 < 32) (h3 : 0 ≤ f3) (g3 : f3 < 32) : ppc64obj_AOP_ISEL.f (code % 4294967296) (f0 % 4294967296) (f1 % 4294967296) (f2 % 4294967296) (f3 % 4294967296) = some (Go.bits .or .u32 (Go.bits .or .u32 (Go.bits .or .u32 (Go.bits .or .u32 code (f0 * 2097152 % 4294967296)) (f1 * 65536 % 4294967296)) (f2 * 2048 % 4294967296)) (f3 * 64 % 4294967296)) := by
  have z0 : ∀ p, 5 ≤ p → tb f0 p = false := fun p hp => tb_small f0 5 p h0 g0 hp
  have z1 : ∀ p, 5 ≤ p → tb f1 p = false := fun p hp => tb_small f1 5 p h1 g1 hp
  have z2 : ∀ p, 5 ≤ p → tb f2 p = false := fun p hp => tb_small f2 5 p h2 g2 hp
  have z3 : ∀ p, 5 ≤ p → tb f3 p = false := fun p hp => tb_small f3 5 p h3 g3 hp
  have mc : ∀ p, tb (code % 4294967296) p = tb code p := tb_mod code
  have m0 : ∀ p, tb (f0 % 4294967296) p = tb f0 p := tb_mod f0
  have m1 : ∀ p, tb (f1 % 4294967296) p = tb f1 p := tb_mod f1
  have m2 : ∀ p, tb (f2 % 4294967296) p = tb f2 p := tb_mod f2
  have m3 : ∀ p, tb (f3 % 4294967296) p = tb f3 p := tb_mod f3
  show some (Go.bits .or .u32 (Go.bits .or .u32 (Go.bits .or .u32 (Go.bits .or .u32 (code % 4294967296) (((Go.bits .and .u32 (f0 % 4294967296) 31) * 2097152) % 4294967296)) (((Go.bits .and .u32 (f1 % 4294967296) 31) * 65536) % 4294967296)) (((Go.bits .and .u32 (f2 % 4294967296) 31) * 2048) % 4294967296)) (((Go.bits .and .u32 (f3 % 4294967296) 31) * 64) % 4294967296)) = _
  refine congrArg some (tb_ext (or32_in _ _).1 (or32_in _ _).2 (or32_in _ _).1 (or32_in _ _).2 (p32 ?_ ?_ ?_ ?_ ?_ ?_ ?_ ?_ ?_ ?_ ?_ ?_ ?_ ?_ ?_ ?_ ?_ ?_ ?_ ?_ ?_ ?_ ?_ ?_ ?_ ?_ ?_ ?_ ?_ ?_ ?_ ?_))
  all_goals simp only [tb_or, tb_and, tb_s0, tb_s1, tb_s2, tb_s3, tb_s4, tb_s5, tb_s6, tb_s7, tb_s8, tb_s9, tb_s10, tb_s11, tb_s12, tb_s13, tb_s14, tb_s15, tb_s16, tb_s17, tb_s18, tb_s19, tb_s20, tb_s21, tb_s22, tb_s23, tb_s24, tb_s25, tb_s26, tb_s27, tb_s28, tb_s29, tb_s30, tb_s31, tb_d1, tb_d2, tb_d3, tb_d4, tb_d5, tb_d6, tb_d7, tb_d8, tb_d9, tb_d10, tb_d11, tb_d12, tb_d13, tb_d14, tb_d15, tb_d16, tb_d17, tb_d18, tb_d19, tb_d20, tb_d21, tb_d22, tb_d23, tb_d24, tb_d25, tb_d26, tb_d27, tb_d28, tb_d29, tb_d30, tb_d31, tb_m1, tb_m2, tb_m3, tb_m4, tb_m5, tb_m6, tb_m7, tb_m8, tb_m9, tb_m10, tb_m11, tb_m12, tb_m13, tb_m14, tb_m15, tb_m16, tb_m17, tb_m18, tb_m19, tb_m20, tb_m21, tb_m22, tb_m23, tb_m24, tb_m25, tb_m26, tb_m27, tb_m28, tb_m29, tb_m30, tb_m31, tb_c1, tb_c3, tb_c15, tb_c31, tb_c32, tb_c65535, tb_c4095, tb_c262143, tb_c67108860, tb_c65532, tb_c67108864, tb_c100663296, tb_c0, z0, z1, z2, z3, mc, m0, m1, m2, m3]
  all_goals simp [z0, z1, z2, z3]
/-! ### AOP_MD: ATgM -/
def sz_AOP_MD (i : Nat) : Nat := ([5, 5, 6, 6] : List Nat).getD i 0
theorem bt_AOP_MD_0 : bt (⟨#[65, 84, 103, 77]⟩ : ByteArray) ((0 : Nat) : Int) = 65 := by decide +kernel
theorem bt_AOP_MD_1 : bt (⟨#[65, 84, 103, 77]⟩ : ByteArray) ((1 : Nat) : Int) = 84 := by decide +kernel
theorem bt_AOP_MD_2 : bt (⟨#[65, 84, 103, 77]⟩ : ByteArray) ((2 : Nat) : Int) = 103 := by decide +kernel
theorem bt_AOP_MD_3 : bt (⟨#[65, 84, 103, 77]⟩ : ByteArray) ((3 : Nat) : Int) = 77 := by decide +kernel
theorem known_AOP_MD : Known (⟨#[65, 84, 103, 77]⟩ : ByteArray) sz_AOP_MD where
  size := below_4 (P := fun i => ∀ k, 12 ≤ k → spec_Size.f k (bt (⟨#[65, 84, 103, 77]⟩ : ByteArray) (i : Int)) = some (sz_AOP_MD i : Int)) (fun k hk => by rw [bt_AOP_MD_0]; exact size_A k (by omega)) (fun k hk => by rw [bt_AOP_MD_1]; exact size_T k (by omega)) (fun k hk => by rw [bt_AOP_MD_2]; exact size_g k (by omega)) (fun k hk => by rw [bt_AOP_MD_3]; exact size_M k (by omega))
  few := below_4 (P := fun i => sz_AOP_MD i ≤ 62) (by decide) (by decide) (by decide) (by decide)
  put := below_4 (P := fun i => ∀ k, 12 ≤ k → ∀ v : Int, 0 ≤ v → v < 2 ^ sz_AOP_MD i → ∃ t, spec_Put.f k v (bt (⟨#[65, 84, 103, 77]⟩ : ByteArray) (i : Int)) = some t) (fun k hk v h0 h1 => by rw [bt_AOP_MD_0]; exact ⟨_, put_A k (by omega) v h0 h1⟩) (fun k hk v h0 h1 => by rw [bt_AOP_MD_1]; exact ⟨_, put_T k (by omega) v h0 h1⟩) (fun k hk v h0 h1 => by rw [bt_AOP_MD_2]; exact ⟨_, put_g k (by omega) v h0 h1⟩) (fun k hk v h0 h1 => by rw [bt_AOP_MD_3]; exact ⟨_, put_M k (by omega) v h0 h1⟩)
theorem word_AOP_MD (m : Nat) (code : Int) {f0 f1 f2 f3 : Int} (h0 : 0 ≤ f0) (g0 : f0 < 32) (h1 : 0 ≤ f1) (g1 : f1 < 32) (h2 : 0 ≤ f2) (g2 : f2 < 64) (h3 : 0 ≤ f3) (g3 : f3 < 64) : spec_Word.f (m + 20) (⟨#[65, 79, 80, 95, 77, 68]⟩ : ByteArray) (⟨#[65, 84, 103, 77]⟩ : ByteArray) code [f0, f1, f2, f3] = some (Go.bits .or .u32 (Go.bits .or .u32 (Go.bits .or .u32 (Go.bits .or .u32 code (f0 * 65536 % 4294967296)) (f1 * 2097152 % 4294967296)) (Go.bits .or .u32 (f2 % 32 * 2048 % 4294967296) (f2 / 32 * 2 % 4294967296))) (Go.bits .or .u32 (f3 % 32 * 64 % 4294967296) (f3 / 32 * 32 % 4294967296)), true) := by
  unfold spec_Word.f
  rw [if_pos (show (([f0, f1, f2, f3] : List Int).length : Int) = (((⟨#[65, 84, 103, 77]⟩ : ByteArray)).size : Int) from rfl)]
  show spec_Word.l0 (m + 19 + 1) code [f0, f1, f2, f3] ((0 : Nat) : Int) (⟨#[65, 79, 80, 95, 77, 68]⟩ : ByteArray) (⟨#[65, 84, 103, 77]⟩ : ByteArray) = _
  rw [word_round (m + 19) _ _ 0 _ _ 5 (by simp) (by decide) (by rw [bt_AOP_MD_0]; exact size_A _ (by omega)) (by decide) (by simp)]
  rw [show rd [f0, f1, f2, f3] ((0 : Nat) : Int) = f0 from rfl, bt_AOP_MD_0, if_neg (by omega), if_neg (by omega), put_A _ (by omega) f0 h0 g0, Option.bind_some]
  rw [word_round (m + 18) _ _ 1 _ _ 5 (by simp) (by decide) (by rw [bt_AOP_MD_1]; exact size_T _ (by omega)) (by decide) (by simp)]
  rw [show rd [f0, f1, f2, f3] ((1 : Nat) : Int) = f1 from rfl, bt_AOP_MD_1, if_neg (by omega), if_neg (by omega), put_T _ (by omega) f1 h1 g1, Option.bind_some]
  rw [word_round (m + 17) _ _ 2 _ _ 6 (by simp) (by decide) (by rw [bt_AOP_MD_2]; exact size_g _ (by omega)) (by decide) (by simp)]
  rw [show rd [f0, f1, f2, f3] ((2 : Nat) : Int) = f2 from rfl, bt_AOP_MD_2, if_neg (by omega), if_neg (by omega), put_g _ (by omega) f2 h2 g2, Option.bind_some]
  rw [word_round (m + 16) _ _ 3 _ _ 6 (by simp) (by decide) (by rw [bt_AOP_MD_3]; exact size_M _ (by omega)) (by decide) (by simp)]
  rw [show rd [f0, f1, f2, f3] ((3 : Nat) : Int) = f3 from rfl, bt_AOP_MD_3, if_neg (by omega), if_neg (by omega), put_M _ (by omega) f3 h3 g3, Option.bind_some]
  rw [word_end (m + 15) _ _ 4 _ _ rfl]
set_option maxHeartbeats 4000000 in
theorem leaf_AOP_MD {code f0 f1 f2 f3 : Int} (h0 : 0 ≤ f0) (g0 : f0 < 32) (h1 : 0 ≤ f1) (g1 : f1 < 32) (h2 : 0 ≤ f2) (g2 : f2 < 64) (h3 : 0 ≤ f3) (g3 : f3 < 64) : ppc64obj_AOP_MD.f (code % 4294967296) (f0 % 4294967296) (f1 % 4294967296) (f2 % 4294967296) (f3 % 4294967296) = some (Go.bits .or .u32 (Go.bits .or .u32 (Go.bits .or .u32 (Go.bits .or .u32 code (f0 * 65536 % 4294967296)) (f1 * 2097152 % 4294967296)) (Go.bits .or .u32 (f2 % 32 * 2048 % 4294967296) (f2 / 32 * 2 % 4294967296))) (Go.bits .or .u32 (f3 % 32 * 64 % 4294967296) (f3 / 32 * 32 % 4294967296))) := by
  have z0 : ∀ p, 5 ≤ p → tb f0 p = false := fun p hp => tb_small f0 5 p h0 g0 hp
  have z1 : ∀ p, 5 ≤ p → tb f1 p = false := fun p hp => tb_small f1 5 p h1 g1 hp
  have z2 : ∀ p, 6 ≤ p → tb f2 p = false := fun p hp => tb_small f2 6 p h2 g2 hp
  have l2 : ∀ p, tb (f2 % 32) p = (tb f2 p && decide (p < 5)) := fun p => tb_lo5 f2 p h2
  have u2 : ∀ p, tb (f2 / 32) p = tb f2 (5 + p) := fun p => tb_hi5 f2 p h2 (by omega)
  have z3 : ∀ p, 6 ≤ p → tb f3 p = false := fun p hp => tb_small f3 6 p h3 g3 hp
  have l3 : ∀ p, tb (f3 % 32) p = (tb f3 p && decide (p < 5)) := fun p => tb_lo5 f3 p h3
  have u3 : ∀ p, tb (f3 / 32) p = tb f3 (5 + p) := fun p => tb_hi5 f3 p h3 (by omega)
  have mc : ∀ p, tb (code % 4294967296) p = tb code p := tb_mod code
  have m0 : ∀ p, tb (f0 % 4294967296) p = tb f0 p := tb_mod f0
  have m1 : ∀ p, tb (f1 % 4294967296) p = tb f1 p := tb_mod f1
  have m2 : ∀ p, tb (f2 % 4294967296) p = tb f2 p := tb_mod f2
  have m3 : ∀ p, tb (f3 % 4294967296) p = tb f3 p := tb_mod f3
  show some (Go.bits .or .u32 (Go.bits .or .u32 (Go.bits .or .u32 (Go.bits .or .u32 (Go.bits .or .u32 (Go.bits .or .u32 (code % 4294967296) (((Go.bits .and .u32 (f1 % 4294967296) 31) * 2097152) % 4294967296)) (((Go.bits .and .u32 (f0 % 4294967296) 31) * 65536) % 4294967296)) (((Go.bits .and .u32 (f2 % 4294967296) 31) * 2048) % 4294967296)) ((((Go.bits .and .u32 (f2 % 4294967296) 32) / 32) * 2) % 4294967296)) (((Go.bits .and .u32 (f3 % 4294967296) 31) * 64) % 4294967296)) ((((Go.bits .and .u32 (f3 % 4294967296) 32) / 32) * 32) % 4294967296)) = _
  refine congrArg some (tb_ext (or32_in _ _).1 (or32_in _ _).2 (or32_in _ _).1 (or32_in _ _).2 (p32 ?_ ?_ ?_ ?_ ?_ ?_ ?_ ?_ ?_ ?_ ?_ ?_ ?_ ?_ ?_ ?_ ?_ ?_ ?_ ?_ ?_ ?_ ?_ ?_ ?_ ?_ ?_ ?_ ?_ ?_ ?_ ?_))
  all_goals simp only [tb_or, tb_and, tb_s0, tb_s1, tb_s2, tb_s3, tb_s4, tb_s5, tb_s6, tb_s7, tb_s8, tb_s9, tb_s10, tb_s11, tb_s12, tb_s13, tb_s14, tb_s15, tb_s16, tb_s17, tb_s18, tb_s19, tb_s20, tb_s21, tb_s22, tb_s23, tb_s24, tb_s25, tb_s26, tb_s27, tb_s28, tb_s29, tb_s30, tb_s31, tb_d1, tb_d2, tb_d3, tb_d4, tb_d5, tb_d6, tb_d7, tb_d8, tb_d9, tb_d10, tb_d11, tb_d12, tb_d13, tb_d14, tb_d15, tb_d16, tb_d17, tb_d18, tb_d19, tb_d20, tb_d21, tb_d22, tb_d23, tb_d24, tb_d25, tb_d26, tb_d27, tb_d28, tb_d29, tb_d30, tb_d31, tb_m1, tb_m2, tb_m3, tb_m4, tb_m5, tb_m6, tb_m7, tb_m8, tb_m9, tb_m10, tb_m11, tb_m12, tb_m13, tb_m14, tb_m15, tb_m16, tb_m17, tb_m18, tb_m19, tb_m20, tb_m21, tb_m22, tb_m23, tb_m24, tb_m25, tb_m26, tb_m27, tb_m28, tb_m29, tb_m30, tb_m31, tb_c1, tb_c3, tb_c15, tb_c31, tb_c32, tb_c65535, tb_c4095, tb_c262143, tb_c67108860, tb_c65532, tb_c67108864, tb_c100663296, tb_c0, z0, z1, z2, z3, l2, u2, l3, u3, mc, m0, m1, m2, m3]
  all_goals simp [z0, z1, z2, z3, l2, u2, l3, u3]
/-! ### AOP_MDS: ATBM -/
def sz_AOP_MDS (i : Nat) : Nat := ([5, 5, 5, 6] : List Nat).getD i 0
theorem bt_AOP_MDS_0 : bt (⟨#[65, 84, 66, 77]⟩ : ByteArray) ((0 : Nat) : Int) = 65 := by decide +kernel
theorem bt_AOP_MDS_1 : bt (⟨#[65, 84, 66, 77]⟩ : ByteArray) ((1 : Nat) : Int) = 84 := by decide +kernel
theorem bt_AOP_MDS_2 : bt (⟨#[65, 84, 66, 77]⟩ : ByteArray) ((2 : Nat) : Int) = 66 := by decide +kernel
theorem bt_AOP_MDS_3 : bt (⟨#[65, 84, 66, 77]⟩ : ByteArray) ((3 : Nat) : Int) = 77 := by decide +kernel
theorem known_AOP_MDS : Known (⟨#[65, 84, 66, 77]⟩ : ByteArray) sz_AOP_MDS where
  size := below_4 (P := fun i => ∀ k, 12 ≤ k → spec_Size.f k (bt (⟨#[65, 84, 66, 77]⟩ : ByteArray) (i : Int)) = some (sz_AOP_MDS i : Int)) (fun k hk => by rw [bt_AOP_MDS_0]; exact size_A k (by omega)) (fun k hk => by rw [bt_AOP_MDS_1]; exact size_T k (by omega)) (fun k hk => by rw [bt_AOP_MDS_2]; exact size_B k (by omega)) (fun k hk => by rw [bt_AOP_MDS_3]; exact size_M k (by omega))
  few := below_4 (P := fun i => sz_AOP_MDS i ≤ 62) (by decide) (by decide) (by decide) (by decide)
  put := below_4 (P := fun i => ∀ k, 12 ≤ k → ∀ v : Int, 0 ≤ v → v < 2 ^ sz_AOP_MDS i → ∃ t, spec_Put.f k v (bt (⟨#[65, 84, 66, 77]⟩ : ByteArray) (i : Int)) = some t) (fun k hk v h0 h1 => by rw [bt_AOP_MDS_0]; exact ⟨_, put_A k (by omega) v h0 h1⟩) (fun k hk v h0 h1 => by rw [bt_AOP_MDS_1]; exact ⟨_, put_T k (by omega) v h0 h1⟩) (fun k hk v h0 h1 => by rw [bt_AOP_MDS_2]; exact ⟨_, put_B k (by omega) v h0 h1⟩) (fun k hk v h0 h1 => by rw [bt_AOP_MDS_3]; exact ⟨_, put_M k (by omega) v h0 h1⟩)
theorem word_AOP_MDS (m : Nat) (code : Int) {f0 f1 f2 f3 : Int} (h0 : 0 ≤ f0) (g0 : f0 < 32) (h1 : 0 ≤ f1) (g1 : f1 < 32) (h2 : 0 ≤ f2) (g2 : f2 < 32) (h3 : 0 ≤ f3) (g3 : f3 < 64) : spec_Word.f (m + 20) (⟨#[65, 79, 80, 95, 77, 68, 83]⟩ : ByteArray) (⟨#[65, 84, 66, 77]⟩ : ByteArray) code [f0, f1, f2, f3] = some (Go.bits .or .u32 (Go.bits .or .u32 (Go.bits .or .u32 (Go.bits .or .u32 code (f0 * 65536 % 4294967296)) (f1 * 2097152 % 4294967296)) (f2 * 2048 % 4294967296)) (Go.bits .or .u32 (f3 % 32 * 64 % 4294967296) (f3 / 32 * 32 % 4294967296)), true) := by
  unfold spec_Word.f
  rw [if_pos (show (([f0, f1, f2, f3] : List Int).length : Int) = (((⟨#[65, 84, 66, 77]⟩ : ByteArray)).size : Int) from rfl)]
  show spec_Word.l0 (m + 19 + 1) code [f0, f1, f2, f3] ((0 : Nat) : Int) (⟨#[65, 79, 80, 95, 77, 68, 83]⟩ : ByteArray) (⟨#[65, 84, 66, 77]⟩ : ByteArray) = _
  rw [word_round (m + 19) _ _ 0 _ _ 5 (by simp) (by decide) (by rw [bt_AOP_MDS_0]; exact size_A _ (by omega)) (by decide) (by simp)]
  rw [show rd [f0, f1, f2, f3] ((0 : Nat) : Int) = f0 from rfl, bt_AOP_MDS_0, if_neg (by omega), if_neg (by omega), put_A _ (by omega) f0 h0 g0, Option.bind_some]
  rw [word_round (m + 18) _ _ 1 _ _ 5 (by simp) (by decide) (by rw [bt_AOP_MDS_1]; exact size_T _ (by omega)) (by decide) (by simp)]
  rw [show rd [f0, f1, f2, f3] ((1 : Nat) : Int) = f1 from rfl, bt_AOP_MDS_1, if_neg (by omega), if_neg (by omega), put_T _ (by omega) f1 h1 g1, Option.bind_some]
  rw [word_round (m + 17) _ _ 2 _ _ 5 (by simp) (by decide) (by rw [bt_AOP_MDS_2]; exact size_B _ (by omega)) (by decide) (by simp)]
  rw [show rd [f0, f1, f2, f3] ((2 : Nat) : Int) = f2 from rfl, bt_AOP_MDS_2, if_neg (by omega), if_neg (by omega), put_B _ (by omega) f2 h2 g2, Option.bind_some]
  rw [word_round (m + 16) _ _ 3 _ _ 6 (by simp) (by decide) (by rw [bt_AOP_MDS_3]; exact size_M _ (by omega)) (by decide) (by simp)]
  rw [show rd [f0, f1, f2, f3] ((3 : Nat) : Int) = f3 from rfl, bt_AOP_MDS_3, if_neg (by omega), if_neg (by omega), put_M _ (by omega) f3 h3 g3, Option.bind_some]
  rw [word_end (m + 15) _ _ 4 _ _ rfl]
set_option maxHeartbeats 4000000 in
theorem leaf_AOP_MDS {code f0 f1 f2 f3 : Int} (h0 : 0 ≤ f0) (g0 : f0 < 32) (h1 : 0 ≤ f1) (g1 : f1 < 32) (h2 : 0 ≤ f2) (g2 : f2 < 32) (h3 : 0 ≤ f3) (g3 : f3 < 64) : ppc64obj_AOP_MDS.f (code % 4294967296) (f0 % 4294967296) (f1 % 4294967296) (f2 % 4294967296) (f3 % 4294967296) = some (Go.bits .or .u32 (Go.bits .or .u32 (Go.bits .or .u32 (Go.bits .or .u32 code (f0 * 65536 % 4294967296)) (f1 * 2097152 % 4294967296)) (f2 * 2048 % 4294967296)) (Go.bits .or .u32 (f3 % 32 * 64 % 4294967296) (f3 / 32 * 32 % 4294967296))) := by
  have z0 : ∀ p, 5 ≤ p → tb f0 p = false := fun p hp => tb_small f0 5 p h0 g0 hp
  have z1 : ∀ p, 5 ≤ p → tb f1 p = false := fun p hp => tb_small f1 5 p h1 g1 hp
  have z2 : ∀ p, 5 ≤ p → tb f2 p = false := fun p hp => tb_small f2 5 p h2 g2 hp
  have z3 : ∀ p, 6 ≤ p → tb f3 p = false := fun p hp => tb_small f3 6 p h3 g3 hp
  have l3 : ∀ p, tb (f3 % 32) p = (tb f3 p && decide (p < 5)) := fun p => tb_lo5 f3 p h3
  have u3 : ∀ p, tb (f3 / 32) p = tb f3 (5 + p) := fun p => tb_hi5 f3 p h3 (by omega)
  have mc : ∀ p, tb (code % 4294967296) p = tb code p := tb_mod code
  have m0 : ∀ p, tb (f0 % 4294967296) p = tb f0 p := tb_mod f0
  have m1 : ∀ p, tb (f1 % 4294967296) p = tb f1 p := tb_mod f1
  have m2 : ∀ p, tb (f2 % 4294967296) p = tb f2 p := tb_mod f2
  have m3 : ∀ p, tb (f3 % 4294967296) p = tb f3 p := tb_mod f3
  show some (Go.bits .or .u32 (Go.bits .or .u32 (Go.bits .or .u32 (Go.bits .or .u32 (Go.bits .or .u32 (Go.bits .or .u32 (code % 4294967296) (((Go.bits .and .u32 (f1 % 4294967296) 31) * 2097152) % 4294967296)) (((Go.bits .and .u32 (f0 % 4294967296) 31) * 65536) % 4294967296)) (((Go.bits .and .u32 (Go.bits .and .u32 (f2 % 4294967296) 31) 31) * 2048) % 4294967296)) ((((Go.bits .and .u32 (Go.bits .and .u32 (f2 % 4294967296) 31) 32) / 32) * 2) % 4294967296)) (((Go.bits .and .u32 (f3 % 4294967296) 31) * 64) % 4294967296)) ((((Go.bits .and .u32 (f3 % 4294967296) 32) / 32) * 32) % 4294967296)) = _
  refine congrArg some (tb_ext (or32_in _ _).1 (or32_in _ _).2 (or32_in _ _).1 (or32_in _ _).2 (p32 ?_ ?_ ?_ ?_ ?_ ?_ ?_ ?_ ?_ ?_ ?_ ?_ ?_ ?_ ?_ ?_ ?_ ?_ ?_ ?_ ?_ ?_ ?_ ?_ ?_ ?_ ?_ ?_ ?_ ?_ ?_ ?_))
  all_goals simp only [tb_or, tb_and, tb_s0, tb_s1, tb_s2, tb_s3, tb_s4, tb_s5, tb_s6, tb_s7, tb_s8, tb_s9, tb_s10, tb_s11, tb_s12, tb_s13, tb_s14, tb_s15, tb_s16, tb_s17, tb_s18, tb_s19, tb_s20, tb_s21, tb_s22, tb_s23, tb_s24, tb_s25, tb_s26, tb_s27, tb_s28, tb_s29, tb_s30, tb_s31, tb_d1, tb_d2, tb_d3, tb_d4, tb_d5, tb_d6, tb_d7, tb_d8, tb_d9, tb_d10, tb_d11, tb_d12, tb_d13, tb_d14, tb_d15, tb_d16, tb_d17, tb_d18, tb_d19, tb_d20, tb_d21, tb_d22, tb_d23, tb_d24, tb_d25, tb_d26, tb_d27, tb_d28, tb_d29, tb_d30, tb_d31, tb_m1, tb_m2, tb_m3, tb_m4, tb_m5, tb_m6, tb_m7, tb_m8, tb_m9, tb_m10, tb_m11, tb_m12, tb_m13, tb_m14, tb_m15, tb_m16, tb_m17, tb_m18, tb_m19, tb_m20, tb_m21, tb_m22, tb_m23, tb_m24, tb_m25, tb_m26, tb_m27, tb_m28, tb_m29, tb_m30, tb_m31, tb_c1, tb_c3, tb_c15, tb_c31, tb_c32, tb_c65535, tb_c4095, tb_c262143, tb_c67108860, tb_c65532, tb_c67108864, tb_c100663296, tb_c0, z0, z1, z2, z3, l3, u3, mc, m0, m1, m2, m3]
  all_goals simp [z0, z1, z2, z3, l3, u3]

end Go.Proofs.Ytnfkdmoblncclaa.X
