/- Bits of shifted numbers and of the masks that occur. -/
import Derived.Test.YtnfkdmoblncclaaXBits
namespace Go.Proofs.Ytnfkdmoblncclaa.X
open Go.RowKit Go.Proofs.YtnfkdmoblncclaaW.PrintWords Go.Proofs.YtnfkdmoblncclaaW.PrintLast Go.Proofs.YtnfkdmoblncclaaW.PrintMore
attribute [local go_sem] max2_int min2_int max_two min_two max_three min_three max_four min_four   -- for this text's walks alone
set_option linter.unusedVariables false
set_option linter.unusedSimpArgs false

theorem tb_s0 (x : Int) (p : Nat) : tb (x * 1 % 4294967296) p = tb x p := by rw [tb_mod, Int.mul_one]
theorem tb_s1 (x : Int) (p : Nat) : tb (x * 2 % 4294967296) p = (decide (p < 32) && !decide (p < 1) && tb x (p - 1)) := tb_mul x 1 p
theorem tb_s2 (x : Int) (p : Nat) : tb (x * 4 % 4294967296) p = (decide (p < 32) && !decide (p < 2) && tb x (p - 2)) := tb_mul x 2 p
theorem tb_s3 (x : Int) (p : Nat) : tb (x * 8 % 4294967296) p = (decide (p < 32) && !decide (p < 3) && tb x (p - 3)) := tb_mul x 3 p
theorem tb_s4 (x : Int) (p : Nat) : tb (x * 16 % 4294967296) p = (decide (p < 32) && !decide (p < 4) && tb x (p - 4)) := tb_mul x 4 p
theorem tb_s5 (x : Int) (p : Nat) : tb (x * 32 % 4294967296) p = (decide (p < 32) && !decide (p < 5) && tb x (p - 5)) := tb_mul x 5 p
theorem tb_s6 (x : Int) (p : Nat) : tb (x * 64 % 4294967296) p = (decide (p < 32) && !decide (p < 6) && tb x (p - 6)) := tb_mul x 6 p
theorem tb_s7 (x : Int) (p : Nat) : tb (x * 128 % 4294967296) p = (decide (p < 32) && !decide (p < 7) && tb x (p - 7)) := tb_mul x 7 p
theorem tb_s8 (x : Int) (p : Nat) : tb (x * 256 % 4294967296) p = (decide (p < 32) && !decide (p < 8) && tb x (p - 8)) := tb_mul x 8 p
theorem tb_s9 (x : Int) (p : Nat) : tb (x * 512 % 4294967296) p = (decide (p < 32) && !decide (p < 9) && tb x (p - 9)) := tb_mul x 9 p
theorem tb_s10 (x : Int) (p : Nat) : tb (x * 1024 % 4294967296) p = (decide (p < 32) && !decide (p < 10) && tb x (p - 10)) := tb_mul x 10 p
theorem tb_s11 (x : Int) (p : Nat) : tb (x * 2048 % 4294967296) p = (decide (p < 32) && !decide (p < 11) && tb x (p - 11)) := tb_mul x 11 p
theorem tb_s12 (x : Int) (p : Nat) : tb (x * 4096 % 4294967296) p = (decide (p < 32) && !decide (p < 12) && tb x (p - 12)) := tb_mul x 12 p
theorem tb_s13 (x : Int) (p : Nat) : tb (x * 8192 % 4294967296) p = (decide (p < 32) && !decide (p < 13) && tb x (p - 13)) := tb_mul x 13 p
theorem tb_s14 (x : Int) (p : Nat) : tb (x * 16384 % 4294967296) p = (decide (p < 32) && !decide (p < 14) && tb x (p - 14)) := tb_mul x 14 p
theorem tb_s15 (x : Int) (p : Nat) : tb (x * 32768 % 4294967296) p = (decide (p < 32) && !decide (p < 15) && tb x (p - 15)) := tb_mul x 15 p
theorem tb_s16 (x : Int) (p : Nat) : tb (x * 65536 % 4294967296) p = (decide (p < 32) && !decide (p < 16) && tb x (p - 16)) := tb_mul x 16 p
theorem tb_s17 (x : Int) (p : Nat) : tb (x * 131072 % 4294967296) p = (decide (p < 32) && !decide (p < 17) && tb x (p - 17)) := tb_mul x 17 p
theorem tb_s18 (x : Int) (p : Nat) : tb (x * 262144 % 4294967296) p = (decide (p < 32) && !decide (p < 18) && tb x (p - 18)) := tb_mul x 18 p
theorem tb_s19 (x : Int) (p : Nat) : tb (x * 524288 % 4294967296) p = (decide (p < 32) && !decide (p < 19) && tb x (p - 19)) := tb_mul x 19 p
theorem tb_s20 (x : Int) (p : Nat) : tb (x * 1048576 % 4294967296) p = (decide (p < 32) && !decide (p < 20) && tb x (p - 20)) := tb_mul x 20 p
theorem tb_s21 (x : Int) (p : Nat) : tb (x * 2097152 % 4294967296) p = (decide (p < 32) && !decide (p < 21) && tb x (p - 21)) := tb_mul x 21 p
theorem tb_s22 (x : Int) (p : Nat) : tb (x * 4194304 % 4294967296) p = (decide (p < 32) && !decide (p < 22) && tb x (p - 22)) := tb_mul x 22 p
theorem tb_s23 (x : Int) (p : Nat) : tb (x * 8388608 % 4294967296) p = (decide (p < 32) && !decide (p < 23) && tb x (p - 23)) := tb_mul x 23 p
theorem tb_s24 (x : Int) (p : Nat) : tb (x * 16777216 % 4294967296) p = (decide (p < 32) && !decide (p < 24) && tb x (p - 24)) := tb_mul x 24 p
theorem tb_s25 (x : Int) (p : Nat) : tb (x * 33554432 % 4294967296) p = (decide (p < 32) && !decide (p < 25) && tb x (p - 25)) := tb_mul x 25 p
theorem tb_s26 (x : Int) (p : Nat) : tb (x * 67108864 % 4294967296) p = (decide (p < 32) && !decide (p < 26) && tb x (p - 26)) := tb_mul x 26 p
theorem tb_s27 (x : Int) (p : Nat) : tb (x * 134217728 % 4294967296) p = (decide (p < 32) && !decide (p < 27) && tb x (p - 27)) := tb_mul x 27 p
theorem tb_s28 (x : Int) (p : Nat) : tb (x * 268435456 % 4294967296) p = (decide (p < 32) && !decide (p < 28) && tb x (p - 28)) := tb_mul x 28 p
theorem tb_s29 (x : Int) (p : Nat) : tb (x * 536870912 % 4294967296) p = (decide (p < 32) && !decide (p < 29) && tb x (p - 29)) := tb_mul x 29 p
theorem tb_s30 (x : Int) (p : Nat) : tb (x * 1073741824 % 4294967296) p = (decide (p < 32) && !decide (p < 30) && tb x (p - 30)) := tb_mul x 30 p
theorem tb_s31 (x : Int) (p : Nat) : tb (x * 2147483648 % 4294967296) p = (decide (p < 32) && !decide (p < 31) && tb x (p - 31)) := tb_mul x 31 p
theorem tb_d1 (x y : Int) (p : Nat) : tb (Go.bits .and .u32 x y / 2) p = (tb x (1 + p) && tb y (1 + p)) := tb_and_div x y 1 p
theorem tb_d2 (x y : Int) (p : Nat) : tb (Go.bits .and .u32 x y / 4) p = (tb x (2 + p) && tb y (2 + p)) := tb_and_div x y 2 p
theorem tb_d3 (x y : Int) (p : Nat) : tb (Go.bits .and .u32 x y / 8) p = (tb x (3 + p) && tb y (3 + p)) := tb_and_div x y 3 p
theorem tb_d4 (x y : Int) (p : Nat) : tb (Go.bits .and .u32 x y / 16) p = (tb x (4 + p) && tb y (4 + p)) := tb_and_div x y 4 p
theorem tb_d5 (x y : Int) (p : Nat) : tb (Go.bits .and .u32 x y / 32) p = (tb x (5 + p) && tb y (5 + p)) := tb_and_div x y 5 p
theorem tb_d6 (x y : Int) (p : Nat) : tb (Go.bits .and .u32 x y / 64) p = (tb x (6 + p) && tb y (6 + p)) := tb_and_div x y 6 p
theorem tb_d7 (x y : Int) (p : Nat) : tb (Go.bits .and .u32 x y / 128) p = (tb x (7 + p) && tb y (7 + p)) := tb_and_div x y 7 p
theorem tb_d8 (x y : Int) (p : Nat) : tb (Go.bits .and .u32 x y / 256) p = (tb x (8 + p) && tb y (8 + p)) := tb_and_div x y 8 p
theorem tb_d9 (x y : Int) (p : Nat) : tb (Go.bits .and .u32 x y / 512) p = (tb x (9 + p) && tb y (9 + p)) := tb_and_div x y 9 p
theorem tb_d10 (x y : Int) (p : Nat) : tb (Go.bits .and .u32 x y / 1024) p = (tb x (10 + p) && tb y (10 + p)) := tb_and_div x y 10 p
theorem tb_d11 (x y : Int) (p : Nat) : tb (Go.bits .and .u32 x y / 2048) p = (tb x (11 + p) && tb y (11 + p)) := tb_and_div x y 11 p
theorem tb_d12 (x y : Int) (p : Nat) : tb (Go.bits .and .u32 x y / 4096) p = (tb x (12 + p) && tb y (12 + p)) := tb_and_div x y 12 p
theorem tb_d13 (x y : Int) (p : Nat) : tb (Go.bits .and .u32 x y / 8192) p = (tb x (13 + p) && tb y (13 + p)) := tb_and_div x y 13 p
theorem tb_d14 (x y : Int) (p : Nat) : tb (Go.bits .and .u32 x y / 16384) p = (tb x (14 + p) && tb y (14 + p)) := tb_and_div x y 14 p
theorem tb_d15 (x y : Int) (p : Nat) : tb (Go.bits .and .u32 x y / 32768) p = (tb x (15 + p) && tb y (15 + p)) := tb_and_div x y 15 p
theorem tb_d16 (x y : Int) (p : Nat) : tb (Go.bits .and .u32 x y / 65536) p = (tb x (16 + p) && tb y (16 + p)) := tb_and_div x y 16 p
theorem tb_d17 (x y : Int) (p : Nat) : tb (Go.bits .and .u32 x y / 131072) p = (tb x (17 + p) && tb y (17 + p)) := tb_and_div x y 17 p
theorem tb_d18 (x y : Int) (p : Nat) : tb (Go.bits .and .u32 x y / 262144) p = (tb x (18 + p) && tb y (18 + p)) := tb_and_div x y 18 p
theorem tb_d19 (x y : Int) (p : Nat) : tb (Go.bits .and .u32 x y / 524288) p = (tb x (19 + p) && tb y (19 + p)) := tb_and_div x y 19 p
theorem tb_d20 (x y : Int) (p : Nat) : tb (Go.bits .and .u32 x y / 1048576) p = (tb x (20 + p) && tb y (20 + p)) := tb_and_div x y 20 p
theorem tb_d21 (x y : Int) (p : Nat) : tb (Go.bits .and .u32 x y / 2097152) p = (tb x (21 + p) && tb y (21 + p)) := tb_and_div x y 21 p
theorem tb_d22 (x y : Int) (p : Nat) : tb (Go.bits .and .u32 x y / 4194304) p = (tb x (22 + p) && tb y (22 + p)) := tb_and_div x y 22 p
theorem tb_d23 (x y : Int) (p : Nat) : tb (Go.bits .and .u32 x y / 8388608) p = (tb x (23 + p) && tb y (23 + p)) := tb_and_div x y 23 p
theorem tb_d24 (x y : Int) (p : Nat) : tb (Go.bits .and .u32 x y / 16777216) p = (tb x (24 + p) && tb y (24 + p)) := tb_and_div x y 24 p
theorem tb_d25 (x y : Int) (p : Nat) : tb (Go.bits .and .u32 x y / 33554432) p = (tb x (25 + p) && tb y (25 + p)) := tb_and_div x y 25 p
theorem tb_d26 (x y : Int) (p : Nat) : tb (Go.bits .and .u32 x y / 67108864) p = (tb x (26 + p) && tb y (26 + p)) := tb_and_div x y 26 p
theorem tb_d27 (x y : Int) (p : Nat) : tb (Go.bits .and .u32 x y / 134217728) p = (tb x (27 + p) && tb y (27 + p)) := tb_and_div x y 27 p
theorem tb_d28 (x y : Int) (p : Nat) : tb (Go.bits .and .u32 x y / 268435456) p = (tb x (28 + p) && tb y (28 + p)) := tb_and_div x y 28 p
theorem tb_d29 (x y : Int) (p : Nat) : tb (Go.bits .and .u32 x y / 536870912) p = (tb x (29 + p) && tb y (29 + p)) := tb_and_div x y 29 p
theorem tb_d30 (x y : Int) (p : Nat) : tb (Go.bits .and .u32 x y / 1073741824) p = (tb x (30 + p) && tb y (30 + p)) := tb_and_div x y 30 p
theorem tb_d31 (x y : Int) (p : Nat) : tb (Go.bits .and .u32 x y / 2147483648) p = (tb x (31 + p) && tb y (31 + p)) := tb_and_div x y 31 p
theorem tb_m1 (x : Int) (p : Nat) : tb (x % 4294967296 / 2) p = tb x (1 + p) := by
  have h := tb_div (x % 4294967296) 1 p (by omega) (by omega)
  rw [tb_mod] at h; exact h
theorem tb_m2 (x : Int) (p : Nat) : tb (x % 4294967296 / 4) p = tb x (2 + p) := by
  have h := tb_div (x % 4294967296) 2 p (by omega) (by omega)
  rw [tb_mod] at h; exact h
theorem tb_m3 (x : Int) (p : Nat) : tb (x % 4294967296 / 8) p = tb x (3 + p) := by
  have h := tb_div (x % 4294967296) 3 p (by omega) (by omega)
  rw [tb_mod] at h; exact h
theorem tb_m4 (x : Int) (p : Nat) : tb (x % 4294967296 / 16) p = tb x (4 + p) := by
  have h := tb_div (x % 4294967296) 4 p (by omega) (by omega)
  rw [tb_mod] at h; exact h
theorem tb_m5 (x : Int) (p : Nat) : tb (x % 4294967296 / 32) p = tb x (5 + p) := by
  have h := tb_div (x % 4294967296) 5 p (by omega) (by omega)
  rw [tb_mod] at h; exact h
theorem tb_m6 (x : Int) (p : Nat) : tb (x % 4294967296 / 64) p = tb x (6 + p) := by
  have h := tb_div (x % 4294967296) 6 p (by omega) (by omega)
  rw [tb_mod] at h; exact h
theorem tb_m7 (x : Int) (p : Nat) : tb (x % 4294967296 / 128) p = tb x (7 + p) := by
  have h := tb_div (x % 4294967296) 7 p (by omega) (by omega)
  rw [tb_mod] at h; exact h
theorem tb_m8 (x : Int) (p : Nat) : tb (x % 4294967296 / 256) p = tb x (8 + p) := by
  have h := tb_div (x % 4294967296) 8 p (by omega) (by omega)
  rw [tb_mod] at h; exact h
theorem tb_m9 (x : Int) (p : Nat) : tb (x % 4294967296 / 512) p = tb x (9 + p) := by
  have h := tb_div (x % 4294967296) 9 p (by omega) (by omega)
  rw [tb_mod] at h; exact h
theorem tb_m10 (x : Int) (p : Nat) : tb (x % 4294967296 / 1024) p = tb x (10 + p) := by
  have h := tb_div (x % 4294967296) 10 p (by omega) (by omega)
  rw [tb_mod] at h; exact h
theorem tb_m11 (x : Int) (p : Nat) : tb (x % 4294967296 / 2048) p = tb x (11 + p) := by
  have h := tb_div (x % 4294967296) 11 p (by omega) (by omega)
  rw [tb_mod] at h; exact h
theorem tb_m12 (x : Int) (p : Nat) : tb (x % 4294967296 / 4096) p = tb x (12 + p) := by
  have h := tb_div (x % 4294967296) 12 p (by omega) (by omega)
  rw [tb_mod] at h; exact h
theorem tb_m13 (x : Int) (p : Nat) : tb (x % 4294967296 / 8192) p = tb x (13 + p) := by
  have h := tb_div (x % 4294967296) 13 p (by omega) (by omega)
  rw [tb_mod] at h; exact h
theorem tb_m14 (x : Int) (p : Nat) : tb (x % 4294967296 / 16384) p = tb x (14 + p) := by
  have h := tb_div (x % 4294967296) 14 p (by omega) (by omega)
  rw [tb_mod] at h; exact h
theorem tb_m15 (x : Int) (p : Nat) : tb (x % 4294967296 / 32768) p = tb x (15 + p) := by
  have h := tb_div (x % 4294967296) 15 p (by omega) (by omega)
  rw [tb_mod] at h; exact h
theorem tb_m16 (x : Int) (p : Nat) : tb (x % 4294967296 / 65536) p = tb x (16 + p) := by
  have h := tb_div (x % 4294967296) 16 p (by omega) (by omega)
  rw [tb_mod] at h; exact h
theorem tb_m17 (x : Int) (p : Nat) : tb (x % 4294967296 / 131072) p = tb x (17 + p) := by
  have h := tb_div (x % 4294967296) 17 p (by omega) (by omega)
  rw [tb_mod] at h; exact h
theorem tb_m18 (x : Int) (p : Nat) : tb (x % 4294967296 / 262144) p = tb x (18 + p) := by
  have h := tb_div (x % 4294967296) 18 p (by omega) (by omega)
  rw [tb_mod] at h; exact h
theorem tb_m19 (x : Int) (p : Nat) : tb (x % 4294967296 / 524288) p = tb x (19 + p) := by
  have h := tb_div (x % 4294967296) 19 p (by omega) (by omega)
  rw [tb_mod] at h; exact h
theorem tb_m20 (x : Int) (p : Nat) : tb (x % 4294967296 / 1048576) p = tb x (20 + p) := by
  have h := tb_div (x % 4294967296) 20 p (by omega) (by omega)
  rw [tb_mod] at h; exact h
theorem tb_m21 (x : Int) (p : Nat) : tb (x % 4294967296 / 2097152) p = tb x (21 + p) := by
  have h := tb_div (x % 4294967296) 21 p (by omega) (by omega)
  rw [tb_mod] at h; exact h
theorem tb_m22 (x : Int) (p : Nat) : tb (x % 4294967296 / 4194304) p = tb x (22 + p) := by
  have h := tb_div (x % 4294967296) 22 p (by omega) (by omega)
  rw [tb_mod] at h; exact h
theorem tb_m23 (x : Int) (p : Nat) : tb (x % 4294967296 / 8388608) p = tb x (23 + p) := by
  have h := tb_div (x % 4294967296) 23 p (by omega) (by omega)
  rw [tb_mod] at h; exact h
theorem tb_m24 (x : Int) (p : Nat) : tb (x % 4294967296 / 16777216) p = tb x (24 + p) := by
  have h := tb_div (x % 4294967296) 24 p (by omega) (by omega)
  rw [tb_mod] at h; exact h
theorem tb_m25 (x : Int) (p : Nat) : tb (x % 4294967296 / 33554432) p = tb x (25 + p) := by
  have h := tb_div (x % 4294967296) 25 p (by omega) (by omega)
  rw [tb_mod] at h; exact h
theorem tb_m26 (x : Int) (p : Nat) : tb (x % 4294967296 / 67108864) p = tb x (26 + p) := by
  have h := tb_div (x % 4294967296) 26 p (by omega) (by omega)
  rw [tb_mod] at h; exact h
theorem tb_m27 (x : Int) (p : Nat) : tb (x % 4294967296 / 134217728) p = tb x (27 + p) := by
  have h := tb_div (x % 4294967296) 27 p (by omega) (by omega)
  rw [tb_mod] at h; exact h
theorem tb_m28 (x : Int) (p : Nat) : tb (x % 4294967296 / 268435456) p = tb x (28 + p) := by
  have h := tb_div (x % 4294967296) 28 p (by omega) (by omega)
  rw [tb_mod] at h; exact h
theorem tb_m29 (x : Int) (p : Nat) : tb (x % 4294967296 / 536870912) p = tb x (29 + p) := by
  have h := tb_div (x % 4294967296) 29 p (by omega) (by omega)
  rw [tb_mod] at h; exact h
theorem tb_m30 (x : Int) (p : Nat) : tb (x % 4294967296 / 1073741824) p = tb x (30 + p) := by
  have h := tb_div (x % 4294967296) 30 p (by omega) (by omega)
  rw [tb_mod] at h; exact h
theorem tb_m31 (x : Int) (p : Nat) : tb (x % 4294967296 / 2147483648) p = tb x (31 + p) := by
  have h := tb_div (x % 4294967296) 31 p (by omega) (by omega)
  rw [tb_mod] at h; exact h
theorem tb_c0 (p : Nat) : tb 0 p = false := by unfold tb; simp
theorem tb_c1 (p : Nat) : tb 1 p = decide (p < 1) := by
  by_cases h : p < 32
  · revert p; decide
  · rw [tb_high _ _ (by omega)]; symm; rw [decide_eq_false_iff_not]; omega
theorem tb_c3 (p : Nat) : tb 3 p = decide (p < 2) := by
  by_cases h : p < 32
  · revert p; decide
  · rw [tb_high _ _ (by omega)]; symm; rw [decide_eq_false_iff_not]; omega
theorem tb_c15 (p : Nat) : tb 15 p = decide (p < 4) := by
  by_cases h : p < 32
  · revert p; decide
  · rw [tb_high _ _ (by omega)]; symm; rw [decide_eq_false_iff_not]; omega
theorem tb_c31 (p : Nat) : tb 31 p = decide (p < 5) := by
  by_cases h : p < 32
  · revert p; decide
  · rw [tb_high _ _ (by omega)]; symm; rw [decide_eq_false_iff_not]; omega
theorem tb_c32 (p : Nat) : tb 32 p = decide (p = 5) := by
  by_cases h : p < 32
  · revert p; decide
  · rw [tb_high _ _ (by omega)]; symm; rw [decide_eq_false_iff_not]; omega
theorem tb_c65535 (p : Nat) : tb 65535 p = decide (p < 16) := by
  by_cases h : p < 32
  · revert p; decide
  · rw [tb_high _ _ (by omega)]; symm; rw [decide_eq_false_iff_not]; omega
theorem tb_c4095 (p : Nat) : tb 4095 p = decide (p < 12) := by
  by_cases h : p < 32
  · revert p; decide
  · rw [tb_high _ _ (by omega)]; symm; rw [decide_eq_false_iff_not]; omega
theorem tb_c262143 (p : Nat) : tb 262143 p = decide (p < 18) := by
  by_cases h : p < 32
  · revert p; decide
  · rw [tb_high _ _ (by omega)]; symm; rw [decide_eq_false_iff_not]; omega
theorem tb_c67108860 (p : Nat) : tb 67108860 p = decide (2 ≤ p ∧ p < 26) := by
  by_cases h : p < 32
  · revert p; decide
  · rw [tb_high _ _ (by omega)]; symm; rw [decide_eq_false_iff_not]; omega
theorem tb_c65532 (p : Nat) : tb 65532 p = decide (2 ≤ p ∧ p < 16) := by
  by_cases h : p < 32
  · revert p; decide
  · rw [tb_high _ _ (by omega)]; symm; rw [decide_eq_false_iff_not]; omega
theorem tb_c67108864 (p : Nat) : tb 67108864 p = decide (p = 26) := by
  by_cases h : p < 32
  · revert p; decide
  · rw [tb_high _ _ (by omega)]; symm; rw [decide_eq_false_iff_not]; omega
theorem tb_c100663296 (p : Nat) : tb 100663296 p = decide (p = 26 ∨ p = 25) := by
  by_cases h : p < 32
  · revert p; decide
  · rw [tb_high _ _ (by omega)]; symm; rw [decide_eq_false_iff_not]; omega
theorem p32 {P : Nat → Prop} (h0 : P 0) (h1 : P 1) (h2 : P 2) (h3 : P 3) (h4 : P 4) (h5 : P 5) (h6 : P 6) (h7 : P 7) (h8 : P 8) (h9 : P 9) (h10 : P 10) (h11 : P 11) (h12 : P 12) (h13 : P 13) (h14 : P 14) (h15 : P 15) (h16 : P 16) (h17 : P 17) (h18 : P 18) (h19 : P 19) (h20 : P 20) (h21 : P 21) (h22 : P 22) (h23 : P 23) (h24 : P 24) (h25 : P 25) (h26 : P 26) (h27 : P 27) (h28 : P 28) (h29 : P 29) (h30 : P 30) (h31 : P 31) : ∀ p : Nat, p < 32 → P p := by
  intro p hp
  have e : p = 0 ∨ p = 1 ∨ p = 2 ∨ p = 3 ∨ p = 4 ∨ p = 5 ∨ p = 6 ∨ p = 7 ∨ p = 8 ∨ p = 9 ∨ p = 10 ∨ p = 11 ∨ p = 12 ∨ p = 13 ∨ p = 14 ∨ p = 15 ∨ p = 16 ∨ p = 17 ∨ p = 18 ∨ p = 19 ∨ p = 20 ∨ p = 21 ∨ p = 22 ∨ p = 23 ∨ p = 24 ∨ p = 25 ∨ p = 26 ∨ p = 27 ∨ p = 28 ∨ p = 29 ∨ p = 30 ∨ p = 31 := by omega
  rcases e with rfl | rfl | rfl | rfl | rfl | rfl | rfl | rfl | rfl | rfl | rfl | rfl | rfl | rfl | rfl | rfl | rfl | rfl | rfl | rfl | rfl | rfl | rfl | rfl | rfl | rfl | rfl | rfl | rfl | rfl | rfl | rfl
  · exact h0
  · exact h1
  · exact h2
  · exact h3
  · exact h4
  · exact h5
  · exact h6
  · exact h7
  · exact h8
  · exact h9
  · exact h10
  · exact h11
  · exact h12
  · exact h13
  · exact h14
  · exact h15
  · exact h16
  · exact h17
  · exact h18
  · exact h19
  · exact h20
  · exact h21
  · exact h22
  · exact h23
  · exact h24
  · exact h25
  · exact h26
  · exact h27
  · exact h28
  · exact h29
  · exact h30
  · exact h31
theorem tb_lo5 (x : Int) (p : Nat) (h0 : 0 ≤ x) : tb (x % 32) p = (tb x p && decide (p < 5)) := tb_low x 5 p h0
theorem tb_hi5 (x : Int) (p : Nat) (h0 : 0 ≤ x) (h1 : x < 4294967296) : tb (x / 32) p = tb x (5 + p) := tb_div x 5 p h0 h1
theorem small_and (x m : Int) (n : Nat) (h0 : 0 ≤ x) (h1 : x < 2 ^ n) (hn : n ≤ 32) (hm : ∀ p, tb m p = decide (p < n)) : Go.bits .and .u32 (x % 4294967296) m = x % 4294967296 := by
  have hp : (2 : Int) ^ n ≤ 4294967296 := by
    have : (2 : Nat) ^ n ≤ 2 ^ 32 := Nat.pow_le_pow_right (by decide) hn
    have h2 : ((2 ^ n : Nat) : Int) ≤ ((2 ^ 32 : Nat) : Int) := Int.ofNat_le.mpr this
    simpa using h2
  refine tb_ext (and32_in _ _).1 (and32_in _ _).2 (by omega) (by omega) fun p _ => ?_
  rw [tb_and, tb_mod, hm]
  by_cases hpn : p < n
  · simp [hpn]
  · rw [tb_small x n p h0 h1 (by omega)]; simp

end Go.Proofs.Ytnfkdmoblncclaa.X
