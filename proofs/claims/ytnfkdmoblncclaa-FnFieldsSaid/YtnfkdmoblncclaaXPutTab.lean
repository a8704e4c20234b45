/- Each letter: its place, how many bits it has, and a number at its place. -/
import Derived.Test.YtnfkdmoblncclaaXPut
import Derived.Test.YtnfkdmoblncclaaXBitsK
namespace Go.Proofs.Ytnfkdmoblncclaa.X
open Go.RowKit Go.Proofs.YtnfkdmoblncclaaW.PrintWords Go.Proofs.YtnfkdmoblncclaaW.PrintLast Go.Proofs.YtnfkdmoblncclaaW.PrintMore
attribute [local go_sem] max2_int min2_int max_two min_two max_three min_three max_four min_four   -- for this text's walks alone
set_option linter.unusedVariables false
set_option linter.unusedSimpArgs false

theorem mask64 (n m : Int) (s : Nat) (hs : s ≤ 63) (hm : m = 2 ^ s - 1) (h0 : 0 ≤ n) (h1 : n < 9223372036854775808) : Go.bits .and .i64 n m = n % 2 ^ s := by
  subst hm
  refine bits_mask .i64 63 (by decide +kernel) (fun x g0 g1 => ?_) s hs n h0 (by simpa using h1)
  rw [IntKind.wrap_i64]
  have : (2 : Int) ^ 63 = 9223372036854775808 := by decide
  omega
theorem shl_u32 (x y : Int) (t : Nat) (h : y = (t : Int)) (ht : t ≤ 32) : shl .u32 x y = x * 2 ^ t % 4294967296 := by
  subst h
  unfold shl
  rw [IntKind.wrap_u32]
  have e : min ((t : Int)).toNat (IntKind.u32).bits = t := by
    have : (IntKind.u32).bits = 32 := rfl
    rw [this]; simp; omega
  rw [e]
theorem shr_i64 (x y : Int) (t : Nat) (h : y = (t : Int)) (ht : t ≤ 64) : shr .i64 x y = x / 2 ^ t := by
  subst h
  unfold shr
  have e : min ((t : Int)).toNat (IntKind.i64).bits = t := by
    have : (IntKind.i64).bits = 64 := rfl
    rw [this]; simp; omega
  rw [e]
theorem place_A (k : Nat) (hk : 10 ≤ k) : spec_place.f k 65 = some (11, 15, (-1)) := by
  rfl
theorem size_A (k : Nat) (hk : 10 ≤ k) : spec_Size.f k 65 = some 5 := by
  unfold spec_Size.f
  rw [place_A k hk]
  simp only [Option.bind_some]
  rw [if_neg (by decide +kernel)]; decide +kernel
theorem put_A (k : Nat) (hk : 10 ≤ k) (n : Int) (h0 : 0 ≤ n) (h1 : n < 32) : spec_Put.f k n 65 = some (n * 65536 % 4294967296) := by
  unfold spec_Put.f
  rw [place_A k hk]
  simp only [Option.bind_some]
  rw [if_pos (by decide +kernel), if_pos (by decide +kernel), if_neg (by decide +kernel)]
  rw [shl_u32 _ _ 16 (by decide +kernel) (by decide +kernel), mask64 n _ 5 (by decide +kernel) (by decide +kernel) h0 (by omega)]
  have e : n % 2 ^ 5 % 4294967296 = n := by omega
  rw [e]; first | rfl | simp
theorem place_B (k : Nat) (hk : 10 ≤ k) : spec_place.f k 66 = some (16, 20, (-1)) := by
  rfl
theorem size_B (k : Nat) (hk : 10 ≤ k) : spec_Size.f k 66 = some 5 := by
  unfold spec_Size.f
  rw [place_B k hk]
  simp only [Option.bind_some]
  rw [if_neg (by decide +kernel)]; decide +kernel
theorem put_B (k : Nat) (hk : 10 ≤ k) (n : Int) (h0 : 0 ≤ n) (h1 : n < 32) : spec_Put.f k n 66 = some (n * 2048 % 4294967296) := by
  unfold spec_Put.f
  rw [place_B k hk]
  simp only [Option.bind_some]
  rw [if_pos (by decide +kernel), if_pos (by decide +kernel), if_neg (by decide +kernel)]
  rw [shl_u32 _ _ 11 (by decide +kernel) (by decide +kernel), mask64 n _ 5 (by decide +kernel) (by decide +kernel) h0 (by omega)]
  have e : n % 2 ^ 5 % 4294967296 = n := by omega
  rw [e]; first | rfl | simp
theorem place_D (k : Nat) (hk : 10 ≤ k) : spec_place.f k 68 = some (16, 27, (-1)) := by
  rfl
theorem size_D (k : Nat) (hk : 10 ≤ k) : spec_Size.f k 68 = some 12 := by
  unfold spec_Size.f
  rw [place_D k hk]
  simp only [Option.bind_some]
  rw [if_neg (by decide +kernel)]; decide +kernel
theorem put_D (k : Nat) (hk : 10 ≤ k) (n : Int) (h0 : 0 ≤ n) (h1 : n < 4096) : spec_Put.f k n 68 = some (n * 16 % 4294967296) := by
  unfold spec_Put.f
  rw [place_D k hk]
  simp only [Option.bind_some]
  rw [if_pos (by decide +kernel), if_pos (by decide +kernel), if_neg (by decide +kernel)]
  rw [shl_u32 _ _ 4 (by decide +kernel) (by decide +kernel), mask64 n _ 12 (by decide +kernel) (by decide +kernel) h0 (by omega)]
  have e : n % 2 ^ 12 % 4294967296 = n := by omega
  rw [e]; first | rfl | simp
theorem place_I (k : Nat) (hk : 10 ≤ k) : spec_place.f k 73 = some (6, 10, 28) := by
  rfl
theorem size_I (k : Nat) (hk : 10 ≤ k) : spec_Size.f k 73 = some 6 := by
  unfold spec_Size.f
  rw [place_I k hk]
  simp only [Option.bind_some]
  rw [if_pos (by decide +kernel)]; decide +kernel
theorem put_I (k : Nat) (hk : 10 ≤ k) (n : Int) (h0 : 0 ≤ n) (h1 : n < 64) : spec_Put.f k n 73 = some (Go.bits .or .u32 (n % 32 * 2097152 % 4294967296) (n / 32 * 8 % 4294967296)) := by
  unfold spec_Put.f
  rw [place_I k hk]
  simp only [Option.bind_some]
  rw [if_pos (by decide +kernel), if_pos (by decide +kernel), if_pos (by decide +kernel), if_pos (by decide +kernel)]
  rw [shl_u32 _ _ 21 (by decide +kernel) (by decide +kernel), shl_u32 _ _ 3 (by decide +kernel) (by decide +kernel), mask64 n _ 5 (by decide +kernel) (by decide +kernel) h0 (by omega), shr_i64 n _ 5 (by decide +kernel) (by decide +kernel)]
  rw [mask64 (n / 2 ^ 5) 1 1 (by decide +kernel) (by decide +kernel) (by omega) (by omega)]
  have e : n % 2 ^ 5 % 4294967296 = n % 32 := by omega
  have e2 : n / 2 ^ 5 % 2 ^ 1 % 4294967296 = n / 32 := by omega
  rw [e, e2]; first | rfl | simp
theorem place_M (k : Nat) (hk : 10 ≤ k) : spec_place.f k 77 = some (21, 25, 26) := by
  rfl
theorem size_M (k : Nat) (hk : 10 ≤ k) : spec_Size.f k 77 = some 6 := by
  unfold spec_Size.f
  rw [place_M k hk]
  simp only [Option.bind_some]
  rw [if_pos (by decide +kernel)]; decide +kernel
theorem put_M (k : Nat) (hk : 10 ≤ k) (n : Int) (h0 : 0 ≤ n) (h1 : n < 64) : spec_Put.f k n 77 = some (Go.bits .or .u32 (n % 32 * 64 % 4294967296) (n / 32 * 32 % 4294967296)) := by
  unfold spec_Put.f
  rw [place_M k hk]
  simp only [Option.bind_some]
  rw [if_pos (by decide +kernel), if_pos (by decide +kernel), if_pos (by decide +kernel), if_pos (by decide +kernel)]
  rw [shl_u32 _ _ 6 (by decide +kernel) (by decide +kernel), shl_u32 _ _ 5 (by decide +kernel) (by decide +kernel), mask64 n _ 5 (by decide +kernel) (by decide +kernel) h0 (by omega), shr_i64 n _ 5 (by decide +kernel) (by decide +kernel)]
  rw [mask64 (n / 2 ^ 5) 1 1 (by decide +kernel) (by decide +kernel) (by omega) (by omega)]
  have e : n % 2 ^ 5 % 4294967296 = n % 32 := by omega
  have e2 : n / 2 ^ 5 % 2 ^ 1 % 4294967296 = n / 32 := by omega
  rw [e, e2]; first | rfl | simp
theorem place_N (k : Nat) (hk : 10 ≤ k) : spec_place.f k 78 = some (14, 15, (-1)) := by
  rfl
theorem size_N (k : Nat) (hk : 10 ≤ k) : spec_Size.f k 78 = some 2 := by
  unfold spec_Size.f
  rw [place_N k hk]
  simp only [Option.bind_some]
  rw [if_neg (by decide +kernel)]; decide +kernel
theorem put_N (k : Nat) (hk : 10 ≤ k) (n : Int) (h0 : 0 ≤ n) (h1 : n < 4) : spec_Put.f k n 78 = some (n * 65536 % 4294967296) := by
  unfold spec_Put.f
  rw [place_N k hk]
  simp only [Option.bind_some]
  rw [if_pos (by decide +kernel), if_pos (by decide +kernel), if_neg (by decide +kernel)]
  rw [shl_u32 _ _ 16 (by decide +kernel) (by decide +kernel), mask64 n _ 2 (by decide +kernel) (by decide +kernel) h0 (by omega)]
  have e : n % 2 ^ 2 % 4294967296 = n := by omega
  rw [e]; first | rfl | simp
theorem place_O (k : Nat) (hk : 10 ≤ k) : spec_place.f k 79 = some (6, 10, (-1)) := by
  rfl
theorem size_O (k : Nat) (hk : 10 ≤ k) : spec_Size.f k 79 = some 5 := by
  unfold spec_Size.f
  rw [place_O k hk]
  simp only [Option.bind_some]
  rw [if_neg (by decide +kernel)]; decide +kernel
theorem put_O (k : Nat) (hk : 10 ≤ k) (n : Int) (h0 : 0 ≤ n) (h1 : n < 32) : spec_Put.f k n 79 = some (n * 2097152 % 4294967296) := by
  unfold spec_Put.f
  rw [place_O k hk]
  simp only [Option.bind_some]
  rw [if_pos (by decide +kernel), if_pos (by decide +kernel), if_neg (by decide +kernel)]
  rw [shl_u32 _ _ 21 (by decide +kernel) (by decide +kernel), mask64 n _ 5 (by decide +kernel) (by decide +kernel) h0 (by omega)]
  have e : n % 2 ^ 5 % 4294967296 = n := by omega
  rw [e]; first | rfl | simp
theorem place_Q (k : Nat) (hk : 10 ≤ k) : spec_place.f k 81 = some (17, 20, (-1)) := by
  rfl
theorem size_Q (k : Nat) (hk : 10 ≤ k) : spec_Size.f k 81 = some 4 := by
  unfold spec_Size.f
  rw [place_Q k hk]
  simp only [Option.bind_some]
  rw [if_neg (by decide +kernel)]; decide +kernel
theorem put_Q (k : Nat) (hk : 10 ≤ k) (n : Int) (h0 : 0 ≤ n) (h1 : n < 16) : spec_Put.f k n 81 = some (n * 2048 % 4294967296) := by
  unfold spec_Put.f
  rw [place_Q k hk]
  simp only [Option.bind_some]
  rw [if_pos (by decide +kernel), if_pos (by decide +kernel), if_neg (by decide +kernel)]
  rw [shl_u32 _ _ 11 (by decide +kernel) (by decide +kernel), mask64 n _ 4 (by decide +kernel) (by decide +kernel) h0 (by omega)]
  have e : n % 2 ^ 4 % 4294967296 = n := by omega
  rw [e]; first | rfl | simp
theorem place_R (k : Nat) (hk : 10 ≤ k) : spec_place.f k 82 = some (16, 16, (-1)) := by
  rfl
theorem size_R (k : Nat) (hk : 10 ≤ k) : spec_Size.f k 82 = some 1 := by
  unfold spec_Size.f
  rw [place_R k hk]
  simp only [Option.bind_some]
  rw [if_neg (by decide +kernel)]; decide +kernel
theorem put_R (k : Nat) (hk : 10 ≤ k) (n : Int) (h0 : 0 ≤ n) (h1 : n < 2) : spec_Put.f k n 82 = some (n * 32768 % 4294967296) := by
  unfold spec_Put.f
  rw [place_R k hk]
  simp only [Option.bind_some]
  rw [if_pos (by decide +kernel), if_pos (by decide +kernel), if_neg (by decide +kernel)]
  rw [shl_u32 _ _ 15 (by decide +kernel) (by decide +kernel), mask64 n _ 1 (by decide +kernel) (by decide +kernel) h0 (by omega)]
  have e : n % 2 ^ 1 % 4294967296 = n := by omega
  rw [e]; first | rfl | simp
theorem place_T (k : Nat) (hk : 10 ≤ k) : spec_place.f k 84 = some (6, 10, (-1)) := by
  rfl
theorem size_T (k : Nat) (hk : 10 ≤ k) : spec_Size.f k 84 = some 5 := by
  unfold spec_Size.f
  rw [place_T k hk]
  simp only [Option.bind_some]
  rw [if_neg (by decide +kernel)]; decide +kernel
theorem put_T (k : Nat) (hk : 10 ≤ k) (n : Int) (h0 : 0 ≤ n) (h1 : n < 32) : spec_Put.f k n 84 = some (n * 2097152 % 4294967296) := by
  unfold spec_Put.f
  rw [place_T k hk]
  simp only [Option.bind_some]
  rw [if_pos (by decide +kernel), if_pos (by decide +kernel), if_neg (by decide +kernel)]
  rw [shl_u32 _ _ 21 (by decide +kernel) (by decide +kernel), mask64 n _ 5 (by decide +kernel) (by decide +kernel) h0 (by omega)]
  have e : n % 2 ^ 5 % 4294967296 = n := by omega
  rw [e]; first | rfl | simp
theorem place_U (k : Nat) (hk : 10 ≤ k) : spec_place.f k 85 = some (11, 15, (-1)) := by
  rfl
theorem size_U (k : Nat) (hk : 10 ≤ k) : spec_Size.f k 85 = some 5 := by
  unfold spec_Size.f
  rw [place_U k hk]
  simp only [Option.bind_some]
  rw [if_neg (by decide +kernel)]; decide +kernel
theorem put_U (k : Nat) (hk : 10 ≤ k) (n : Int) (h0 : 0 ≤ n) (h1 : n < 32) : spec_Put.f k n 85 = some (n * 65536 % 4294967296) := by
  unfold spec_Put.f
  rw [place_U k hk]
  simp only [Option.bind_some]
  rw [if_pos (by decide +kernel), if_pos (by decide +kernel), if_neg (by decide +kernel)]
  rw [shl_u32 _ _ 16 (by decide +kernel) (by decide +kernel), mask64 n _ 5 (by decide +kernel) (by decide +kernel) h0 (by omega)]
  have e : n % 2 ^ 5 % 4294967296 = n := by omega
  rw [e]; first | rfl | simp
theorem place_Y (k : Nat) (hk : 10 ≤ k) : spec_place.f k 89 = some (21, 25, (-1)) := by
  rfl
theorem size_Y (k : Nat) (hk : 10 ≤ k) : spec_Size.f k 89 = some 5 := by
  unfold spec_Size.f
  rw [place_Y k hk]
  simp only [Option.bind_some]
  rw [if_neg (by decide +kernel)]; decide +kernel
theorem put_Y (k : Nat) (hk : 10 ≤ k) (n : Int) (h0 : 0 ≤ n) (h1 : n < 32) : spec_Put.f k n 89 = some (n * 64 % 4294967296) := by
  unfold spec_Put.f
  rw [place_Y k hk]
  simp only [Option.bind_some]
  rw [if_pos (by decide +kernel), if_pos (by decide +kernel), if_neg (by decide +kernel)]
  rw [shl_u32 _ _ 6 (by decide +kernel) (by decide +kernel), mask64 n _ 5 (by decide +kernel) (by decide +kernel) h0 (by omega)]
  have e : n % 2 ^ 5 % 4294967296 = n := by omega
  rw [e]; first | rfl | simp
theorem place_Z (k : Nat) (hk : 10 ≤ k) : spec_place.f k 90 = some (22, 25, (-1)) := by
  rfl
theorem size_Z (k : Nat) (hk : 10 ≤ k) : spec_Size.f k 90 = some 4 := by
  unfold spec_Size.f
  rw [place_Z k hk]
  simp only [Option.bind_some]
  rw [if_neg (by decide +kernel)]; decide +kernel
theorem put_Z (k : Nat) (hk : 10 ≤ k) (n : Int) (h0 : 0 ≤ n) (h1 : n < 16) : spec_Put.f k n 90 = some (n * 64 % 4294967296) := by
  unfold spec_Put.f
  rw [place_Z k hk]
  simp only [Option.bind_some]
  rw [if_pos (by decide +kernel), if_pos (by decide +kernel), if_neg (by decide +kernel)]
  rw [shl_u32 _ _ 6 (by decide +kernel) (by decide +kernel), mask64 n _ 4 (by decide +kernel) (by decide +kernel) h0 (by omega)]
  have e : n % 2 ^ 4 % 4294967296 = n := by omega
  rw [e]; first | rfl | simp
theorem place_a (k : Nat) (hk : 10 ≤ k) : spec_place.f k 97 = some (11, 15, (-1)) := by
  rfl
theorem size_a (k : Nat) (hk : 10 ≤ k) : spec_Size.f k 97 = some 5 := by
  unfold spec_Size.f
  rw [place_a k hk]
  simp only [Option.bind_some]
  rw [if_neg (by decide +kernel)]; decide +kernel
theorem put_a (k : Nat) (hk : 10 ≤ k) (n : Int) (h0 : 0 ≤ n) (h1 : n < 32) : spec_Put.f k n 97 = some (n * 65536 % 4294967296) := by
  unfold spec_Put.f
  rw [place_a k hk]
  simp only [Option.bind_some]
  rw [if_pos (by decide +kernel), if_pos (by decide +kernel), if_neg (by decide +kernel)]
  rw [shl_u32 _ _ 16 (by decide +kernel) (by decide +kernel), mask64 n _ 5 (by decide +kernel) (by decide +kernel) h0 (by omega)]
  have e : n % 2 ^ 5 % 4294967296 = n := by omega
  rw [e]; first | rfl | simp
theorem place_b (k : Nat) (hk : 10 ≤ k) : spec_place.f k 98 = some (21, 25, (-1)) := by
  rfl
theorem size_b (k : Nat) (hk : 10 ≤ k) : spec_Size.f k 98 = some 5 := by
  unfold spec_Size.f
  rw [place_b k hk]
  simp only [Option.bind_some]
  rw [if_neg (by decide +kernel)]; decide +kernel
theorem put_b (k : Nat) (hk : 10 ≤ k) (n : Int) (h0 : 0 ≤ n) (h1 : n < 32) : spec_Put.f k n 98 = some (n * 64 % 4294967296) := by
  unfold spec_Put.f
  rw [place_b k hk]
  simp only [Option.bind_some]
  rw [if_pos (by decide +kernel), if_pos (by decide +kernel), if_neg (by decide +kernel)]
  rw [shl_u32 _ _ 6 (by decide +kernel) (by decide +kernel), mask64 n _ 5 (by decide +kernel) (by decide +kernel) h0 (by omega)]
  have e : n % 2 ^ 5 % 4294967296 = n := by omega
  rw [e]; first | rfl | simp
theorem place_e (k : Nat) (hk : 10 ≤ k) : spec_place.f k 101 = some (26, 30, (-1)) := by
  rfl
theorem size_e (k : Nat) (hk : 10 ≤ k) : spec_Size.f k 101 = some 5 := by
  unfold spec_Size.f
  rw [place_e k hk]
  simp only [Option.bind_some]
  rw [if_neg (by decide +kernel)]; decide +kernel
theorem put_e (k : Nat) (hk : 10 ≤ k) (n : Int) (h0 : 0 ≤ n) (h1 : n < 32) : spec_Put.f k n 101 = some (n * 2 % 4294967296) := by
  unfold spec_Put.f
  rw [place_e k hk]
  simp only [Option.bind_some]
  rw [if_pos (by decide +kernel), if_pos (by decide +kernel), if_neg (by decide +kernel)]
  rw [shl_u32 _ _ 1 (by decide +kernel) (by decide +kernel), mask64 n _ 5 (by decide +kernel) (by decide +kernel) h0 (by omega)]
  have e : n % 2 ^ 5 % 4294967296 = n := by omega
  rw [e]; first | rfl | simp
theorem place_g (k : Nat) (hk : 10 ≤ k) : spec_place.f k 103 = some (16, 20, 30) := by
  rfl
theorem size_g (k : Nat) (hk : 10 ≤ k) : spec_Size.f k 103 = some 6 := by
  unfold spec_Size.f
  rw [place_g k hk]
  simp only [Option.bind_some]
  rw [if_pos (by decide +kernel)]; decide +kernel
theorem put_g (k : Nat) (hk : 10 ≤ k) (n : Int) (h0 : 0 ≤ n) (h1 : n < 64) : spec_Put.f k n 103 = some (Go.bits .or .u32 (n % 32 * 2048 % 4294967296) (n / 32 * 2 % 4294967296)) := by
  unfold spec_Put.f
  rw [place_g k hk]
  simp only [Option.bind_some]
  rw [if_pos (by decide +kernel), if_pos (by decide +kernel), if_pos (by decide +kernel), if_pos (by decide +kernel)]
  rw [shl_u32 _ _ 11 (by decide +kernel) (by decide +kernel), shl_u32 _ _ 1 (by decide +kernel) (by decide +kernel), mask64 n _ 5 (by decide +kernel) (by decide +kernel) h0 (by omega), shr_i64 n _ 5 (by decide +kernel) (by decide +kernel)]
  rw [mask64 (n / 2 ^ 5) 1 1 (by decide +kernel) (by decide +kernel) (by omega) (by omega)]
  have e : n % 2 ^ 5 % 4294967296 = n % 32 := by omega
  have e2 : n / 2 ^ 5 % 2 ^ 1 % 4294967296 = n / 32 := by omega
  rw [e, e2]; first | rfl | simp
theorem place_h (k : Nat) (hk : 10 ≤ k) : spec_place.f k 104 = some (16, 20, (-1)) := by
  rfl
theorem size_h (k : Nat) (hk : 10 ≤ k) : spec_Size.f k 104 = some 5 := by
  unfold spec_Size.f
  rw [place_h k hk]
  simp only [Option.bind_some]
  rw [if_neg (by decide +kernel)]; decide +kernel
theorem put_h (k : Nat) (hk : 10 ≤ k) (n : Int) (h0 : 0 ≤ n) (h1 : n < 32) : spec_Put.f k n 104 = some (n * 2048 % 4294967296) := by
  unfold spec_Put.f
  rw [place_h k hk]
  simp only [Option.bind_some]
  rw [if_pos (by decide +kernel), if_pos (by decide +kernel), if_neg (by decide +kernel)]
  rw [shl_u32 _ _ 11 (by decide +kernel) (by decide +kernel), mask64 n _ 5 (by decide +kernel) (by decide +kernel) h0 (by omega)]
  have e : n % 2 ^ 5 % 4294967296 = n := by omega
  rw [e]; first | rfl | simp
theorem place_i (k : Nat) (hk : 10 ≤ k) : spec_place.f k 105 = some (6, 10, 31) := by
  rfl
theorem size_i (k : Nat) (hk : 10 ≤ k) : spec_Size.f k 105 = some 6 := by
  unfold spec_Size.f
  rw [place_i k hk]
  simp only [Option.bind_some]
  rw [if_pos (by decide +kernel)]; decide +kernel
theorem put_i (k : Nat) (hk : 10 ≤ k) (n : Int) (h0 : 0 ≤ n) (h1 : n < 64) : spec_Put.f k n 105 = some (Go.bits .or .u32 (n % 32 * 2097152 % 4294967296) (n / 32 * 1 % 4294967296)) := by
  unfold spec_Put.f
  rw [place_i k hk]
  simp only [Option.bind_some]
  rw [if_pos (by decide +kernel), if_pos (by decide +kernel), if_pos (by decide +kernel), if_pos (by decide +kernel)]
  rw [shl_u32 _ _ 21 (by decide +kernel) (by decide +kernel), shl_u32 _ _ 0 (by decide +kernel) (by decide +kernel), mask64 n _ 5 (by decide +kernel) (by decide +kernel) h0 (by omega), shr_i64 n _ 5 (by decide +kernel) (by decide +kernel)]
  rw [mask64 (n / 2 ^ 5) 1 1 (by decide +kernel) (by decide +kernel) (by omega) (by omega)]
  have e : n % 2 ^ 5 % 4294967296 = n % 32 := by omega
  have e2 : n / 2 ^ 5 % 2 ^ 1 % 4294967296 = n / 32 := by omega
  rw [e, e2]; first | rfl | simp
theorem place_j (k : Nat) (hk : 10 ≤ k) : spec_place.f k 106 = some (11, 15, 29) := by
  rfl
theorem size_j (k : Nat) (hk : 10 ≤ k) : spec_Size.f k 106 = some 6 := by
  unfold spec_Size.f
  rw [place_j k hk]
  simp only [Option.bind_some]
  rw [if_pos (by decide +kernel)]; decide +kernel
theorem put_j (k : Nat) (hk : 10 ≤ k) (n : Int) (h0 : 0 ≤ n) (h1 : n < 64) : spec_Put.f k n 106 = some (Go.bits .or .u32 (n % 32 * 65536 % 4294967296) (n / 32 * 4 % 4294967296)) := by
  unfold spec_Put.f
  rw [place_j k hk]
  simp only [Option.bind_some]
  rw [if_pos (by decide +kernel), if_pos (by decide +kernel), if_pos (by decide +kernel), if_pos (by decide +kernel)]
  rw [shl_u32 _ _ 16 (by decide +kernel) (by decide +kernel), shl_u32 _ _ 2 (by decide +kernel) (by decide +kernel), mask64 n _ 5 (by decide +kernel) (by decide +kernel) h0 (by omega), shr_i64 n _ 5 (by decide +kernel) (by decide +kernel)]
  rw [mask64 (n / 2 ^ 5) 1 1 (by decide +kernel) (by decide +kernel) (by omega) (by omega)]
  have e : n % 2 ^ 5 % 4294967296 = n % 32 := by omega
  have e2 : n / 2 ^ 5 % 2 ^ 1 % 4294967296 = n / 32 := by omega
  rw [e, e2]; first | rfl | simp
theorem place_k (k : Nat) (hk : 10 ≤ k) : spec_place.f k 107 = some (16, 20, 30) := by
  rfl
theorem size_k (k : Nat) (hk : 10 ≤ k) : spec_Size.f k 107 = some 6 := by
  unfold spec_Size.f
  rw [place_k k hk]
  simp only [Option.bind_some]
  rw [if_pos (by decide +kernel)]; decide +kernel
theorem put_k (k : Nat) (hk : 10 ≤ k) (n : Int) (h0 : 0 ≤ n) (h1 : n < 64) : spec_Put.f k n 107 = some (Go.bits .or .u32 (n % 32 * 2048 % 4294967296) (n / 32 * 2 % 4294967296)) := by
  unfold spec_Put.f
  rw [place_k k hk]
  simp only [Option.bind_some]
  rw [if_pos (by decide +kernel), if_pos (by decide +kernel), if_pos (by decide +kernel), if_pos (by decide +kernel)]
  rw [shl_u32 _ _ 11 (by decide +kernel) (by decide +kernel), shl_u32 _ _ 1 (by decide +kernel) (by decide +kernel), mask64 n _ 5 (by decide +kernel) (by decide +kernel) h0 (by omega), shr_i64 n _ 5 (by decide +kernel) (by decide +kernel)]
  rw [mask64 (n / 2 ^ 5) 1 1 (by decide +kernel) (by decide +kernel) (by omega) (by omega)]
  have e : n % 2 ^ 5 % 4294967296 = n % 32 := by omega
  have e2 : n / 2 ^ 5 % 2 ^ 1 % 4294967296 = n / 32 := by omega
  rw [e, e2]; first | rfl | simp
theorem place_m (k : Nat) (hk : 10 ≤ k) : spec_place.f k 109 = some (21, 25, (-1)) := by
  rfl
theorem size_m (k : Nat) (hk : 10 ≤ k) : spec_Size.f k 109 = some 5 := by
  unfold spec_Size.f
  rw [place_m k hk]
  simp only [Option.bind_some]
  rw [if_neg (by decide +kernel)]; decide +kernel
theorem put_m (k : Nat) (hk : 10 ≤ k) (n : Int) (h0 : 0 ≤ n) (h1 : n < 32) : spec_Put.f k n 109 = some (n * 64 % 4294967296) := by
  unfold spec_Put.f
  rw [place_m k hk]
  simp only [Option.bind_some]
  rw [if_pos (by decide +kernel), if_pos (by decide +kernel), if_neg (by decide +kernel)]
  rw [shl_u32 _ _ 6 (by decide +kernel) (by decide +kernel), mask64 n _ 5 (by decide +kernel) (by decide +kernel) h0 (by omega)]
  have e : n % 2 ^ 5 % 4294967296 = n := by omega
  rw [e]; first | rfl | simp
theorem place_n (k : Nat) (hk : 10 ≤ k) : spec_place.f k 110 = some (22, 23, (-1)) := by
  rfl
theorem size_n (k : Nat) (hk : 10 ≤ k) : spec_Size.f k 110 = some 2 := by
  unfold spec_Size.f
  rw [place_n k hk]
  simp only [Option.bind_some]
  rw [if_neg (by decide +kernel)]; decide +kernel
theorem put_n (k : Nat) (hk : 10 ≤ k) (n : Int) (h0 : 0 ≤ n) (h1 : n < 4) : spec_Put.f k n 110 = some (n * 256 % 4294967296) := by
  unfold spec_Put.f
  rw [place_n k hk]
  simp only [Option.bind_some]
  rw [if_pos (by decide +kernel), if_pos (by decide +kernel), if_neg (by decide +kernel)]
  rw [shl_u32 _ _ 8 (by decide +kernel) (by decide +kernel), mask64 n _ 2 (by decide +kernel) (by decide +kernel) h0 (by omega)]
  have e : n % 2 ^ 2 % 4294967296 = n := by omega
  rw [e]; first | rfl | simp
theorem place_q (k : Nat) (hk : 10 ≤ k) : spec_place.f k 113 = some (21, 25, 28) := by
  rfl
theorem size_q (k : Nat) (hk : 10 ≤ k) : spec_Size.f k 113 = some 6 := by
  unfold spec_Size.f
  rw [place_q k hk]
  simp only [Option.bind_some]
  rw [if_pos (by decide +kernel)]; decide +kernel
theorem put_q (k : Nat) (hk : 10 ≤ k) (n : Int) (h0 : 0 ≤ n) (h1 : n < 64) : spec_Put.f k n 113 = some (Go.bits .or .u32 (n % 32 * 64 % 4294967296) (n / 32 * 8 % 4294967296)) := by
  unfold spec_Put.f
  rw [place_q k hk]
  simp only [Option.bind_some]
  rw [if_pos (by decide +kernel), if_pos (by decide +kernel), if_pos (by decide +kernel), if_pos (by decide +kernel)]
  rw [shl_u32 _ _ 6 (by decide +kernel) (by decide +kernel), shl_u32 _ _ 3 (by decide +kernel) (by decide +kernel), mask64 n _ 5 (by decide +kernel) (by decide +kernel) h0 (by omega), shr_i64 n _ 5 (by decide +kernel) (by decide +kernel)]
  rw [mask64 (n / 2 ^ 5) 1 1 (by decide +kernel) (by decide +kernel) (by omega) (by omega)]
  have e : n % 2 ^ 5 % 4294967296 = n % 32 := by omega
  have e2 : n / 2 ^ 5 % 2 ^ 1 % 4294967296 = n / 32 := by omega
  rw [e, e2]; first | rfl | simp
theorem place_u (k : Nat) (hk : 10 ≤ k) : spec_place.f k 117 = some (16, 31, (-1)) := by
  rfl
theorem size_u (k : Nat) (hk : 10 ≤ k) : spec_Size.f k 117 = some 16 := by
  unfold spec_Size.f
  rw [place_u k hk]
  simp only [Option.bind_some]
  rw [if_neg (by decide +kernel)]; decide +kernel
theorem put_u (k : Nat) (hk : 10 ≤ k) (n : Int) (h0 : 0 ≤ n) (h1 : n < 65536) : spec_Put.f k n 117 = some (n * 1 % 4294967296) := by
  unfold spec_Put.f
  rw [place_u k hk]
  simp only [Option.bind_some]
  rw [if_pos (by decide +kernel), if_pos (by decide +kernel), if_neg (by decide +kernel)]
  rw [shl_u32 _ _ 0 (by decide +kernel) (by decide +kernel), mask64 n _ 16 (by decide +kernel) (by decide +kernel) h0 (by omega)]
  have e : n % 2 ^ 16 % 4294967296 = n := by omega
  rw [e]; first | rfl | simp
theorem place_v (k : Nat) (hk : 10 ≤ k) : spec_place.f k 118 = some (31, 31, (-1)) := by
  rfl
theorem size_v (k : Nat) (hk : 10 ≤ k) : spec_Size.f k 118 = some 1 := by
  unfold spec_Size.f
  rw [place_v k hk]
  simp only [Option.bind_some]
  rw [if_neg (by decide +kernel)]; decide +kernel
theorem put_v (k : Nat) (hk : 10 ≤ k) (n : Int) (h0 : 0 ≤ n) (h1 : n < 2) : spec_Put.f k n 118 = some (n * 1 % 4294967296) := by
  unfold spec_Put.f
  rw [place_v k hk]
  simp only [Option.bind_some]
  rw [if_pos (by decide +kernel), if_pos (by decide +kernel), if_neg (by decide +kernel)]
  rw [shl_u32 _ _ 0 (by decide +kernel) (by decide +kernel), mask64 n _ 1 (by decide +kernel) (by decide +kernel) h0 (by omega)]
  have e : n % 2 ^ 1 % 4294967296 = n := by omega
  rw [e]; first | rfl | simp
theorem place_z (k : Nat) (hk : 10 ≤ k) : spec_place.f k 122 = some (21, 22, (-1)) := by
  rfl
theorem size_z (k : Nat) (hk : 10 ≤ k) : spec_Size.f k 122 = some 2 := by
  unfold spec_Size.f
  rw [place_z k hk]
  simp only [Option.bind_some]
  rw [if_neg (by decide +kernel)]; decide +kernel
theorem put_z (k : Nat) (hk : 10 ≤ k) (n : Int) (h0 : 0 ≤ n) (h1 : n < 4) : spec_Put.f k n 122 = some (n * 512 % 4294967296) := by
  unfold spec_Put.f
  rw [place_z k hk]
  simp only [Option.bind_some]
  rw [if_pos (by decide +kernel), if_pos (by decide +kernel), if_neg (by decide +kernel)]
  rw [shl_u32 _ _ 9 (by decide +kernel) (by decide +kernel), mask64 n _ 2 (by decide +kernel) (by decide +kernel) h0 (by omega)]
  have e : n % 2 ^ 2 % 4294967296 = n := by omega
  rw [e]; first | rfl | simp

end Go.Proofs.Ytnfkdmoblncclaa.X
