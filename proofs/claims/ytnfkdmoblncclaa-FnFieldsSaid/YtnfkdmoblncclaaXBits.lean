/- Whole numbers of 32 bits, bit by bit. -/
import Derived.Test.YtnfkdmoblncclaaXPre
namespace Go.Proofs.Ytnfkdmoblncclaa.X
open Go.RowKit Go.Proofs.YtnfkdmoblncclaaW.PrintWords Go.Proofs.YtnfkdmoblncclaaW.PrintLast Go.Proofs.YtnfkdmoblncclaaW.PrintMore

/-- Bit p of a whole number, cut to 32 bits. -/
def tb (x : Int) (p : Nat) : Bool := (BitVec.ofInt 32 x).getLsbD p

theorem wrap_nat32 (v : BitVec 32) : IntKind.u32.wrap (v.toNat : Int) = (v.toNat : Int) := by
  have := v.isLt
  rw [IntKind.wrap_u32]; omega

theorem or32 (x y : Int) : Go.bits .or .u32 x y = ((BitVec.ofInt 32 x ||| BitVec.ofInt 32 y).toNat : Int) := wrap_nat32 _
theorem and32 (x y : Int) : Go.bits .and .u32 x y = ((BitVec.ofInt 32 x &&& BitVec.ofInt 32 y).toNat : Int) := wrap_nat32 _
theorem andNot32 (x y : Int) : Go.bits .andNot .u32 x y = ((BitVec.ofInt 32 x &&& ~~~BitVec.ofInt 32 y).toNat : Int) := wrap_nat32 _

theorem or32_in (x y : Int) : 0 ≤ Go.bits .or .u32 x y ∧ Go.bits .or .u32 x y < 4294967296 := by
  rw [or32]; have := (BitVec.ofInt 32 x ||| BitVec.ofInt 32 y).isLt; omega
theorem and32_in (x y : Int) : 0 ≤ Go.bits .and .u32 x y ∧ Go.bits .and .u32 x y < 4294967296 := by
  rw [and32]; have := (BitVec.ofInt 32 x &&& BitVec.ofInt 32 y).isLt; omega
theorem andNot32_in (x y : Int) : 0 ≤ Go.bits .andNot .u32 x y ∧ Go.bits .andNot .u32 x y < 4294967296 := by
  rw [andNot32]; have := (BitVec.ofInt 32 x &&& ~~~BitVec.ofInt 32 y).isLt; omega

theorem ofInt_toNat (v : BitVec 32) : BitVec.ofInt 32 (v.toNat : Int) = v := by
  rw [BitVec.ofInt_natCast]; simp

theorem tb_or (x y : Int) (p : Nat) : tb (Go.bits .or .u32 x y) p = (tb x p || tb y p) := by
  unfold tb; rw [or32, ofInt_toNat, BitVec.getLsbD_or]
theorem tb_and (x y : Int) (p : Nat) : tb (Go.bits .and .u32 x y) p = (tb x p && tb y p) := by
  unfold tb; rw [and32, ofInt_toNat, BitVec.getLsbD_and]
theorem tb_andNot (x y : Int) (p : Nat) : tb (Go.bits .andNot .u32 x y) p = (tb x p && (decide (p < 32) && !tb y p)) := by
  unfold tb; rw [andNot32, ofInt_toNat, BitVec.getLsbD_and, BitVec.getLsbD_not]

theorem ofInt_mod (x : Int) : BitVec.ofInt 32 (x % 4294967296) = BitVec.ofInt 32 x := by
  apply BitVec.eq_of_toNat_eq
  rw [BitVec.toNat_ofInt, BitVec.toNat_ofInt]
  simp

theorem tb_mod (x : Int) (p : Nat) : tb (x % 4294967296) p = tb x p := by
  unfold tb; rw [ofInt_mod]

theorem ofInt_mul (x : Int) (k : Nat) : BitVec.ofInt 32 (x * 2 ^ k) = BitVec.ofInt 32 x <<< k := by
  apply BitVec.eq_of_toNat_eq
  rw [BitVec.toNat_shiftLeft, BitVec.toNat_ofInt, BitVec.toNat_ofInt, Nat.shiftLeft_eq]
  have h0 : 0 ≤ x % ((2 : Nat) ^ 32 : Nat) := Int.emod_nonneg _ (by decide)
  have h1 : 0 ≤ x * 2 ^ k % ((2 : Nat) ^ 32 : Nat) := Int.emod_nonneg _ (by decide)
  apply Int.ofNat.inj
  show ((x * 2 ^ k % ((2 : Nat) ^ 32 : Nat)).toNat : Int) = (((x % ((2 : Nat) ^ 32 : Nat)).toNat * 2 ^ k % 2 ^ 32 : Nat) : Int)
  rw [Int.toNat_of_nonneg h1, Int.natCast_emod, Int.natCast_mul, Int.toNat_of_nonneg h0, Int.natCast_pow, Int.natCast_pow]
  simp [Int.mul_emod]

theorem tb_mul (x : Int) (k p : Nat) : tb (x * 2 ^ k % 4294967296) p = (decide (p < 32) && !decide (p < k) && tb x (p - k)) := by
  rw [tb_mod]; unfold tb; rw [ofInt_mul, BitVec.getLsbD_shiftLeft]

theorem tb_div (x : Int) (k p : Nat) (h0 : 0 ≤ x) (h1 : x < 4294967296) : tb (x / 2 ^ k) p = tb x (k + p) := by
  obtain ⟨n, rfl⟩ := Int.eq_ofNat_of_zero_le h0
  have e : ((n : Int) / 2 ^ k) = ((n / 2 ^ k : Nat) : Int) := by simp
  unfold tb
  rw [e, BitVec.ofInt_natCast, BitVec.ofInt_natCast]
  have hn : n < 2 ^ 32 := by omega
  have hd : n / 2 ^ k < 2 ^ 32 := Nat.lt_of_le_of_lt (Nat.div_le_self _ _) hn
  simp only [BitVec.getLsbD_ofNat]
  rw [Nat.testBit_div_two_pow]
  by_cases hp : k + p < 32
  · have : p < 32 := by omega
    simp [hp, this, Nat.add_comm]
  · have hz : n.testBit (k + p) = false := Nat.testBit_lt_two_pow (Nat.lt_of_lt_of_le hn (Nat.pow_le_pow_right (by decide) (by omega)))
    rw [Nat.add_comm p k, hz]; simp

theorem tb_and_div (x y : Int) (k p : Nat) : tb (Go.bits .and .u32 x y / 2 ^ k) p = (tb x (k + p) && tb y (k + p)) := by
  rw [tb_div _ _ _ (and32_in x y).1 (and32_in x y).2, tb_and]

theorem tb_low (x : Int) (n p : Nat) (h0 : 0 ≤ x) : tb (x % 2 ^ n) p = (tb x p && decide (p < n)) := by
  obtain ⟨m, rfl⟩ := Int.eq_ofNat_of_zero_le h0
  have e : ((m : Int) % 2 ^ n) = ((m % 2 ^ n : Nat) : Int) := by simp
  unfold tb
  rw [e, BitVec.ofInt_natCast, BitVec.ofInt_natCast, BitVec.getLsbD_ofNat, BitVec.getLsbD_ofNat, Nat.testBit_mod_two_pow]
  cases decide (p < n) <;> simp

theorem tb_high (x : Int) (p : Nat) (h : 32 ≤ p) : tb x p = false := BitVec.getLsbD_of_ge _ _ h

theorem tb_ext {x y : Int} (hx0 : 0 ≤ x) (hx1 : x < 4294967296) (hy0 : 0 ≤ y) (hy1 : y < 4294967296) (h : ∀ p, p < 32 → tb x p = tb y p) : x = y := by
  have e : BitVec.ofInt 32 x = BitVec.ofInt 32 y := BitVec.eq_of_getLsbD_eq fun i hi => h i hi
  have := congrArg BitVec.toNat e
  rw [BitVec.toNat_ofInt, BitVec.toNat_ofInt] at this
  omega

/-- What lies below 2 ^ n has no bit from n on. -/
theorem tb_small (x : Int) (n p : Nat) (h0 : 0 ≤ x) (h1 : x < 2 ^ n) (hp : n ≤ p) : tb x p = false := by
  obtain ⟨m, rfl⟩ := Int.eq_ofNat_of_zero_le h0
  unfold tb
  rw [BitVec.ofInt_natCast, BitVec.getLsbD_ofNat]
  have hm : m < 2 ^ n := by exact_mod_cast h1
  rw [Nat.testBit_lt_two_pow (Nat.lt_of_lt_of_le hm (Nat.pow_le_pow_right (by decide) hp))]
  simp

/-- Two numbers below 2 ^ n are the same if their first n bits are. -/
theorem eq_of_tb {x y : Int} (n : Nat) (hn : n ≤ 32) (hx0 : 0 ≤ x) (hx1 : x < 2 ^ n) (hy0 : 0 ≤ y) (hy1 : y < 2 ^ n) (h : ∀ p, p < n → tb x p = tb y p) : x = y := by
  have hp : (2 : Int) ^ n ≤ 4294967296 := by
    have : (2 : Nat) ^ n ≤ 2 ^ 32 := Nat.pow_le_pow_right (by decide) hn
    have h2 : ((2 ^ n : Nat) : Int) ≤ ((2 ^ 32 : Nat) : Int) := Int.ofNat_le.mpr this
    simpa using h2
  refine tb_ext hx0 (by omega) hy0 (by omega) fun p hp32 => ?_
  by_cases hpn : p < n
  · exact h p hpn
  · rw [tb_small x n p hx0 hx1 (by omega), tb_small y n p hy0 hy1 (by omega)]

end Go.Proofs.Ytnfkdmoblncclaa.X
