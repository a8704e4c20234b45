/- An address of sixteens has a vector register of six bits, and the lowest four bits of a distance are left out: the law answers true at every input. -/
import Derived.Test.YtnfkdmoblncclaaXTab
import Derived.Test.YtnfkdmoblncclaaXBitsK
import Derived.Test.YtnfkdmoblncclaaXPutTab
import Derived.Test.YtnfkdmoblncclaaXFnSixteens
import Derived.OpenShut
namespace Go.Proofs.Ytnfkdmoblncclaa.Pure
open Go.RowKit Go.Proofs.Ytnfkdmoblncclaa.X Go.Proofs.YtnfkdmoblncclaaW.PrintWords Go.Proofs.YtnfkdmoblncclaaW.PrintLast Go.Proofs.YtnfkdmoblncclaaW.PrintMore

/-- The word of the code against the reference's. -/
theorem sixteens_word (c x y z : Int) (x0 : 0 ≤ x) (x1 : x ≤ 63) (y0 : 0 ≤ y) (y1 : y ≤ 31) (z0 : 0 ≤ z) (z1 : z ≤ 65535) :
    Go.bits .or .u32 (Go.bits .or .u32 (Go.bits .or .u32 (Go.bits .or .u32 (c % 4294967296) (Go.bits .and .u32 (x % 4294967296) 31 * 2097152 % 4294967296)) (Go.bits .and .u32 (y % 4294967296) 31 * 65536 % 4294967296)) (Go.bits .and .u32 (z % 4294967296 / 16) 4095 * 16 % 4294967296)) (Go.bits .and .u32 (x % 4294967296) 32 / 4) =
    Go.bits .or .u32 (Go.bits .or .u32 (Go.bits .or .u32 c (Go.bits .or .u32 (x % 32 * 2097152 % 4294967296) (x / 32 * 8 % 4294967296))) (y * 65536 % 4294967296)) (z / 16 * 16 % 4294967296) := by
  have hz : z % 4294967296 / 16 = (z / 16) % 4294967296 := by omega
  rw [hz, small_and y 31 5 y0 (by omega) (by decide) tb_c31, small_and (z / 16) 4095 12 (by omega) (by omega) (by decide) tb_c4095]
  have hx : Go.bits .and .u32 (x % 4294967296) 31 = x % 32 := by
    refine tb_ext (and32_in _ _).1 (and32_in _ _).2 (by omega) (by omega) fun p _ => ?_
    rw [tb_and, tb_mod, tb_c31, tb_lo5 x p x0]
  have hx2 : Go.bits .and .u32 (x % 4294967296) 32 / 4 = x / 32 * 8 % 4294967296 := by
    have := (and32_in (x % 4294967296) 32)
    refine tb_ext (by omega) (by omega) (by omega) (by omega) fun p _ => ?_
    rw [tb_d2, tb_mod, tb_c32, tb_s3, tb_hi5 x _ x0 (by omega)]
    by_cases hp : p = 3
    · subst hp; simp
    · by_cases hq : p < 3
      · rw [decide_eq_false (by omega : ¬ (2 + p = 5)), decide_eq_true hq]; simp
      · rw [decide_eq_false (by omega : ¬ (2 + p = 5)), tb_small x 6 (5 + (p - 3)) x0 (by omega) (by omega)]; simp
  rw [hx, hx2]
  refine tb_ext (or32_in _ _).1 (or32_in _ _).2 (or32_in _ _).1 (or32_in _ _).2 fun p _ => ?_
  have e : tb (c % 4294967296) p = tb c p := tb_mod c p
  have ey : y % 4294967296 = y := by omega
  have ez : z / 16 % 4294967296 = z / 16 := by omega
  rw [ey, ez]
  simp only [tb_or, e]
  generalize tb c p = b0
  generalize tb (x % 32 * 2097152 % 4294967296) p = b1
  generalize tb (x / 32 * 8 % 4294967296) p = b2
  generalize tb (y * 65536 % 4294967296) p = b3
  generalize tb (z / 16 * 16 % 4294967296) p = b4
  cases b0 <;> cases b1 <;> cases b2 <;> cases b3 <;> cases b4 <;> rfl

theorem FnSixteens : laws_FnSixteens.Pure := by
  intro a0 a1 a2 a3 h0 h1 h2 h3
  have ⟨p0, q0⟩ := bounds_u32 h0
  refine ⟨21, ?_⟩
  unfold laws_FnSixteens.f
  by_cases c1 : a1 < 0
  · rw [if_pos c1]; simp only [laws_FnSixteens.j0, if_true]
  rw [if_neg c1]
  by_cases c2 : a1 > 63
  · rw [if_pos c2]; simp only [laws_FnSixteens.j0, if_true]
  rw [if_neg c2]
  by_cases c3 : a2 < 0
  · rw [if_pos c3]; simp only [laws_FnSixteens.j0, if_true]
  rw [if_neg c3]
  by_cases c4 : a2 > 31
  · rw [if_pos c4]; simp only [laws_FnSixteens.j0, if_true]
  rw [if_neg c4]
  by_cases c5 : a3 < 0
  · rw [if_pos c5]; simp only [laws_FnSixteens.j0, if_true]
  rw [if_neg c5]
  by_cases c6 : a3 > 65535
  · rw [decide_eq_true c6]; simp only [laws_FnSixteens.j0, if_true]
  rw [decide_eq_false c6]
  simp only [laws_FnSixteens.j0, Bool.false_eq_true, if_false]
  have ew : wrap64 a0 = a0 := by unfold wrap64; omega
  have l1 : ppc64obj_AOP_DQ.f (a0 % 4294967296) (a1 % 4294967296) (a2 % 4294967296) (a3 % 4294967296) = some (Go.bits .or .u32 (Go.bits .or .u32 (Go.bits .or .u32 a0 (Go.bits .or .u32 (a1 % 32 * 2097152 % 4294967296) (a1 / 32 * 8 % 4294967296))) (a2 * 65536 % 4294967296)) (a3 / 16 * 16 % 4294967296)) :=
    congrArg some (sixteens_word a0 a1 a2 a3 (by omega) (by omega) (by omega) (by omega) (by omega) (by omega))
  have e1 := Encode_AOP_DQ (a0 := a0) (a1 := a1) (a2 := a2) (a3 := a3) (by omega) (by omega) (by omega) (by omega) (by omega) (by omega) (by omega) (by omega) l1 20 (by omega)
  rw [ew, e1, Option.bind_some]
  rw [put_I 20 (by omega) a1 (by omega) (by omega), put_A 20 (by omega) a2 (by omega) (by omega), put_D 20 (by omega) (a3 / 16) (by omega) (by omega)]
  rw [Option.bind_some, Option.bind_some, Option.bind_some]
  simp

end Go.Proofs.Ytnfkdmoblncclaa.Pure
