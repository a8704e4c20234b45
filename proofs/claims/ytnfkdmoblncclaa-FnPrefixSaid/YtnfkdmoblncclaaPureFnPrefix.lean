/- The first word of two, of both kinds: the law answers true at every input. -/
import Derived.Test.YtnfkdmoblncclaaXTab
import Derived.Test.YtnfkdmoblncclaaXBitsK
import Derived.Test.YtnfkdmoblncclaaXFnPrefix
import Derived.OpenShut
namespace Go.Proofs.Ytnfkdmoblncclaa.Pure
open Go.RowKit Go.Proofs.Ytnfkdmoblncclaa.X Go.Proofs.YtnfkdmoblncclaaW.PrintWords Go.Proofs.YtnfkdmoblncclaaW.PrintLast Go.Proofs.YtnfkdmoblncclaaW.PrintMore

theorem prefix_word (c x y : Int) (h0 : 0 ≤ x) (h1 : x ≤ 1) (h2 : 0 ≤ y) (h3 : y < 262144) :
    Go.bits .or .u32 (Go.bits .or .u32 c (Go.bits .and .u32 (x % 4294967296) 1 * 1048576 % 4294967296)) (Go.bits .and .u32 (y % 4294967296) 262143) =
    Go.bits .or .u32 c (Go.bits .or .u32 (x % 4294967296 * 1048576 % 4294967296) (y % 4294967296)) := by
  rw [small_and x 1 1 h0 (by omega) (by decide) tb_c1, small_and y 262143 18 h2 (by omega) (by decide) tb_c262143]
  refine tb_ext (or32_in _ _).1 (or32_in _ _).2 (or32_in _ _).1 (or32_in _ _).2 fun p _ => ?_
  rw [tb_or, tb_or, tb_or, tb_or, Bool.or_assoc]

theorem FnPrefix : laws_FnPrefix.Pure := by
  intro a0 a1 h0 h1
  refine ⟨11, ?_⟩
  unfold laws_FnPrefix.f
  by_cases c1 : a0 < 0
  · rw [if_pos c1]; simp only [laws_FnPrefix.j0, if_true]
  rw [if_neg c1]
  by_cases c2 : a0 > 1
  · rw [if_pos c2]; simp only [laws_FnPrefix.j0, if_true]
  rw [if_neg c2]
  by_cases c3 : a1 < 0
  · rw [if_pos c3]; simp only [laws_FnPrefix.j0, if_true]
  rw [if_neg c3]
  by_cases c4 : a1 ≥ 262144
  · rw [decide_eq_true c4]; simp only [laws_FnPrefix.j0, if_true]
  rw [decide_eq_false c4]
  simp only [laws_FnPrefix.j0, Bool.false_eq_true, if_false]
  have l1 : ppc64obj_AOP_PFX_00_8LS.f (a0 % 4294967296) (a1 % 4294967296) = some (Go.bits .or .u32 67108864 (Go.bits .or .u32 (a0 % 4294967296 * 1048576 % 4294967296) (a1 % 4294967296))) :=
    congrArg some (prefix_word 67108864 a0 a1 (by omega) (by omega) (by omega) (by omega))
  have l2 : ppc64obj_AOP_PFX_10_MLS.f (a0 % 4294967296) (a1 % 4294967296) = some (Go.bits .or .u32 100663296 (Go.bits .or .u32 (a0 % 4294967296 * 1048576 % 4294967296) (a1 % 4294967296))) :=
    congrArg some (prefix_word 100663296 a0 a1 (by omega) (by omega) (by omega) (by omega))
  have e1 := Encode_AOP_PFX_00_8LS (a0 := a0) (a1 := a1) (by omega) (by omega) (by omega) (by omega) l1 10 (by omega)
  have e2 := Encode_AOP_PFX_10_MLS (a0 := a0) (a1 := a1) (by omega) (by omega) (by omega) (by omega) l2 10 (by omega)
  rw [e1, e2, Option.bind_some, Option.bind_some]
  simp

end Go.Proofs.Ytnfkdmoblncclaa.Pure
