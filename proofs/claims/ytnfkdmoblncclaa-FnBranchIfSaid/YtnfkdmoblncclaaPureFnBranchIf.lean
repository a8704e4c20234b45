/- A branch with a condition has its distance in bytes, of sixteen bits: the law answers true at every input. -/
import Derived.Test.YtnfkdmoblncclaaXTab
import Derived.Test.YtnfkdmoblncclaaXBitsK
import Derived.Test.YtnfkdmoblncclaaXFnBranchIf
import Derived.OpenShut
namespace Go.Proofs.Ytnfkdmoblncclaa.Pure
open Go.RowKit Go.Proofs.Ytnfkdmoblncclaa.X Go.Proofs.YtnfkdmoblncclaaW.PrintWords Go.Proofs.YtnfkdmoblncclaaW.PrintLast

theorem FnBranchIf : laws_FnBranchIf.Pure := by
  intro a0 a1 a2 a3 a4 h0 h1 h2 h3 h4
  have ⟨p0, q0⟩ := bounds_u32 h0
  refine ⟨10, ?_⟩
  unfold laws_FnBranchIf.f
  by_cases c1 : a1 < 0
  · rw [if_pos c1]
  rw [if_neg c1]
  by_cases c2 : a1 > 31
  · rw [if_pos c2]
  rw [if_neg c2]
  by_cases c3 : a2 < 0
  · rw [if_pos c3]
  rw [if_neg c3]
  by_cases c4 : a2 > 31
  · rw [if_pos c4]
  rw [if_neg c4]
  by_cases c5 : a3 < 0
  · rw [if_pos c5]
  rw [if_neg c5]
  by_cases c6 : a3 > 65535
  · rw [if_pos c6]
  rw [if_neg c6]
  by_cases c7 : a4 < 0
  · rw [if_pos c7]
  rw [if_neg c7]
  by_cases c8 : a4 > 1
  · rw [if_pos c8]
  rw [if_neg c8]
  have ew : wrap64 a0 = a0 := by unfold wrap64; omega
  rw [ew, Encode_OP_BC (by omega) (by omega) (by omega) (by omega) (by omega) (by omega) (by omega) (by omega) (by omega) (by omega) rfl 10 (by omega)]
  have e0 : a0 % 4294967296 = a0 := by omega
  have m1 : Go.bits .and .u32 (a1 % 4294967296) 31 = a1 % 4294967296 := small_and a1 31 5 (by omega) (by omega) (by decide) tb_c31
  have m2 : Go.bits .and .u32 (a2 % 4294967296) 31 = a2 % 4294967296 := small_and a2 31 5 (by omega) (by omega) (by decide) tb_c31
  simp only [Option.bind_some, if_true]
  rw [e0, m1, m2]
  simp

end Go.Proofs.Ytnfkdmoblncclaa.Pure
