/- A branch has its distance in bytes, and whether it is counted from 0 on: the law answers true at every input. -/
import Derived.Test.YtnfkdmoblncclaaXTab
import Derived.Test.YtnfkdmoblncclaaXFnBranch
import Derived.OpenShut
namespace Go.Proofs.Ytnfkdmoblncclaa.Pure
open Go.RowKit Go.Proofs.Ytnfkdmoblncclaa.X Go.Proofs.YtnfkdmoblncclaaW.PrintWords Go.Proofs.YtnfkdmoblncclaaW.PrintLast

theorem FnBranch : laws_FnBranch.Pure := by
  intro a0 a1 a2 h0 h1 h2
  have ⟨p0, q0⟩ := bounds_u32 h0
  refine ⟨10, ?_⟩
  unfold laws_FnBranch.f
  by_cases c1 : a1 < 0
  · rw [if_pos c1]
  rw [if_neg c1]
  by_cases c2 : a1 ≥ 67108864
  · rw [if_pos c2]
  rw [if_neg c2]
  by_cases c3 : a2 < 0
  · rw [if_pos c3]
  rw [if_neg c3]
  by_cases c4 : a2 > 1
  · rw [if_pos c4]
  rw [if_neg c4]
  have ew : wrap64 a0 = a0 := by unfold wrap64; omega
  rw [ew, Encode_OP_BR (by omega) (by omega) (by omega) (by omega) (by omega) (by omega) rfl 10 (by omega)]
  have e0 : a0 % 4294967296 = a0 := by omega
  simp only [Option.bind_some, if_true]
  rw [e0]
  simp

end Go.Proofs.Ytnfkdmoblncclaa.Pure
