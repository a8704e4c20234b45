/- Of a name that is no form's, the bounds are nil. -/
import Derived.Test.YtnfkdmoblncclaaXBounds
namespace Go.Proofs.Ytnfkdmoblncclaa.X
open Go.RowKit Go.Proofs.YtnfkdmoblncclaaW.PrintWords Go.Proofs.YtnfkdmoblncclaaW.PrintLast Go.Proofs.YtnfkdmoblncclaaW.PrintMore
attribute [local go_sem] max2_int min2_int max_two min_two max_three min_three max_four min_four   -- for this text's walks alone
set_option linter.unusedVariables false
set_option linter.unusedSimpArgs false

set_option maxHeartbeats 8000000 in
set_option maxRecDepth 100000 in
/-- Of a name that is no form's, the bounds are nil itself. -/
theorem impl_bounds.nil_calls (a0 : ByteArray) (w : World) (h : impl_bounds.f a0 = some []) :
    Calls Try.prog 20 #[.string a0] w fun e w' => e = .returned (.slice none 0 0) ∧ Below w.heap.size w w' := by
  have HB := Aside0.mk (Below.refl w.heap.size w)
  unfold impl_bounds.f at h
  by_cases c0 : a0.toList = ([79, 80, 86, 88, 88, 49] : List UInt8)
  · rw [if_pos c0] at h; exact absurd h (by simp)
  rw [if_neg c0] at h
  have c0b0 : (a0.toList == ([79, 80, 86, 88, 88, 49] : List UInt8)) = false := beq_eq_false_iff_ne.mpr c0
  have c0b1 : (a0.toList != ([79, 80, 86, 88, 88, 49] : List UInt8)) = true := bne_iff_ne.mpr c0
  by_cases c1 : a0.toList = ([79, 80, 86, 88, 88, 50] : List UInt8)
  · rw [if_pos c1] at h; exact absurd h (by simp)
  rw [if_neg c1] at h
  have c1b0 : (a0.toList == ([79, 80, 86, 88, 88, 50] : List UInt8)) = false := beq_eq_false_iff_ne.mpr c1
  have c1b1 : (a0.toList != ([79, 80, 86, 88, 88, 50] : List UInt8)) = true := bne_iff_ne.mpr c1
  by_cases c2 : a0.toList = ([79, 80, 86, 88, 88, 50, 86, 65] : List UInt8)
  · rw [if_pos c2] at h; exact absurd h (by simp)
  rw [if_neg c2] at h
  have c2b0 : (a0.toList == ([79, 80, 86, 88, 88, 50, 86, 65] : List UInt8)) = false := beq_eq_false_iff_ne.mpr c2
  have c2b1 : (a0.toList != ([79, 80, 86, 88, 88, 50, 86, 65] : List UInt8)) = true := bne_iff_ne.mpr c2
  by_cases c3 : a0.toList = ([79, 80, 86, 88, 88, 51] : List UInt8)
  · rw [if_pos c3] at h; exact absurd h (by simp)
  rw [if_neg c3] at h
  have c3b0 : (a0.toList == ([79, 80, 86, 88, 88, 51] : List UInt8)) = false := beq_eq_false_iff_ne.mpr c3
  have c3b1 : (a0.toList != ([79, 80, 86, 88, 88, 51] : List UInt8)) = true := bne_iff_ne.mpr c3
  by_cases c4 : a0.toList = ([79, 80, 86, 88, 88, 52] : List UInt8)
  · rw [if_pos c4] at h; exact absurd h (by simp)
  rw [if_neg c4] at h
  have c4b0 : (a0.toList == ([79, 80, 86, 88, 88, 52] : List UInt8)) = false := beq_eq_false_iff_ne.mpr c4
  have c4b1 : (a0.toList != ([79, 80, 86, 88, 88, 52] : List UInt8)) = true := bne_iff_ne.mpr c4
  by_cases c5 : a0.toList = ([79, 80, 68, 81] : List UInt8)
  · rw [if_pos c5] at h; exact absurd h (by simp)
  rw [if_neg c5] at h
  have c5b0 : (a0.toList == ([79, 80, 68, 81] : List UInt8)) = false := beq_eq_false_iff_ne.mpr c5
  have c5b1 : (a0.toList != ([79, 80, 68, 81] : List UInt8)) = true := bne_iff_ne.mpr c5
  by_cases c6 : a0.toList = ([79, 80, 86, 88] : List UInt8)
  · rw [if_pos c6] at h; exact absurd h (by simp)
  rw [if_neg c6] at h
  have c6b0 : (a0.toList == ([79, 80, 86, 88] : List UInt8)) = false := beq_eq_false_iff_ne.mpr c6
  have c6b1 : (a0.toList != ([79, 80, 86, 88] : List UInt8)) = true := bne_iff_ne.mpr c6
  by_cases c7 : a0.toList = ([79, 80, 86, 67] : List UInt8)
  · rw [if_pos c7] at h; exact absurd h (by simp)
  rw [if_neg c7] at h
  have c7b0 : (a0.toList == ([79, 80, 86, 67] : List UInt8)) = false := beq_eq_false_iff_ne.mpr c7
  have c7b1 : (a0.toList != ([79, 80, 86, 67] : List UInt8)) = true := bne_iff_ne.mpr c7
  by_cases c8 : a0.toList = ([79, 80, 86, 67, 67] : List UInt8)
  · rw [if_pos c8] at h; exact absurd h (by simp)
  rw [if_neg c8] at h
  have c8b0 : (a0.toList == ([79, 80, 86, 67, 67] : List UInt8)) = false := beq_eq_false_iff_ne.mpr c8
  have c8b1 : (a0.toList != ([79, 80, 86, 67, 67] : List UInt8)) = true := bne_iff_ne.mpr c8
  by_cases c9 : a0.toList = ([79, 80, 77, 68] : List UInt8)
  · rw [if_pos c9] at h; exact absurd h (by simp)
  rw [if_neg c9] at h
  have c9b0 : (a0.toList == ([79, 80, 77, 68] : List UInt8)) = false := beq_eq_false_iff_ne.mpr c9
  have c9b1 : (a0.toList != ([79, 80, 77, 68] : List UInt8)) = true := bne_iff_ne.mpr c9
  by_cases c10 : a0.toList = ([65, 79, 80, 95, 82, 82, 82] : List UInt8)
  · rw [if_pos c10] at h; exact absurd h (by simp)
  rw [if_neg c10] at h
  have c10b0 : (a0.toList == ([65, 79, 80, 95, 82, 82, 82] : List UInt8)) = false := beq_eq_false_iff_ne.mpr c10
  have c10b1 : (a0.toList != ([65, 79, 80, 95, 82, 82, 82] : List UInt8)) = true := bne_iff_ne.mpr c10
  by_cases c11 : a0.toList = ([65, 79, 80, 95, 82, 82] : List UInt8)
  · rw [if_pos c11] at h; exact absurd h (by simp)
  rw [if_neg c11] at h
  have c11b0 : (a0.toList == ([65, 79, 80, 95, 82, 82] : List UInt8)) = false := beq_eq_false_iff_ne.mpr c11
  have c11b1 : (a0.toList != ([65, 79, 80, 95, 82, 82] : List UInt8)) = true := bne_iff_ne.mpr c11
  by_cases c12 : a0.toList = ([65, 79, 80, 95, 82, 82, 82, 82] : List UInt8)
  · rw [if_pos c12] at h; exact absurd h (by simp)
  rw [if_neg c12] at h
  have c12b0 : (a0.toList == ([65, 79, 80, 95, 82, 82, 82, 82] : List UInt8)) = false := beq_eq_false_iff_ne.mpr c12
  have c12b1 : (a0.toList != ([65, 79, 80, 95, 82, 82, 82, 82] : List UInt8)) = true := bne_iff_ne.mpr c12
  by_cases c13 : a0.toList = ([65, 79, 80, 95, 73, 82, 82] : List UInt8)
  · rw [if_pos c13] at h; exact absurd h (by simp)
  rw [if_neg c13] at h
  have c13b0 : (a0.toList == ([65, 79, 80, 95, 73, 82, 82] : List UInt8)) = false := beq_eq_false_iff_ne.mpr c13
  have c13b1 : (a0.toList != ([65, 79, 80, 95, 73, 82, 82] : List UInt8)) = true := bne_iff_ne.mpr c13
  by_cases c14 : a0.toList = ([65, 79, 80, 95, 86, 73, 82, 82] : List UInt8)
  · rw [if_pos c14] at h; exact absurd h (by simp)
  rw [if_neg c14] at h
  have c14b0 : (a0.toList == ([65, 79, 80, 95, 86, 73, 82, 82] : List UInt8)) = false := beq_eq_false_iff_ne.mpr c14
  have c14b1 : (a0.toList != ([65, 79, 80, 95, 86, 73, 82, 82] : List UInt8)) = true := bne_iff_ne.mpr c14
  by_cases c15 : a0.toList = ([65, 79, 80, 95, 73, 73, 82, 82] : List UInt8)
  · rw [if_pos c15] at h; exact absurd h (by simp)
  rw [if_neg c15] at h
  have c15b0 : (a0.toList == ([65, 79, 80, 95, 73, 73, 82, 82] : List UInt8)) = false := beq_eq_false_iff_ne.mpr c15
  have c15b1 : (a0.toList != ([65, 79, 80, 95, 73, 73, 82, 82] : List UInt8)) = true := bne_iff_ne.mpr c15
  by_cases c16 : a0.toList = ([65, 79, 80, 95, 73, 82, 82, 82] : List UInt8)
  · rw [if_pos c16] at h; exact absurd h (by simp)
  rw [if_neg c16] at h
  have c16b0 : (a0.toList == ([65, 79, 80, 95, 73, 82, 82, 82] : List UInt8)) = false := beq_eq_false_iff_ne.mpr c16
  have c16b1 : (a0.toList != ([65, 79, 80, 95, 73, 82, 82, 82] : List UInt8)) = true := bne_iff_ne.mpr c16
  by_cases c17 : a0.toList = ([65, 79, 80, 95, 73, 82] : List UInt8)
  · rw [if_pos c17] at h; exact absurd h (by simp)
  rw [if_neg c17] at h
  have c17b0 : (a0.toList == ([65, 79, 80, 95, 73, 82] : List UInt8)) = false := beq_eq_false_iff_ne.mpr c17
  have c17b1 : (a0.toList != ([65, 79, 80, 95, 73, 82] : List UInt8)) = true := bne_iff_ne.mpr c17
  by_cases c18 : a0.toList = ([65, 79, 80, 95, 88, 88, 49] : List UInt8)
  · rw [if_pos c18] at h; exact absurd h (by simp)
  rw [if_neg c18] at h
  have c18b0 : (a0.toList == ([65, 79, 80, 95, 88, 88, 49] : List UInt8)) = false := beq_eq_false_iff_ne.mpr c18
  have c18b1 : (a0.toList != ([65, 79, 80, 95, 88, 88, 49] : List UInt8)) = true := bne_iff_ne.mpr c18
  by_cases c19 : a0.toList = ([65, 79, 80, 95, 88, 88, 50] : List UInt8)
  · rw [if_pos c19] at h; exact absurd h (by simp)
  rw [if_neg c19] at h
  have c19b0 : (a0.toList == ([65, 79, 80, 95, 88, 88, 50] : List UInt8)) = false := beq_eq_false_iff_ne.mpr c19
  have c19b1 : (a0.toList != ([65, 79, 80, 95, 88, 88, 50] : List UInt8)) = true := bne_iff_ne.mpr c19
  by_cases c20 : a0.toList = ([65, 79, 80, 95, 88, 88, 51] : List UInt8)
  · rw [if_pos c20] at h; exact absurd h (by simp)
  rw [if_neg c20] at h
  have c20b0 : (a0.toList == ([65, 79, 80, 95, 88, 88, 51] : List UInt8)) = false := beq_eq_false_iff_ne.mpr c20
  have c20b1 : (a0.toList != ([65, 79, 80, 95, 88, 88, 51] : List UInt8)) = true := bne_iff_ne.mpr c20
  by_cases c21 : a0.toList = ([65, 79, 80, 95, 88, 88, 51, 73] : List UInt8)
  · rw [if_pos c21] at h; exact absurd h (by simp)
  rw [if_neg c21] at h
  have c21b0 : (a0.toList == ([65, 79, 80, 95, 88, 88, 51, 73] : List UInt8)) = false := beq_eq_false_iff_ne.mpr c21
  have c21b1 : (a0.toList != ([65, 79, 80, 95, 88, 88, 51, 73] : List UInt8)) = true := bne_iff_ne.mpr c21
  by_cases c22 : a0.toList = ([65, 79, 80, 95, 88, 88, 52] : List UInt8)
  · rw [if_pos c22] at h; exact absurd h (by simp)
  rw [if_neg c22] at h
  have c22b0 : (a0.toList == ([65, 79, 80, 95, 88, 88, 52] : List UInt8)) = false := beq_eq_false_iff_ne.mpr c22
  have c22b1 : (a0.toList != ([65, 79, 80, 95, 88, 88, 52] : List UInt8)) = true := bne_iff_ne.mpr c22
  by_cases c23 : a0.toList = ([65, 79, 80, 95, 68, 81] : List UInt8)
  · rw [if_pos c23] at h; exact absurd h (by simp)
  rw [if_neg c23] at h
  have c23b0 : (a0.toList == ([65, 79, 80, 95, 68, 81] : List UInt8)) = false := beq_eq_false_iff_ne.mpr c23
  have c23b1 : (a0.toList != ([65, 79, 80, 95, 68, 81] : List UInt8)) = true := bne_iff_ne.mpr c23
  by_cases c24 : a0.toList = ([65, 79, 80, 95, 90, 50, 51, 73] : List UInt8)
  · rw [if_pos c24] at h; exact absurd h (by simp)
  rw [if_neg c24] at h
  have c24b0 : (a0.toList == ([65, 79, 80, 95, 90, 50, 51, 73] : List UInt8)) = false := beq_eq_false_iff_ne.mpr c24
  have c24b1 : (a0.toList != ([65, 79, 80, 95, 90, 50, 51, 73] : List UInt8)) = true := bne_iff_ne.mpr c24
  by_cases c25 : a0.toList = ([65, 79, 80, 95, 82, 82, 82, 73] : List UInt8)
  · rw [if_pos c25] at h; exact absurd h (by simp)
  rw [if_neg c25] at h
  have c25b0 : (a0.toList == ([65, 79, 80, 95, 82, 82, 82, 73] : List UInt8)) = false := beq_eq_false_iff_ne.mpr c25
  have c25b1 : (a0.toList != ([65, 79, 80, 95, 82, 82, 82, 73] : List UInt8)) = true := bne_iff_ne.mpr c25
  by_cases c26 : a0.toList = ([76, 79, 80, 95, 82, 82, 82] : List UInt8)
  · rw [if_pos c26] at h; exact absurd h (by simp)
  rw [if_neg c26] at h
  have c26b0 : (a0.toList == ([76, 79, 80, 95, 82, 82, 82] : List UInt8)) = false := beq_eq_false_iff_ne.mpr c26
  have c26b1 : (a0.toList != ([76, 79, 80, 95, 82, 82, 82] : List UInt8)) = true := bne_iff_ne.mpr c26
  by_cases c27 : a0.toList = ([76, 79, 80, 95, 73, 82, 82] : List UInt8)
  · rw [if_pos c27] at h; exact absurd h (by simp)
  rw [if_neg c27] at h
  have c27b0 : (a0.toList == ([76, 79, 80, 95, 73, 82, 82] : List UInt8)) = false := beq_eq_false_iff_ne.mpr c27
  have c27b1 : (a0.toList != ([76, 79, 80, 95, 73, 82, 82] : List UInt8)) = true := bne_iff_ne.mpr c27
  by_cases c28 : a0.toList = ([79, 80, 95, 66, 82] : List UInt8)
  · rw [if_pos c28] at h; exact absurd h (by simp)
  rw [if_neg c28] at h
  have c28b0 : (a0.toList == ([79, 80, 95, 66, 82] : List UInt8)) = false := beq_eq_false_iff_ne.mpr c28
  have c28b1 : (a0.toList != ([79, 80, 95, 66, 82] : List UInt8)) = true := bne_iff_ne.mpr c28
  by_cases c29 : a0.toList = ([79, 80, 95, 66, 67] : List UInt8)
  · rw [if_pos c29] at h; exact absurd h (by simp)
  rw [if_neg c29] at h
  have c29b0 : (a0.toList == ([79, 80, 95, 66, 67] : List UInt8)) = false := beq_eq_false_iff_ne.mpr c29
  have c29b1 : (a0.toList != ([79, 80, 95, 66, 67] : List UInt8)) = true := bne_iff_ne.mpr c29
  by_cases c30 : a0.toList = ([79, 80, 95, 66, 67, 82] : List UInt8)
  · rw [if_pos c30] at h; exact absurd h (by simp)
  rw [if_neg c30] at h
  have c30b0 : (a0.toList == ([79, 80, 95, 66, 67, 82] : List UInt8)) = false := beq_eq_false_iff_ne.mpr c30
  have c30b1 : (a0.toList != ([79, 80, 95, 66, 67, 82] : List UInt8)) = true := bne_iff_ne.mpr c30
  by_cases c31 : a0.toList = ([79, 80, 95, 82, 76, 87] : List UInt8)
  · rw [if_pos c31] at h; exact absurd h (by simp)
  rw [if_neg c31] at h
  have c31b0 : (a0.toList == ([79, 80, 95, 82, 76, 87] : List UInt8)) = false := beq_eq_false_iff_ne.mpr c31
  have c31b1 : (a0.toList != ([79, 80, 95, 82, 76, 87] : List UInt8)) = true := bne_iff_ne.mpr c31
  by_cases c32 : a0.toList = ([65, 79, 80, 95, 69, 88, 84, 83, 87, 83, 76, 73] : List UInt8)
  · rw [if_pos c32] at h; exact absurd h (by simp)
  rw [if_neg c32] at h
  have c32b0 : (a0.toList == ([65, 79, 80, 95, 69, 88, 84, 83, 87, 83, 76, 73] : List UInt8)) = false := beq_eq_false_iff_ne.mpr c32
  have c32b1 : (a0.toList != ([65, 79, 80, 95, 69, 88, 84, 83, 87, 83, 76, 73] : List UInt8)) = true := bne_iff_ne.mpr c32
  by_cases c33 : a0.toList = ([65, 79, 80, 95, 73, 83, 69, 76] : List UInt8)
  · rw [if_pos c33] at h; exact absurd h (by simp)
  rw [if_neg c33] at h
  have c33b0 : (a0.toList == ([65, 79, 80, 95, 73, 83, 69, 76] : List UInt8)) = false := beq_eq_false_iff_ne.mpr c33
  have c33b1 : (a0.toList != ([65, 79, 80, 95, 73, 83, 69, 76] : List UInt8)) = true := bne_iff_ne.mpr c33
  by_cases c34 : a0.toList = ([65, 79, 80, 95, 77, 68] : List UInt8)
  · rw [if_pos c34] at h; exact absurd h (by simp)
  rw [if_neg c34] at h
  have c34b0 : (a0.toList == ([65, 79, 80, 95, 77, 68] : List UInt8)) = false := beq_eq_false_iff_ne.mpr c34
  have c34b1 : (a0.toList != ([65, 79, 80, 95, 77, 68] : List UInt8)) = true := bne_iff_ne.mpr c34
  by_cases c35 : a0.toList = ([65, 79, 80, 95, 77, 68, 83] : List UInt8)
  · rw [if_pos c35] at h; exact absurd h (by simp)
  rw [if_neg c35] at h
  have c35b0 : (a0.toList == ([65, 79, 80, 95, 77, 68, 83] : List UInt8)) = false := beq_eq_false_iff_ne.mpr c35
  have c35b1 : (a0.toList != ([65, 79, 80, 95, 77, 68, 83] : List UInt8)) = true := bne_iff_ne.mpr c35
  by_cases c36 : a0.toList = ([65, 79, 80, 95, 80, 70, 88, 95, 48, 48, 95, 56, 76, 83] : List UInt8)
  · rw [if_pos c36] at h; exact absurd h (by simp)
  rw [if_neg c36] at h
  have c36b0 : (a0.toList == ([65, 79, 80, 95, 80, 70, 88, 95, 48, 48, 95, 56, 76, 83] : List UInt8)) = false := beq_eq_false_iff_ne.mpr c36
  have c36b1 : (a0.toList != ([65, 79, 80, 95, 80, 70, 88, 95, 48, 48, 95, 56, 76, 83] : List UInt8)) = true := bne_iff_ne.mpr c36
  by_cases c37 : a0.toList = ([65, 79, 80, 95, 80, 70, 88, 95, 49, 48, 95, 77, 76, 83] : List UInt8)
  · rw [if_pos c37] at h; exact absurd h (by simp)
  rw [if_neg c37] at h
  have c37b0 : (a0.toList == ([65, 79, 80, 95, 80, 70, 88, 95, 49, 48, 95, 77, 76, 83] : List UInt8)) = false := beq_eq_false_iff_ne.mpr c37
  have c37b1 : (a0.toList != ([65, 79, 80, 95, 80, 70, 88, 95, 49, 48, 95, 77, 76, 83] : List UInt8)) = true := bne_iff_ne.mpr c37
  clear h
  go_enter Try.func20, Try.ntmps20
  go_wp2
  go_ret
  exact ⟨rfl, by repeat (first | (with_reducible first | exact HB.out | apply below_alloc | apply pw_below_drewN | apply below_drew1) | exact HB.out)⟩

end Go.Proofs.Ytnfkdmoblncclaa.X
