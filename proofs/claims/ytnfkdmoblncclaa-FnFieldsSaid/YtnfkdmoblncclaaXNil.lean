/- How many bits each field of a form has, by the form's name; of other names nil. -/
import Derived.Test.YtnfkdmoblncclaaXBnd0
import Derived.WideShapes
import Derived.Laws.Strings
namespace Go.Proofs.Ytnfkdmoblncclaa.X
open Go.RowKit Go.Proofs.YtnfkdmoblncclaaW.PrintWords Go.Proofs.YtnfkdmoblncclaaW.PrintLast Go.Proofs.YtnfkdmoblncclaaW.PrintMore
attribute [local go_sem] max2_int min2_int max_two min_two max_three min_three max_four min_four   -- for this text's walks alone
set_option linter.unusedVariables false
set_option linter.unusedSimpArgs false

theorem name_of {a0 : ByteArray} {l : List UInt8} (h : a0.toList = l) : a0 = ⟨⟨l⟩⟩ := by
  apply Go.WideShapes.bytes_inj
  rw [← ByteArray.toList_eq, h]
def impl_bounds.f (a0 : ByteArray) : Option (List Int) := if a0.toList = ([79, 80, 86, 88, 88, 49] : List UInt8) then some ([6, 10, 11] : List Int) else (if a0.toList = ([79, 80, 86, 88, 88, 50] : List UInt8) then some ([6, 9, 11] : List Int) else (if a0.toList = ([79, 80, 86, 88, 88, 50, 86, 65] : List UInt8) then some ([6, 9, 5] : List Int) else (if a0.toList = ([79, 80, 86, 88, 88, 51] : List UInt8) then some ([6, 8, 11] : List Int) else (if a0.toList = ([79, 80, 86, 88, 88, 52] : List UInt8) then some ([6, 2, 11] : List Int) else (if a0.toList = ([79, 80, 68, 81] : List UInt8) then some ([6, 4, 12] : List Int) else (if a0.toList = ([79, 80, 86, 88] : List UInt8) then some ([6, 11, 11, 1] : List Int) else (if a0.toList = ([79, 80, 86, 67] : List UInt8) then some ([6, 11, 11, 1] : List Int) else (if a0.toList = ([79, 80, 86, 67, 67] : List UInt8) then some ([6, 10, 1, 1] : List Int) else (if a0.toList = ([79, 80, 77, 68] : List UInt8) then some ([6, 5, 1] : List Int) else (if a0.toList = ([65, 79, 80, 95, 82, 82, 82] : List UInt8) then some ([32, 5, 5, 5] : List Int) else (if a0.toList = ([65, 79, 80, 95, 82, 82] : List UInt8) then some ([32, 5, 5] : List Int) else (if a0.toList = ([65, 79, 80, 95, 82, 82, 82, 82] : List UInt8) then some ([32, 5, 5, 5, 5] : List Int) else (if a0.toList = ([65, 79, 80, 95, 73, 82, 82] : List UInt8) then some ([32, 5, 5, (-16)] : List Int) else (if a0.toList = ([65, 79, 80, 95, 86, 73, 82, 82] : List UInt8) then some ([32, 5, 5, 5] : List Int) else (if a0.toList = ([65, 79, 80, 95, 73, 73, 82, 82] : List UInt8) then some ([32, 5, 5, 1, 4] : List Int) else (if a0.toList = ([65, 79, 80, 95, 73, 82, 82, 82] : List UInt8) then some ([32, 5, 5, 5, 4] : List Int) else (if a0.toList = ([65, 79, 80, 95, 73, 82] : List UInt8) then some ([32, 5, (-5)] : List Int) else (if a0.toList = ([65, 79, 80, 95, 88, 88, 49] : List UInt8) then some ([32, 6, 5, 5] : List Int) else (if a0.toList = ([65, 79, 80, 95, 88, 88, 50] : List UInt8) then some ([32, 6, 2, 6] : List Int) else (if a0.toList = ([65, 79, 80, 95, 88, 88, 51] : List UInt8) then some ([32, 6, 6, 6] : List Int) else (if a0.toList = ([65, 79, 80, 95, 88, 88, 51, 73] : List UInt8) then some ([32, 6, 6, 6, 2] : List Int) else (if a0.toList = ([65, 79, 80, 95, 88, 88, 52] : List UInt8) then some ([32, 6, 6, 6, 6] : List Int) else (if a0.toList = ([65, 79, 80, 95, 68, 81] : List UInt8) then some ([32, 6, 5, (-16)] : List Int) else (if a0.toList = ([65, 79, 80, 95, 90, 50, 51, 73] : List UInt8) then some ([32, 5, 5, 5, 2] : List Int) else (if a0.toList = ([65, 79, 80, 95, 82, 82, 82, 73] : List UInt8) then some ([32, 5, 5, 5, 1] : List Int) else (if a0.toList = ([76, 79, 80, 95, 82, 82, 82] : List UInt8) then some ([32, 5, 5, 5] : List Int) else (if a0.toList = ([76, 79, 80, 95, 73, 82, 82] : List UInt8) then some ([32, 5, 5, (-16)] : List Int) else (if a0.toList = ([79, 80, 95, 66, 82] : List UInt8) then some ([32, (-26), 1] : List Int) else (if a0.toList = ([79, 80, 95, 66, 67] : List UInt8) then some ([32, 5, 5, (-16), 1] : List Int) else (if a0.toList = ([79, 80, 95, 66, 67, 82] : List UInt8) then some ([32, 5, 5] : List Int) else (if a0.toList = ([79, 80, 95, 82, 76, 87] : List UInt8) then some ([32, 5, 5, 5, 5, 5] : List Int) else (if a0.toList = ([65, 79, 80, 95, 69, 88, 84, 83, 87, 83, 76, 73] : List UInt8) then some ([32, 5, 5, 6] : List Int) else (if a0.toList = ([65, 79, 80, 95, 73, 83, 69, 76] : List UInt8) then some ([32, 5, 5, 5, 5] : List Int) else (if a0.toList = ([65, 79, 80, 95, 77, 68] : List UInt8) then some ([32, 5, 5, 6, 6] : List Int) else (if a0.toList = ([65, 79, 80, 95, 77, 68, 83] : List UInt8) then some ([32, 5, 5, 5, 6] : List Int) else (if a0.toList = ([65, 79, 80, 95, 80, 70, 88, 95, 48, 48, 95, 56, 76, 83] : List UInt8) then some ([1, 18] : List Int) else (if a0.toList = ([65, 79, 80, 95, 80, 70, 88, 95, 49, 48, 95, 77, 76, 83] : List UInt8) then some ([1, 18] : List Int) else (some []))))))))))))))))))))))))))))))))))))))
set_option maxHeartbeats 8000000 in
set_option maxRecDepth 100000 in
/-- Of a name that is no form's, the bounds are nil itself. -/
theorem impl_bounds.none_calls (a0 : ByteArray) (w : World) (c0 : ¬ a0.toList = ([79, 80, 86, 88, 88, 49] : List UInt8)) (c1 : ¬ a0.toList = ([79, 80, 86, 88, 88, 50] : List UInt8)) (c2 : ¬ a0.toList = ([79, 80, 86, 88, 88, 50, 86, 65] : List UInt8)) (c3 : ¬ a0.toList = ([79, 80, 86, 88, 88, 51] : List UInt8)) (c4 : ¬ a0.toList = ([79, 80, 86, 88, 88, 52] : List UInt8)) (c5 : ¬ a0.toList = ([79, 80, 68, 81] : List UInt8)) (c6 : ¬ a0.toList = ([79, 80, 86, 88] : List UInt8)) (c7 : ¬ a0.toList = ([79, 80, 86, 67] : List UInt8)) (c8 : ¬ a0.toList = ([79, 80, 86, 67, 67] : List UInt8)) (c9 : ¬ a0.toList = ([79, 80, 77, 68] : List UInt8)) (c10 : ¬ a0.toList = ([65, 79, 80, 95, 82, 82, 82] : List UInt8)) (c11 : ¬ a0.toList = ([65, 79, 80, 95, 82, 82] : List UInt8)) (c12 : ¬ a0.toList = ([65, 79, 80, 95, 82, 82, 82, 82] : List UInt8)) (c13 : ¬ a0.toList = ([65, 79, 80, 95, 73, 82, 82] : List UInt8)) (c14 : ¬ a0.toList = ([65, 79, 80, 95, 86, 73, 82, 82] : List UInt8)) (c15 : ¬ a0.toList = ([65, 79, 80, 95, 73, 73, 82, 82] : List UInt8)) (c16 : ¬ a0.toList = ([65, 79, 80, 95, 73, 82, 82, 82] : List UInt8)) (c17 : ¬ a0.toList = ([65, 79, 80, 95, 73, 82] : List UInt8)) (c18 : ¬ a0.toList = ([65, 79, 80, 95, 88, 88, 49] : List UInt8)) (c19 : ¬ a0.toList = ([65, 79, 80, 95, 88, 88, 50] : List UInt8)) (c20 : ¬ a0.toList = ([65, 79, 80, 95, 88, 88, 51] : List UInt8)) (c21 : ¬ a0.toList = ([65, 79, 80, 95, 88, 88, 51, 73] : List UInt8)) (c22 : ¬ a0.toList = ([65, 79, 80, 95, 88, 88, 52] : List UInt8)) (c23 : ¬ a0.toList = ([65, 79, 80, 95, 68, 81] : List UInt8)) (c24 : ¬ a0.toList = ([65, 79, 80, 95, 90, 50, 51, 73] : List UInt8)) (c25 : ¬ a0.toList = ([65, 79, 80, 95, 82, 82, 82, 73] : List UInt8)) (c26 : ¬ a0.toList = ([76, 79, 80, 95, 82, 82, 82] : List UInt8)) (c27 : ¬ a0.toList = ([76, 79, 80, 95, 73, 82, 82] : List UInt8)) (c28 : ¬ a0.toList = ([79, 80, 95, 66, 82] : List UInt8)) (c29 : ¬ a0.toList = ([79, 80, 95, 66, 67] : List UInt8)) (c30 : ¬ a0.toList = ([79, 80, 95, 66, 67, 82] : List UInt8)) (c31 : ¬ a0.toList = ([79, 80, 95, 82, 76, 87] : List UInt8)) (c32 : ¬ a0.toList = ([65, 79, 80, 95, 69, 88, 84, 83, 87, 83, 76, 73] : List UInt8)) (c33 : ¬ a0.toList = ([65, 79, 80, 95, 73, 83, 69, 76] : List UInt8)) (c34 : ¬ a0.toList = ([65, 79, 80, 95, 77, 68] : List UInt8)) (c35 : ¬ a0.toList = ([65, 79, 80, 95, 77, 68, 83] : List UInt8)) (c36 : ¬ a0.toList = ([65, 79, 80, 95, 80, 70, 88, 95, 48, 48, 95, 56, 76, 83] : List UInt8)) (c37 : ¬ a0.toList = ([65, 79, 80, 95, 80, 70, 88, 95, 49, 48, 95, 77, 76, 83] : List UInt8)) :
    Calls Try.prog 20 #[.string a0] w fun e w' => e = .returned (.slice none 0 0) ∧ Below w.heap.size w w' := by
  have HB := Aside0.mk (Below.refl w.heap.size w)
  have c0b0 := beq_eq_false_iff_ne.mpr c0
  have c0b1 := bne_iff_ne.mpr c0
  have c1b0 := beq_eq_false_iff_ne.mpr c1
  have c1b1 := bne_iff_ne.mpr c1
  have c2b0 := beq_eq_false_iff_ne.mpr c2
  have c2b1 := bne_iff_ne.mpr c2
  have c3b0 := beq_eq_false_iff_ne.mpr c3
  have c3b1 := bne_iff_ne.mpr c3
  have c4b0 := beq_eq_false_iff_ne.mpr c4
  have c4b1 := bne_iff_ne.mpr c4
  have c5b0 := beq_eq_false_iff_ne.mpr c5
  have c5b1 := bne_iff_ne.mpr c5
  have c6b0 := beq_eq_false_iff_ne.mpr c6
  have c6b1 := bne_iff_ne.mpr c6
  have c7b0 := beq_eq_false_iff_ne.mpr c7
  have c7b1 := bne_iff_ne.mpr c7
  have c8b0 := beq_eq_false_iff_ne.mpr c8
  have c8b1 := bne_iff_ne.mpr c8
  have c9b0 := beq_eq_false_iff_ne.mpr c9
  have c9b1 := bne_iff_ne.mpr c9
  have c10b0 := beq_eq_false_iff_ne.mpr c10
  have c10b1 := bne_iff_ne.mpr c10
  have c11b0 := beq_eq_false_iff_ne.mpr c11
  have c11b1 := bne_iff_ne.mpr c11
  have c12b0 := beq_eq_false_iff_ne.mpr c12
  have c12b1 := bne_iff_ne.mpr c12
  have c13b0 := beq_eq_false_iff_ne.mpr c13
  have c13b1 := bne_iff_ne.mpr c13
  have c14b0 := beq_eq_false_iff_ne.mpr c14
  have c14b1 := bne_iff_ne.mpr c14
  have c15b0 := beq_eq_false_iff_ne.mpr c15
  have c15b1 := bne_iff_ne.mpr c15
  have c16b0 := beq_eq_false_iff_ne.mpr c16
  have c16b1 := bne_iff_ne.mpr c16
  have c17b0 := beq_eq_false_iff_ne.mpr c17
  have c17b1 := bne_iff_ne.mpr c17
  have c18b0 := beq_eq_false_iff_ne.mpr c18
  have c18b1 := bne_iff_ne.mpr c18
  have c19b0 := beq_eq_false_iff_ne.mpr c19
  have c19b1 := bne_iff_ne.mpr c19
  have c20b0 := beq_eq_false_iff_ne.mpr c20
  have c20b1 := bne_iff_ne.mpr c20
  have c21b0 := beq_eq_false_iff_ne.mpr c21
  have c21b1 := bne_iff_ne.mpr c21
  have c22b0 := beq_eq_false_iff_ne.mpr c22
  have c22b1 := bne_iff_ne.mpr c22
  have c23b0 := beq_eq_false_iff_ne.mpr c23
  have c23b1 := bne_iff_ne.mpr c23
  have c24b0 := beq_eq_false_iff_ne.mpr c24
  have c24b1 := bne_iff_ne.mpr c24
  have c25b0 := beq_eq_false_iff_ne.mpr c25
  have c25b1 := bne_iff_ne.mpr c25
  have c26b0 := beq_eq_false_iff_ne.mpr c26
  have c26b1 := bne_iff_ne.mpr c26
  have c27b0 := beq_eq_false_iff_ne.mpr c27
  have c27b1 := bne_iff_ne.mpr c27
  have c28b0 := beq_eq_false_iff_ne.mpr c28
  have c28b1 := bne_iff_ne.mpr c28
  have c29b0 := beq_eq_false_iff_ne.mpr c29
  have c29b1 := bne_iff_ne.mpr c29
  have c30b0 := beq_eq_false_iff_ne.mpr c30
  have c30b1 := bne_iff_ne.mpr c30
  have c31b0 := beq_eq_false_iff_ne.mpr c31
  have c31b1 := bne_iff_ne.mpr c31
  have c32b0 := beq_eq_false_iff_ne.mpr c32
  have c32b1 := bne_iff_ne.mpr c32
  have c33b0 := beq_eq_false_iff_ne.mpr c33
  have c33b1 := bne_iff_ne.mpr c33
  have c34b0 := beq_eq_false_iff_ne.mpr c34
  have c34b1 := bne_iff_ne.mpr c34
  have c35b0 := beq_eq_false_iff_ne.mpr c35
  have c35b1 := bne_iff_ne.mpr c35
  have c36b0 := beq_eq_false_iff_ne.mpr c36
  have c36b1 := bne_iff_ne.mpr c36
  have c37b0 := beq_eq_false_iff_ne.mpr c37
  have c37b1 := bne_iff_ne.mpr c37
  go_enter Try.func20, Try.ntmps20
  go_wp2
  go_ret
  exact ⟨rfl, by repeat (first | (with_reducible first | exact HB.out | apply below_alloc | apply pw_below_drewN | apply below_drew1) | exact HB.out)⟩
set_option maxRecDepth 100000 in
theorem impl_bounds.nil_calls (a0 : ByteArray) (w : World) (h : impl_bounds.f a0 = some []) :
    Calls Try.prog 20 #[.string a0] w fun e w' => e = .returned (.slice none 0 0) ∧ Below w.heap.size w w' := by
  unfold impl_bounds.f at h
  by_cases c0 : a0.toList = ([79, 80, 86, 88, 88, 49] : List UInt8)
  · rw [if_pos c0] at h; exact absurd h (by simp)
  rw [if_neg c0] at h
  by_cases c1 : a0.toList = ([79, 80, 86, 88, 88, 50] : List UInt8)
  · rw [if_pos c1] at h; exact absurd h (by simp)
  rw [if_neg c1] at h
  by_cases c2 : a0.toList = ([79, 80, 86, 88, 88, 50, 86, 65] : List UInt8)
  · rw [if_pos c2] at h; exact absurd h (by simp)
  rw [if_neg c2] at h
  by_cases c3 : a0.toList = ([79, 80, 86, 88, 88, 51] : List UInt8)
  · rw [if_pos c3] at h; exact absurd h (by simp)
  rw [if_neg c3] at h
  by_cases c4 : a0.toList = ([79, 80, 86, 88, 88, 52] : List UInt8)
  · rw [if_pos c4] at h; exact absurd h (by simp)
  rw [if_neg c4] at h
  by_cases c5 : a0.toList = ([79, 80, 68, 81] : List UInt8)
  · rw [if_pos c5] at h; exact absurd h (by simp)
  rw [if_neg c5] at h
  by_cases c6 : a0.toList = ([79, 80, 86, 88] : List UInt8)
  · rw [if_pos c6] at h; exact absurd h (by simp)
  rw [if_neg c6] at h
  by_cases c7 : a0.toList = ([79, 80, 86, 67] : List UInt8)
  · rw [if_pos c7] at h; exact absurd h (by simp)
  rw [if_neg c7] at h
  by_cases c8 : a0.toList = ([79, 80, 86, 67, 67] : List UInt8)
  · rw [if_pos c8] at h; exact absurd h (by simp)
  rw [if_neg c8] at h
  by_cases c9 : a0.toList = ([79, 80, 77, 68] : List UInt8)
  · rw [if_pos c9] at h; exact absurd h (by simp)
  rw [if_neg c9] at h
  by_cases c10 : a0.toList = ([65, 79, 80, 95, 82, 82, 82] : List UInt8)
  · rw [if_pos c10] at h; exact absurd h (by simp)
  rw [if_neg c10] at h
  by_cases c11 : a0.toList = ([65, 79, 80, 95, 82, 82] : List UInt8)
  · rw [if_pos c11] at h; exact absurd h (by simp)
  rw [if_neg c11] at h
  by_cases c12 : a0.toList = ([65, 79, 80, 95, 82, 82, 82, 82] : List UInt8)
  · rw [if_pos c12] at h; exact absurd h (by simp)
  rw [if_neg c12] at h
  by_cases c13 : a0.toList = ([65, 79, 80, 95, 73, 82, 82] : List UInt8)
  · rw [if_pos c13] at h; exact absurd h (by simp)
  rw [if_neg c13] at h
  by_cases c14 : a0.toList = ([65, 79, 80, 95, 86, 73, 82, 82] : List UInt8)
  · rw [if_pos c14] at h; exact absurd h (by simp)
  rw [if_neg c14] at h
  by_cases c15 : a0.toList = ([65, 79, 80, 95, 73, 73, 82, 82] : List UInt8)
  · rw [if_pos c15] at h; exact absurd h (by simp)
  rw [if_neg c15] at h
  by_cases c16 : a0.toList = ([65, 79, 80, 95, 73, 82, 82, 82] : List UInt8)
  · rw [if_pos c16] at h; exact absurd h (by simp)
  rw [if_neg c16] at h
  by_cases c17 : a0.toList = ([65, 79, 80, 95, 73, 82] : List UInt8)
  · rw [if_pos c17] at h; exact absurd h (by simp)
  rw [if_neg c17] at h
  by_cases c18 : a0.toList = ([65, 79, 80, 95, 88, 88, 49] : List UInt8)
  · rw [if_pos c18] at h; exact absurd h (by simp)
  rw [if_neg c18] at h
  by_cases c19 : a0.toList = ([65, 79, 80, 95, 88, 88, 50] : List UInt8)
  · rw [if_pos c19] at h; exact absurd h (by simp)
  rw [if_neg c19] at h
  by_cases c20 : a0.toList = ([65, 79, 80, 95, 88, 88, 51] : List UInt8)
  · rw [if_pos c20] at h; exact absurd h (by simp)
  rw [if_neg c20] at h
  by_cases c21 : a0.toList = ([65, 79, 80, 95, 88, 88, 51, 73] : List UInt8)
  · rw [if_pos c21] at h; exact absurd h (by simp)
  rw [if_neg c21] at h
  by_cases c22 : a0.toList = ([65, 79, 80, 95, 88, 88, 52] : List UInt8)
  · rw [if_pos c22] at h; exact absurd h (by simp)
  rw [if_neg c22] at h
  by_cases c23 : a0.toList = ([65, 79, 80, 95, 68, 81] : List UInt8)
  · rw [if_pos c23] at h; exact absurd h (by simp)
  rw [if_neg c23] at h
  by_cases c24 : a0.toList = ([65, 79, 80, 95, 90, 50, 51, 73] : List UInt8)
  · rw [if_pos c24] at h; exact absurd h (by simp)
  rw [if_neg c24] at h
  by_cases c25 : a0.toList = ([65, 79, 80, 95, 82, 82, 82, 73] : List UInt8)
  · rw [if_pos c25] at h; exact absurd h (by simp)
  rw [if_neg c25] at h
  by_cases c26 : a0.toList = ([76, 79, 80, 95, 82, 82, 82] : List UInt8)
  · rw [if_pos c26] at h; exact absurd h (by simp)
  rw [if_neg c26] at h
  by_cases c27 : a0.toList = ([76, 79, 80, 95, 73, 82, 82] : List UInt8)
  · rw [if_pos c27] at h; exact absurd h (by simp)
  rw [if_neg c27] at h
  by_cases c28 : a0.toList = ([79, 80, 95, 66, 82] : List UInt8)
  · rw [if_pos c28] at h; exact absurd h (by simp)
  rw [if_neg c28] at h
  by_cases c29 : a0.toList = ([79, 80, 95, 66, 67] : List UInt8)
  · rw [if_pos c29] at h; exact absurd h (by simp)
  rw [if_neg c29] at h
  by_cases c30 : a0.toList = ([79, 80, 95, 66, 67, 82] : List UInt8)
  · rw [if_pos c30] at h; exact absurd h (by simp)
  rw [if_neg c30] at h
  by_cases c31 : a0.toList = ([79, 80, 95, 82, 76, 87] : List UInt8)
  · rw [if_pos c31] at h; exact absurd h (by simp)
  rw [if_neg c31] at h
  by_cases c32 : a0.toList = ([65, 79, 80, 95, 69, 88, 84, 83, 87, 83, 76, 73] : List UInt8)
  · rw [if_pos c32] at h; exact absurd h (by simp)
  rw [if_neg c32] at h
  by_cases c33 : a0.toList = ([65, 79, 80, 95, 73, 83, 69, 76] : List UInt8)
  · rw [if_pos c33] at h; exact absurd h (by simp)
  rw [if_neg c33] at h
  by_cases c34 : a0.toList = ([65, 79, 80, 95, 77, 68] : List UInt8)
  · rw [if_pos c34] at h; exact absurd h (by simp)
  rw [if_neg c34] at h
  by_cases c35 : a0.toList = ([65, 79, 80, 95, 77, 68, 83] : List UInt8)
  · rw [if_pos c35] at h; exact absurd h (by simp)
  rw [if_neg c35] at h
  by_cases c36 : a0.toList = ([65, 79, 80, 95, 80, 70, 88, 95, 48, 48, 95, 56, 76, 83] : List UInt8)
  · rw [if_pos c36] at h; exact absurd h (by simp)
  rw [if_neg c36] at h
  by_cases c37 : a0.toList = ([65, 79, 80, 95, 80, 70, 88, 95, 49, 48, 95, 77, 76, 83] : List UInt8)
  · rw [if_pos c37] at h; exact absurd h (by simp)
  rw [if_neg c37] at h
  exact impl_bounds.none_calls a0 w c0 c1 c2 c3 c4 c5 c6 c7 c8 c9 c10 c11 c12 c13 c14 c15 c16 c17 c18 c19 c20 c21 c22 c23 c24 c25 c26 c27 c28 c29 c30 c31 c32 c33 c34 c35 c36 c37
set_option maxRecDepth 100000 in
theorem impl_bounds.calls (a0 : ByteArray) (r : List Int) (w : World) (h : impl_bounds.f a0 = some r) :
    Calls Try.prog 20 #[.string a0] w fun e w' => ∃ v0_ : Value, e = .returned (v0_) ∧ Kd.R (Kd.int .i64) 3 w' w.heap.size (fun _ => True) v0_ r ∧ Below w.heap.size w w' := by
  have h' := h
  unfold impl_bounds.f at h
  by_cases c0 : a0.toList = ([79, 80, 86, 88, 88, 49] : List UInt8)
  · rw [if_pos c0] at h; obtain rfl := Option.some.inj h; obtain rfl := name_of c0; exact bounds_calls_OPVXX1 w
  rw [if_neg c0] at h
  by_cases c1 : a0.toList = ([79, 80, 86, 88, 88, 50] : List UInt8)
  · rw [if_pos c1] at h; obtain rfl := Option.some.inj h; obtain rfl := name_of c1; exact bounds_calls_OPVXX2 w
  rw [if_neg c1] at h
  by_cases c2 : a0.toList = ([79, 80, 86, 88, 88, 50, 86, 65] : List UInt8)
  · rw [if_pos c2] at h; obtain rfl := Option.some.inj h; obtain rfl := name_of c2; exact bounds_calls_OPVXX2VA w
  rw [if_neg c2] at h
  by_cases c3 : a0.toList = ([79, 80, 86, 88, 88, 51] : List UInt8)
  · rw [if_pos c3] at h; obtain rfl := Option.some.inj h; obtain rfl := name_of c3; exact bounds_calls_OPVXX3 w
  rw [if_neg c3] at h
  by_cases c4 : a0.toList = ([79, 80, 86, 88, 88, 52] : List UInt8)
  · rw [if_pos c4] at h; obtain rfl := Option.some.inj h; obtain rfl := name_of c4; exact bounds_calls_OPVXX4 w
  rw [if_neg c4] at h
  by_cases c5 : a0.toList = ([79, 80, 68, 81] : List UInt8)
  · rw [if_pos c5] at h; obtain rfl := Option.some.inj h; obtain rfl := name_of c5; exact bounds_calls_OPDQ w
  rw [if_neg c5] at h
  by_cases c6 : a0.toList = ([79, 80, 86, 88] : List UInt8)
  · rw [if_pos c6] at h; obtain rfl := Option.some.inj h; obtain rfl := name_of c6; exact bounds_calls_OPVX w
  rw [if_neg c6] at h
  by_cases c7 : a0.toList = ([79, 80, 86, 67] : List UInt8)
  · rw [if_pos c7] at h; obtain rfl := Option.some.inj h; obtain rfl := name_of c7; exact bounds_calls_OPVC w
  rw [if_neg c7] at h
  by_cases c8 : a0.toList = ([79, 80, 86, 67, 67] : List UInt8)
  · rw [if_pos c8] at h; obtain rfl := Option.some.inj h; obtain rfl := name_of c8; exact bounds_calls_OPVCC w
  rw [if_neg c8] at h
  by_cases c9 : a0.toList = ([79, 80, 77, 68] : List UInt8)
  · rw [if_pos c9] at h; obtain rfl := Option.some.inj h; obtain rfl := name_of c9; exact bounds_calls_OPMD w
  rw [if_neg c9] at h
  by_cases c10 : a0.toList = ([65, 79, 80, 95, 82, 82, 82] : List UInt8)
  · rw [if_pos c10] at h; obtain rfl := Option.some.inj h; obtain rfl := name_of c10; exact bounds_calls_AOP_RRR w
  rw [if_neg c10] at h
  by_cases c11 : a0.toList = ([65, 79, 80, 95, 82, 82] : List UInt8)
  · rw [if_pos c11] at h; obtain rfl := Option.some.inj h; obtain rfl := name_of c11; exact bounds_calls_AOP_RR w
  rw [if_neg c11] at h
  by_cases c12 : a0.toList = ([65, 79, 80, 95, 82, 82, 82, 82] : List UInt8)
  · rw [if_pos c12] at h; obtain rfl := Option.some.inj h; obtain rfl := name_of c12; exact bounds_calls_AOP_RRRR w
  rw [if_neg c12] at h
  by_cases c13 : a0.toList = ([65, 79, 80, 95, 73, 82, 82] : List UInt8)
  · rw [if_pos c13] at h; obtain rfl := Option.some.inj h; obtain rfl := name_of c13; exact bounds_calls_AOP_IRR w
  rw [if_neg c13] at h
  by_cases c14 : a0.toList = ([65, 79, 80, 95, 86, 73, 82, 82] : List UInt8)
  · rw [if_pos c14] at h; obtain rfl := Option.some.inj h; obtain rfl := name_of c14; exact bounds_calls_AOP_VIRR w
  rw [if_neg c14] at h
  by_cases c15 : a0.toList = ([65, 79, 80, 95, 73, 73, 82, 82] : List UInt8)
  · rw [if_pos c15] at h; obtain rfl := Option.some.inj h; obtain rfl := name_of c15; exact bounds_calls_AOP_IIRR w
  rw [if_neg c15] at h
  by_cases c16 : a0.toList = ([65, 79, 80, 95, 73, 82, 82, 82] : List UInt8)
  · rw [if_pos c16] at h; obtain rfl := Option.some.inj h; obtain rfl := name_of c16; exact bounds_calls_AOP_IRRR w
  rw [if_neg c16] at h
  by_cases c17 : a0.toList = ([65, 79, 80, 95, 73, 82] : List UInt8)
  · rw [if_pos c17] at h; obtain rfl := Option.some.inj h; obtain rfl := name_of c17; exact bounds_calls_AOP_IR w
  rw [if_neg c17] at h
  by_cases c18 : a0.toList = ([65, 79, 80, 95, 88, 88, 49] : List UInt8)
  · rw [if_pos c18] at h; obtain rfl := Option.some.inj h; obtain rfl := name_of c18; exact bounds_calls_AOP_XX1 w
  rw [if_neg c18] at h
  by_cases c19 : a0.toList = ([65, 79, 80, 95, 88, 88, 50] : List UInt8)
  · rw [if_pos c19] at h; obtain rfl := Option.some.inj h; obtain rfl := name_of c19; exact bounds_calls_AOP_XX2 w
  rw [if_neg c19] at h
  by_cases c20 : a0.toList = ([65, 79, 80, 95, 88, 88, 51] : List UInt8)
  · rw [if_pos c20] at h; obtain rfl := Option.some.inj h; obtain rfl := name_of c20; exact bounds_calls_AOP_XX3 w
  rw [if_neg c20] at h
  by_cases c21 : a0.toList = ([65, 79, 80, 95, 88, 88, 51, 73] : List UInt8)
  · rw [if_pos c21] at h; obtain rfl := Option.some.inj h; obtain rfl := name_of c21; exact bounds_calls_AOP_XX3I w
  rw [if_neg c21] at h
  by_cases c22 : a0.toList = ([65, 79, 80, 95, 88, 88, 52] : List UInt8)
  · rw [if_pos c22] at h; obtain rfl := Option.some.inj h; obtain rfl := name_of c22; exact bounds_calls_AOP_XX4 w
  rw [if_neg c22] at h
  by_cases c23 : a0.toList = ([65, 79, 80, 95, 68, 81] : List UInt8)
  · rw [if_pos c23] at h; obtain rfl := Option.some.inj h; obtain rfl := name_of c23; exact bounds_calls_AOP_DQ w
  rw [if_neg c23] at h
  by_cases c24 : a0.toList = ([65, 79, 80, 95, 90, 50, 51, 73] : List UInt8)
  · rw [if_pos c24] at h; obtain rfl := Option.some.inj h; obtain rfl := name_of c24; exact bounds_calls_AOP_Z23I w
  rw [if_neg c24] at h
  by_cases c25 : a0.toList = ([65, 79, 80, 95, 82, 82, 82, 73] : List UInt8)
  · rw [if_pos c25] at h; obtain rfl := Option.some.inj h; obtain rfl := name_of c25; exact bounds_calls_AOP_RRRI w
  rw [if_neg c25] at h
  by_cases c26 : a0.toList = ([76, 79, 80, 95, 82, 82, 82] : List UInt8)
  · rw [if_pos c26] at h; obtain rfl := Option.some.inj h; obtain rfl := name_of c26; exact bounds_calls_LOP_RRR w
  rw [if_neg c26] at h
  by_cases c27 : a0.toList = ([76, 79, 80, 95, 73, 82, 82] : List UInt8)
  · rw [if_pos c27] at h; obtain rfl := Option.some.inj h; obtain rfl := name_of c27; exact bounds_calls_LOP_IRR w
  rw [if_neg c27] at h
  by_cases c28 : a0.toList = ([79, 80, 95, 66, 82] : List UInt8)
  · rw [if_pos c28] at h; obtain rfl := Option.some.inj h; obtain rfl := name_of c28; exact bounds_calls_OP_BR w
  rw [if_neg c28] at h
  by_cases c29 : a0.toList = ([79, 80, 95, 66, 67] : List UInt8)
  · rw [if_pos c29] at h; obtain rfl := Option.some.inj h; obtain rfl := name_of c29; exact bounds_calls_OP_BC w
  rw [if_neg c29] at h
  by_cases c30 : a0.toList = ([79, 80, 95, 66, 67, 82] : List UInt8)
  · rw [if_pos c30] at h; obtain rfl := Option.some.inj h; obtain rfl := name_of c30; exact bounds_calls_OP_BCR w
  rw [if_neg c30] at h
  by_cases c31 : a0.toList = ([79, 80, 95, 82, 76, 87] : List UInt8)
  · rw [if_pos c31] at h; obtain rfl := Option.some.inj h; obtain rfl := name_of c31; exact bounds_calls_OP_RLW w
  rw [if_neg c31] at h
  by_cases c32 : a0.toList = ([65, 79, 80, 95, 69, 88, 84, 83, 87, 83, 76, 73] : List UInt8)
  · rw [if_pos c32] at h; obtain rfl := Option.some.inj h; obtain rfl := name_of c32; exact bounds_calls_AOP_EXTSWSLI w
  rw [if_neg c32] at h
  by_cases c33 : a0.toList = ([65, 79, 80, 95, 73, 83, 69, 76] : List UInt8)
  · rw [if_pos c33] at h; obtain rfl := Option.some.inj h; obtain rfl := name_of c33; exact bounds_calls_AOP_ISEL w
  rw [if_neg c33] at h
  by_cases c34 : a0.toList = ([65, 79, 80, 95, 77, 68] : List UInt8)
  · rw [if_pos c34] at h; obtain rfl := Option.some.inj h; obtain rfl := name_of c34; exact bounds_calls_AOP_MD w
  rw [if_neg c34] at h
  by_cases c35 : a0.toList = ([65, 79, 80, 95, 77, 68, 83] : List UInt8)
  · rw [if_pos c35] at h; obtain rfl := Option.some.inj h; obtain rfl := name_of c35; exact bounds_calls_AOP_MDS w
  rw [if_neg c35] at h
  by_cases c36 : a0.toList = ([65, 79, 80, 95, 80, 70, 88, 95, 48, 48, 95, 56, 76, 83] : List UInt8)
  · rw [if_pos c36] at h; obtain rfl := Option.some.inj h; obtain rfl := name_of c36; exact bounds_calls_AOP_PFX_00_8LS w
  rw [if_neg c36] at h
  by_cases c37 : a0.toList = ([65, 79, 80, 95, 80, 70, 88, 95, 49, 48, 95, 77, 76, 83] : List UInt8)
  · rw [if_pos c37] at h; obtain rfl := Option.some.inj h; obtain rfl := name_of c37; exact bounds_calls_AOP_PFX_10_MLS w
  rw [if_neg c37] at h
  obtain rfl := Option.some.inj h
  refine (impl_bounds.nil_calls a0 w h').mono ?_
  rintro e w' ⟨rfl, hb⟩
  exact ⟨_, rfl, Kd.R_nil _ _ _ _ _, hb⟩

end Go.Proofs.Ytnfkdmoblncclaa.X
