/- The walk of the law FnFields. -/
import Derived.Test.YtnfkdmoblncclaaXEncode
import Derived.Test.YtnfkdmoblncclaaXLayouts
import Derived.Test.YtnfkdmoblncclaaXWord
import Derived.Test.YtnfkdmoblncclaaXFits
namespace Go.Proofs.Ytnfkdmoblncclaa.X
open Go.RowKit Go.Proofs.YtnfkdmoblncclaaW.PrintWords Go.Proofs.YtnfkdmoblncclaaW.PrintLast Go.Proofs.YtnfkdmoblncclaaW.PrintMore
attribute [local go_sem] max2_int min2_int max_two min_two max_three min_three max_four min_four   -- for this text's walks alone
set_option linter.unusedVariables false
set_option linter.unusedSimpArgs false

/-! ### laws_FnFields: function 7 -/
def laws_FnFields.j0 : Nat → Int → Int → List Int → List (S29) → Bool → Option (Bool)
 | 0, _, _, _, _, _ => none
 | k + 1, x0, x1, x2, x7, x48 => if x48 = true then (some true) else (if 0 ≤ x0 then (if x0 < (x7.length : Int) then ((spec_Word.f k ((rd_T29 x7 x0).f0) ((rd_T29 x7 x0).f1) x1 x2).bind fun bt585 => (if bt585.2 = true then ((some (([wrap64 (x1)] : List Int) : List Int)).bind fun y588 => (if y588.length + x2.length < 17592186044416 then ((impl_Encode.f k ((rd_T29 x7 x0).f0) (y588 ++ x2)).bind fun bt594 => (if (bt594.2 == bt585.2) = true then (some (bt594.1 == bt585.1)) else (some false))) else (none))) else ((laws_fits.f k ((rd_T29 x7 x0).f1) x2).bind fun t597 => (if t597 = true then (some true) else ((some (([wrap64 (x1)] : List Int) : List Int)).bind fun y599 => (if y599.length + x2.length < 17592186044416 then ((impl_Encode.f k ((rd_T29 x7 x0).f0) (y599 ++ x2)).bind fun bt605 => (if (bt605.2 == bt585.2) = true then (some true) else (some false))) else (none))))))) else (none)) else (none))
def laws_FnFields.f (k : Nat) (a0 : Int) (a1 : Int) (l2 : List Int) : Option (Bool) := if (l2.length : Int) > 2147483647 then (some true) else ((spec_Layouts.f).bind fun t579 => (if a0 < 0 then (laws_FnFields.j0 k a0 a1 l2 t579 true) else (if a0 ≥ (t579.length : Int) then (laws_FnFields.j0 k a0 a1 l2 t579 true) else (if (l2.length : Int) > 20 then (laws_FnFields.j0 k a0 a1 l2 t579 true) else (if 0 ≤ a0 then (if a0 < (t579.length : Int) then (if (l2.length : Int) = (((rd_T29 t579 a0).f1).size : Int) then (if 0 ≤ (wrap64 ((l2.length : Int) - 1)) then (if (wrap64 ((l2.length : Int) - 1)) < (l2.length : Int) then (laws_FnFields.j0 k a0 a1 l2 t579 (decide ((rd l2 (wrap64 ((l2.length : Int) - 1))) < 0))) else (none)) else (none)) else (laws_FnFields.j0 k a0 a1 l2 t579 false)) else (none)) else (none))))))
def laws_FnFields.T9 : Bool × List (List Nat × List Nat) := (true, [([], []), ([], []), ([0, 1], [0, 1]), ([2], [2]), ([3], [3]), ([], []), ([5], [5]), ([6], [6]), ([], []), ([7, 8], [7, 8]), ([4, 9, 9], [4, 9]), ([10], [10]), ([11], [11]), ([11], [11]), ([12, 10, 0, 1, 2, 3, 4, 5, 6, 7, 8, 9, 10, 11, 12], [12]), ([13, 14, 0, 1, 2, 3, 4, 5, 6, 7, 8, 9, 10, 11, 12, 13, 14], [13])])
def laws_FnFields.B9 : List Nat := [0, 0, 3, 7, 15, 0, 32, 96, 0, 480, 1023, 2047, 4095, 4095, 8191, 32767]
theorem laws_FnFields.tab9 : rtab .any (opsOf Try.f7 9) = laws_FnFields.T9 := by kernel_rfl
theorem laws_FnFields.bits9 : waitsOk laws_FnFields.T9.2 laws_FnFields.B9 = true := by kernel_rfl
set_option maxHeartbeats 8000000 in
set_option maxRecDepth 100000 in
theorem laws_FnFields.calls (k : Nat) (a0 : Int) (a1 : Int) (A2 : Option Addr) (c2 : Nat) (l2 : List Int) (r : Bool) (w : World) (hr2 : Kd.C (Kd.int .i64) w A2 l2.length l2) (hc2 : l2.length ≤ c2) (h : laws_FnFields.f k a0 a1 l2 = some r) :
  Calls Try.prog 7 #[.int .i64 a0, .int .u32 a1, .slice A2 l2.length c2] w fun e w' => e = .returned (.bool r) ∧ Below w.heap.size w w' := by
 have hu29 := Try.underlying29
 have HR2 := Aside0.mk hr2
 have HC2 := Aside0.mk hc2
 clear hr2 hc2
 have HB := Aside0.mk (Below.refl w.heap.size w)
 have H : (if (l2.length : Int) > 2147483647 then (some true) else ((spec_Layouts.f).bind fun t579 => (if a0 < 0 then (laws_FnFields.j0 k a0 a1 l2 t579 true) else (if a0 ≥ (t579.length : Int) then (laws_FnFields.j0 k a0 a1 l2 t579 true) else (if (l2.length : Int) > 20 then (laws_FnFields.j0 k a0 a1 l2 t579 true) else (if 0 ≤ a0 then (if a0 < (t579.length : Int) then (if (l2.length : Int) = (((rd_T29 t579 a0).f1).size : Int) then (if 0 ≤ (wrap64 ((l2.length : Int) - 1)) then (if (wrap64 ((l2.length : Int) - 1)) < (l2.length : Int) then (laws_FnFields.j0 k a0 a1 l2 t579 (decide ((rd l2 (wrap64 ((l2.length : Int) - 1))) < 0))) else (none)) else (none)) else (laws_FnFields.j0 k a0 a1 l2 t579 false)) else (none)) else (none))))))) = some r := h
 clear h
 by_cases c4 : (l2.length : Int) > 2147483647
 ·rw [if_pos c4] at H
  have c4b0 : decide (2147483647 < (l2.length : Int)) = true := decide_eq_true c4
  have c4b1 : decide (2147483647 < l2.length) = true := decide_eq_true (by omega)
  clear c4
  obtain rfl := Option.some.inj H
  go_enter Try.func7, Try.ntmps7
  go_wp2
  go_ret
  exact ⟨by first | rfl | (simp [errW_none, errW_some] <;> rfl) | (simp [*, errW_none, errW_some] <;> rfl), by repeat (first | (with_reducible first | exact HB.out | apply below_alloc | apply pw_below_drewN | apply below_drew1) | exact HB.out)⟩
 ·rw [if_neg c4] at H
  have c4b0 : decide (2147483647 < (l2.length : Int)) = false := decide_eq_false c4
  have c4b1 : decide (2147483647 < l2.length) = false := decide_eq_false (by omega)
  clear c4
  replace H := Option.bind_eq_some_iff.mp H
  obtain ⟨t579, A50, H⟩ := H
  replace H : (if a0 < 0 then (laws_FnFields.j0 k a0 a1 l2 t579 true) else (if a0 ≥ (t579.length : Int) then (laws_FnFields.j0 k a0 a1 l2 t579 true) else (if (l2.length : Int) > 20 then (laws_FnFields.j0 k a0 a1 l2 t579 true) else (if 0 ≤ a0 then (if a0 < (t579.length : Int) then (if (l2.length : Int) = (((rd_T29 t579 a0).f1).size : Int) then (if 0 ≤ (wrap64 ((l2.length : Int) - 1)) then (if (wrap64 ((l2.length : Int) - 1)) < (l2.length : Int) then (laws_FnFields.j0 k a0 a1 l2 t579 (decide ((rd l2 (wrap64 ((l2.length : Int) - 1))) < 0))) else (none)) else (none)) else (laws_FnFields.j0 k a0 a1 l2 t579 false)) else (none)) else (none))))) = some r := H
  have A5 := Aside0.mk A50
  clear A50
  have HC6 := Aside0.mk H
  clear H
  go_enter Try.func7, Try.ntmps7
  go_upto_region 4 with (first | ((with_reducible refine gate_callee (f := 11) rfl ?_); refine goesL_ (some 15) rfl rfl Try.func11 (by kernel_rfl) rfl #[] rfl (by (try simp only [List.map_toArray, List.map_cons, List.map_nil]); first | done | rfl | (simp only [List.length_drop, List.length_take]; rfl)) ?_; (with_reducible refine (spec_Layouts.calls  t579 _ A5.out).mono ?_); rintro e w7 ⟨v580, rfl, ho0, hb⟩; refine ⟨_, rfl, ?_⟩; have n0_ := Aside0.mk (Kd.R_lower ho0 (below_size (by repeat (first | (with_reducible first | exact HB.out | apply below_alloc | apply pw_below_drewN | apply below_drew1) | exact HB.out)))); have n1_ := Aside0.mk (below_step (by repeat (first | (with_reducible first | exact HB.out | apply below_alloc | apply pw_below_drewN | apply below_drew1) | exact HB.out)) hb); clear HB; have HO581 := n0_; have HB := n1_; clear n0_ n1_; (try clear hb); (try clear hb2); (try clear hk); (try clear hi); (try clear ho0)))
  (try simp only [Act.put, List.setIfInBounds_toArray, List.set_cons_zero, List.set_cons_succ])
  go_cut [48] (fun v48 wc => ∃ (kq : Nat) (x48_5 : Bool), v48 = .bool x48_5 ∧ Aside0 (laws_FnFields.j0 kq a0 a1 l2 t579 x48_5 = some r) ∧ Aside0 (kq ≤ k) ∧ Aside0 (Kd.R k29 29 wc w.heap.size (fun _ => True) v580 t579) ∧ Aside0 (Below w.heap.size w wc))
  case first =>
   have H := HC6.out
   clear HC6
   by_cases c8 : a0 < 0
   ·rw [if_pos c8] at H
    have c8b0 : decide (a0 < 0) = true := decide_eq_true c8
    clear c8
    (first | rw [c8b0] | (simp only [i64_w, i32_w]; rw [c8b0]) | skip)
    have H' := Aside0.mk H
    clear H
    go_wp2
    go_meet
    case rel => exact ⟨_, (true), (by first | rfl | (simp; done) | (simp [*]; done)), H', ⟨by first | omega | exact Nat.le_refl _⟩, ⟨by (with_reducible repeat (first | apply Kd.R_alloc | apply Kd.R_drewN | apply Kd.R_drew)); exact HO581.out⟩, ⟨by repeat (first | (with_reducible first | exact HB.out | apply below_alloc | apply pw_below_drewN | apply below_drew1) | exact HB.out)⟩⟩
   ·rw [if_neg c8] at H
    have c8b0 : decide (a0 < 0) = false := decide_eq_false c8
    clear c8
    (first | rw [c8b0] | (simp only [i64_w, i32_w]; rw [c8b0]) | skip)
    by_cases c9 : a0 ≥ (t579.length : Int)
    ·rw [if_pos c9] at H
     have c9b0 : decide ((t579.length : Int) ≤ a0) = true := decide_eq_true c9
     clear c9
     have H' := Aside0.mk H
     clear H
     obtain ⟨Ao10, co10, eo10⟩ := Kd.R_slice HO581.out
     subst eo10
     go_wp2
     go_meet
     case rel => exact ⟨_, (true), (by first | rfl | (simp; done) | (simp [*]; done)), H', ⟨by first | omega | exact Nat.le_refl _⟩, ⟨by (with_reducible repeat (first | apply Kd.R_alloc | apply Kd.R_drewN | apply Kd.R_drew)); exact HO581.out⟩, ⟨by repeat (first | (with_reducible first | exact HB.out | apply below_alloc | apply pw_below_drewN | apply below_drew1) | exact HB.out)⟩⟩
    ·rw [if_neg c9] at H
     have c9b0 : decide ((t579.length : Int) ≤ a0) = false := decide_eq_false c9
     clear c9
     by_cases c11 : (l2.length : Int) > 20
     ·rw [if_pos c11] at H
      have c11b0 : decide (20 < (l2.length : Int)) = true := decide_eq_true c11
      have c11b1 : decide (20 < l2.length) = true := decide_eq_true (by omega)
      clear c11
      have H' := Aside0.mk H
      clear H
      obtain ⟨Ao12, co12, eo12⟩ := Kd.R_slice HO581.out
      subst eo12
      go_wp2
      go_meet
      case rel => exact ⟨_, (true), (by first | rfl | (simp; done) | (simp [*]; done)), H', ⟨by first | omega | exact Nat.le_refl _⟩, ⟨by (with_reducible repeat (first | apply Kd.R_alloc | apply Kd.R_drewN | apply Kd.R_drew)); exact HO581.out⟩, ⟨by repeat (first | (with_reducible first | exact HB.out | apply below_alloc | apply pw_below_drewN | apply below_drew1) | exact HB.out)⟩⟩
     ·rw [if_neg c11] at H
      have c11b0 : decide (20 < (l2.length : Int)) = false := decide_eq_false c11
      have c11b1 : decide (20 < l2.length) = false := decide_eq_false (by omega)
      clear c11
      by_cases c13 : 0 ≤ a0
      ·rw [if_pos c13] at H
       have c13b0 : decide (0 ≤ a0) = true := decide_eq_true c13
       clear c13
       by_cases c14 : a0 < (t579.length : Int)
       ·rw [if_pos c14] at H
        have c14b0 : decide (a0 < (t579.length : Int)) = true := decide_eq_true c14
        clear c14
        by_cases c15 : (l2.length : Int) = (((rd_T29 t579 a0).f1).size : Int)
        ·rw [if_pos c15] at H
         have c15b0 : ((l2.length : Int) == (((rd_T29 t579 a0).f1).size : Int)) = true := beq_iff_eq.mpr c15
         have c15b1 : ((l2.length : Int) != (((rd_T29 t579 a0).f1).size : Int)) = false := bne_eq_false_iff_eq.mpr c15
         have c15b2 : (l2.length == ((rd_T29 t579 a0).f1).size) = true := by first | simpa using c15 | (simp at c15 ⊢; omega)
         clear c15
         obtain ⟨ji16, hji16⟩ : ∃ j_ : Int, (wrap64 ((l2.length : Int) - 1)) = j_ := ⟨_, rfl⟩
         replace H : (if 0 ≤ (ji16) then (if (ji16) < (l2.length : Int) then (laws_FnFields.j0 k a0 a1 l2 t579 (decide ((rd l2 (ji16)) < 0))) else (none)) else (none)) = some r := by first | (rw [hji16] at H; exact H) | (simp only [hji16] at H ⊢; exact H)
         have hji16w : (IntKind.i64.wrap ((l2.length : Int) - 1)) = ji16 := (i64_w _).trans hji16
         by_cases c17 : 0 ≤ (ji16)
         ·rw [if_pos c17] at H
          have c17b0 : decide (0 ≤ (ji16)) = true := decide_eq_true c17
          clear c17
          by_cases c18 : (ji16) < (l2.length : Int)
          ·rw [if_pos c18] at H
           have c18b0 : decide ((ji16) < (l2.length : Int)) = true := decide_eq_true c18
           clear c18
           have H' := Aside0.mk H
           clear H
           obtain ⟨Ao19, co19, eo19⟩ := Kd.R_slice HO581.out
           subst eo19
           have p582 : 0 ≤ (a0 : Int) := of_decide_eq_true (by first | (with_reducible assumption) | assumption)
           have q582 : a0 < (t579.length : Int) := of_decide_eq_true (by first | (with_reducible assumption) | assumption)
           obtain ⟨ad582, e582, hx582_0, hx582_1⟩ := at_T29 (Kd.R_reads' HO581.out).2.2 a0 p582 q582
           cases e582
           replace p582 := eq_true p582
           replace q582 := eq_true q582
           have p583 : 0 ≤ ((ji16) : Int) := of_decide_eq_true (by first | (with_reducible assumption) | assumption)
           have q583 : (ji16) < (l2.length : Int) := of_decide_eq_true (by first | (with_reducible assumption) | assumption)
           obtain ⟨ad583, e583, hx583_0⟩ := Kd.at_int HR2.out (ji16) p583 q583
           cases e583
           replace hx583_0 := (HB.out.cell (World.block_lt_of_cell? w _ hx583_0)).trans hx583_0
           replace p583 := eq_true p583
           replace q583 := eq_true q583
           go_wp2
           go_meet
           case rel => exact ⟨_, (decide ((rd l2 (ji16)) < 0)), (by first | rfl | (simp; done) | (simp only [← hji16] <;> (first | rfl | simp)) | (simp [*]; done)), H', ⟨by first | omega | exact Nat.le_refl _⟩, ⟨by (with_reducible repeat (first | apply Kd.R_alloc | apply Kd.R_drewN | apply Kd.R_drew)); exact HO581.out⟩, ⟨by repeat (first | (with_reducible first | exact HB.out | apply below_alloc | apply pw_below_drewN | apply below_drew1) | exact HB.out)⟩⟩
          ·rw [if_neg c18] at H
           exact absurd H (by simp)
         ·rw [if_neg c17] at H
          exact absurd H (by simp)
        ·rw [if_neg c15] at H
         have c15b0 : ((l2.length : Int) == (((rd_T29 t579 a0).f1).size : Int)) = false := beq_eq_false_iff_ne.mpr c15
         have c15b1 : ((l2.length : Int) != (((rd_T29 t579 a0).f1).size : Int)) = true := bne_iff_ne.mpr c15
         have c15b2 : (l2.length == ((rd_T29 t579 a0).f1).size) = false := by first | simpa using c15 | (simp at c15 ⊢; omega)
         have H' := Aside0.mk H
         clear H
         obtain ⟨Ao20, co20, eo20⟩ := Kd.R_slice HO581.out
         subst eo20
         have p582 : 0 ≤ (a0 : Int) := of_decide_eq_true (by first | (with_reducible assumption) | assumption)
         have q582 : a0 < (t579.length : Int) := of_decide_eq_true (by first | (with_reducible assumption) | assumption)
         obtain ⟨ad582, e582, hx582_0, hx582_1⟩ := at_T29 (Kd.R_reads' HO581.out).2.2 a0 p582 q582
         cases e582
         replace p582 := eq_true p582
         replace q582 := eq_true q582
         go_wp2
         go_meet
         case rel => exact ⟨_, (false), (by first | rfl | (simp; done) | (simp [*]; done)), H', ⟨by first | omega | exact Nat.le_refl _⟩, ⟨by (with_reducible repeat (first | apply Kd.R_alloc | apply Kd.R_drewN | apply Kd.R_drew)); exact HO581.out⟩, ⟨by repeat (first | (with_reducible first | exact HB.out | apply below_alloc | apply pw_below_drewN | apply below_drew1) | exact HB.out)⟩⟩
       ·rw [if_neg c14] at H
        exact absurd H (by simp)
      ·rw [if_neg c13] at H
       exact absurd H (by simp)
  case rest =>
   clear HC6
   try clear c1
   try clear c2
   try clear p2
   try clear c4
   try clear c4b0
   try clear c4b1
   try clear p5
   try clear q5
   try clear hx5
   try clear p6
   try clear c7
   try clear c8
   try clear c8b0
   try clear c9
   try clear c9b0
   try clear c11
   try clear c11b0
   try clear c11b1
   try clear c13
   try clear c13b0
   try clear c14
   try clear c14b0
   try clear c15
   try clear c15b0
   try clear c15b1
   try clear c15b2
   try clear c17
   try clear c17b0
   try clear c18
   try clear c18b0
   try clear hx582_0
   try clear hx582_1
   try clear hx583_0
   try clear p582
   try clear p583
   try clear q582
   try clear q583
   obtain ⟨kq, x48_5, rfl, HA, HJ5, HO_7, HB⟩ := hcut
   cases kq with
   | zero => exact absurd HA.out (by simp [laws_FnFields.j0])
   | succ kj5 =>
    have H := HA.out
    clear HA
    simp only [laws_FnFields.j0] at H
    by_cases c21 : x48_5 = true
    ·subst c21
     have H1 : (some true) = some r := by rw [if_pos rfl] at H; exact H
     clear H
     have H := H1
     clear H1
     obtain rfl := Option.some.inj H
     go_wp2
     go_ret
     exact ⟨by first | rfl | (simp [errW_none, errW_some] <;> rfl) | (simp [*, errW_none, errW_some] <;> rfl), by repeat (first | (with_reducible first | exact HB.out | apply below_alloc | apply pw_below_drewN | apply below_drew1) | exact HB.out)⟩
    ·replace c21 := Bool.eq_false_iff.mpr c21
     subst c21
     have H1 : (if 0 ≤ a0 then (if a0 < (t579.length : Int) then ((spec_Word.f kj5 ((rd_T29 t579 a0).f0) ((rd_T29 t579 a0).f1) a1 l2).bind fun bt585 => (if bt585.2 = true then ((some (([wrap64 (a1)] : List Int) : List Int)).bind fun y588 => (if y588.length + l2.length < 17592186044416 then ((impl_Encode.f kj5 ((rd_T29 t579 a0).f0) (y588 ++ l2)).bind fun bt594 => (if (bt594.2 == bt585.2) = true then (some (bt594.1 == bt585.1)) else (some false))) else (none))) else ((laws_fits.f kj5 ((rd_T29 t579 a0).f1) l2).bind fun t597 => (if t597 = true then (some true) else ((some (([wrap64 (a1)] : List Int) : List Int)).bind fun y599 => (if y599.length + l2.length < 17592186044416 then ((impl_Encode.f kj5 ((rd_T29 t579 a0).f0) (y599 ++ l2)).bind fun bt605 => (if (bt605.2 == bt585.2) = true then (some true) else (some false))) else (none))))))) else (none)) else (none)) = some r := by rw [if_neg (show ¬ (false = true) by decide)] at H; exact H
     clear H
     have H := H1
     clear H1
     by_cases c22 : 0 ≤ a0
     ·rw [if_pos c22] at H
      have c22b0 : decide (0 ≤ a0) = true := decide_eq_true c22
      clear c22
      by_cases c23 : a0 < (t579.length : Int)
      ·rw [if_pos c23] at H
       have c23b0 : decide (a0 < (t579.length : Int)) = true := decide_eq_true c23
       clear c23
       replace H := Option.bind_eq_some_iff.mp H
       obtain ⟨⟨t585, t586⟩, A240, H⟩ := H
       replace H : (if t586 = true then ((some (([wrap64 (a1)] : List Int) : List Int)).bind fun y588 => (if y588.length + l2.length < 17592186044416 then ((impl_Encode.f kj5 ((rd_T29 t579 a0).f0) (y588 ++ l2)).bind fun bt594 => (if (bt594.2 == t586) = true then (some (bt594.1 == t585)) else (some false))) else (none))) else ((laws_fits.f kj5 ((rd_T29 t579 a0).f1) l2).bind fun t597 => (if t597 = true then (some true) else ((some (([wrap64 (a1)] : List Int) : List Int)).bind fun y599 => (if y599.length + l2.length < 17592186044416 then ((impl_Encode.f kj5 ((rd_T29 t579 a0).f0) (y599 ++ l2)).bind fun bt605 => (if (bt605.2 == t586) = true then (some true) else (some false))) else (none)))))) = some r := H
       have A24 := Aside0.mk A240
       clear A240
       by_cases c25 : t586 = true
       ·subst c25
        have H1 : ((some (([wrap64 (a1)] : List Int) : List Int)).bind fun y588 => (if y588.length + l2.length < 17592186044416 then ((impl_Encode.f kj5 ((rd_T29 t579 a0).f0) (y588 ++ l2)).bind fun bt594 => (if (bt594.2 == true) = true then (some (bt594.1 == t585)) else (some false))) else (none))) = some r := by rw [if_pos rfl] at H; exact H
        clear H
        have H := H1
        clear H1
        obtain ⟨y588, hy588⟩ : ∃ y_ : List Int, y_ = (([wrap64 (a1)] : List Int)) := ⟨_, rfl⟩
        replace H : (if y588.length + l2.length < 17592186044416 then ((impl_Encode.f kj5 ((rd_T29 t579 a0).f0) (y588 ++ l2)).bind fun bt594 => (if (bt594.2 == true) = true then (some (bt594.1 == t585)) else (some false))) else (none)) = some r := by first | (rw [hy588]; with_reducible exact H) | (have H2_ := (Option.bind_some _ _).symm.trans H; rw [hy588]; with_reducible exact H2_) | (have H2_ := (Option.bind_some _ _).symm.trans H; with_reducible exact H2_) | with_reducible exact H | (rw [hy588]; exact H) | exact H
        have Ny588 := Aside0.mk hy588
        clear hy588
        by_cases c26 : y588.length + l2.length < 17592186044416
        ·rw [if_pos c26] at H
         have LMc26 := Aside0.mk c26
         clear c26
         obtain ⟨y591, hy591⟩ : ∃ y_ : List Int, y_ = (y588 ++ l2) := ⟨_, rfl⟩
         replace H : ((impl_Encode.f kj5 ((rd_T29 t579 a0).f0) y591).bind fun bt594 => (if (bt594.2 == true) = true then (some (bt594.1 == t585)) else (some false))) = some r := by first | (rw [hy591]; with_reducible exact H) | (have H2_ := (Option.bind_some _ _).symm.trans H; rw [hy591]; with_reducible exact H2_) | (have H2_ := (Option.bind_some _ _).symm.trans H; with_reducible exact H2_) | with_reducible exact H | (rw [hy591]; exact H) | exact H
         have Ny591 := Aside0.mk hy591
         clear hy591
         replace H := Option.bind_eq_some_iff.mp H
         obtain ⟨⟨t594, t595⟩, A270, H⟩ := H
         replace H : (if (t595 == true) = true then (some (t594 == t585)) else (some false)) = some r := H
         have A27 := Aside0.mk A270
         clear A270
         by_cases c28 : (t595 == true) = true
         ·rw [if_pos c28] at H
          have c28b0 : (t595 == true) = true := c28
          (try (have c28b1 : decide (t595 = true) = true := by simpa using c28))
          (try (have c28b2 : (t595 == true) = true := by simpa using c28))
          clear c28
          obtain rfl := Option.some.inj H
          obtain ⟨Ao29, co29, eo29⟩ := Kd.R_slice HO_7.out
          subst eo29
          have p584 : 0 ≤ (a0 : Int) := of_decide_eq_true (by first | (with_reducible assumption) | assumption)
          have q584 : a0 < (t579.length : Int) := of_decide_eq_true (by first | (with_reducible assumption) | assumption)
          obtain ⟨ad584, e584, hx584_0, hx584_1⟩ := at_T29 (Kd.R_reads' HO_7.out).2.2 a0 p584 q584
          cases e584
          replace p584 := eq_true p584
          replace q584 := eq_true q584
          try go_wp2_with (first | ((with_reducible refine gate_callee (f := 12) rfl ?_); refine goesL_ (some 56) rfl rfl Try.func12 (by kernel_rfl) rfl #[.agg #[.string ((rd_T29 t579 a0).f0), .string ((rd_T29 t579 a0).f1)], .int .u32 a1, .slice A2 l2.length c2] rfl (by (try simp only [List.map_toArray, List.map_cons, List.map_nil]); first | done | rfl | (simp only [List.length_drop, List.length_take]; rfl)) ?_; (with_reducible refine (spec_Word.calls kj5 ((rd_T29 t579 a0).f0) ((rd_T29 t579 a0).f1) a1 _ _ l2 t585 true _ ?side1 ?side2 A24.out).mono ?_); (case side1 => repeat (first | exact (Kd.C_below HR2.out HB.out) | (with_reducible refine Kd.C_alloc ?_ _) | (with_reducible refine Kd.C_drewN ?_ _) | (with_reducible refine Kd.C_drew ?_))); (case side2 => exact HC2.out); rintro e w30 ⟨rfl, hb⟩; refine ⟨_, rfl, ?_⟩; have n0_ := Aside0.mk (Kd.R_below (by (with_reducible repeat (first | apply Kd.R_alloc | apply Kd.R_drewN | apply Kd.R_drew)); exact HO_7.out) hb); have n1_ := Aside0.mk (below_step (by repeat (first | (with_reducible first | exact HB.out | apply below_alloc | apply pw_below_drewN | apply below_drew1) | exact HB.out)) hb); clear HO_7; clear HB; have HO_7 := n0_; have HB := n1_; clear n0_ n1_; (try clear hb); (try clear hb2); (try clear hk); (try clear hi)))
          have n0_ := Aside0.mk (Kd.R_drew HO_7.out)
          have n1_ := Aside0.mk (below_drew1 HB.out)
          clear HO_7
          clear HB
          have HO_7 := n0_
          have HB := n1_
          clear n0_ n1_
          have p587 : 0 ≤ (a0 : Int) := of_decide_eq_true (by first | (with_reducible assumption) | assumption)
          have q587 : a0 < (t579.length : Int) := of_decide_eq_true (by first | (with_reducible assumption) | assumption)
          obtain ⟨ad587, e587, hx587_0, hx587_1⟩ := at_T29 (Kd.R_reads' HO_7.out).2.2 a0 p587 q587
          obtain rfl : ad584 = ad587 := (by injection e587)
          replace p587 := eq_true p587
          replace q587 := eq_true q587
          refine start_ (n := 16) (S := fun w' => w'.cell? (ad584.add ((a0).toNat * 2)) = some (.string ((rd_T29 t579 a0).f0)) ∧ w'.cell? ⟨(ad584.add ((a0).toNat * 2)).block, (ad584.add ((a0).toNat * 2)).off + 1, none⟩ = some (.string ((rd_T29 t579 a0).f1))) (ds := []) #[false, false, false, false, false, false, false, false, false, false, false, false, false, false, false, false] (by kernel_rfl) rfl rfl ⟨hx587_0, hx587_1⟩ (fun hHeld => ?_); refine with_tabW laws_FnFields.tab9 laws_FnFields.bits9 (fun HT_ HW_ => ?_)
          generalize w30.drew = w31 at HO_7 HB hx587_0 hx587_1 hHeld ⊢
          refine pure_ (i := 0) (N := some 71) (v := ?_) (a' := ?_) #[true, false, false, false, false, false, false, false, false, false, false, false, false, false, false, false] rfl rfl (any_of HT_.out (by kernel_rfl)) (fun _ _ _ h => h) (Or.inl ⟨by rfl, ?_⟩) ?_ ?_
          rotate_left
          ·intro w'
           go_simp
           with_reducible rfl
          rotate_left
          ·simp only [Act.put, List.setIfInBounds_toArray, List.set_cons_zero, List.set_cons_succ, i64_w, i32_w]
           rfl
          refine pure_ (i := 1) (N := some 72) (v := ?_) (a' := ?_) #[true, true, false, false, false, false, false, false, false, false, false, false, false, false, false, false] rfl rfl (any_of HT_.out (by kernel_rfl)) (fun _ _ _ h => h) (Or.inl ⟨by rfl, ?_⟩) ?_ ?_
          rotate_left
          ·intro w'
           go_simp
           with_reducible rfl
          rotate_left
          ·simp only [Act.put, List.setIfInBounds_toArray, List.set_cons_zero, List.set_cons_succ, i64_w, i32_w]
           rfl
          refine pure_ (i := 2) (N := some 73) (v := ?_) (a' := ?_) #[true, true, true, false, false, false, false, false, false, false, false, false, false, false, false, false] rfl rfl (any_of HT_.out (by kernel_rfl)) (fun _ _ _ h => h) (Or.inl ⟨by rfl, ?_⟩) ?_ ?_
          rotate_left
          ·intro w'
           go_simp
           with_reducible rfl
          rotate_left
          ·simp only [Act.put, List.setIfInBounds_toArray, List.set_cons_zero, List.set_cons_succ, i64_w, i32_w]
           rfl
          refine pure_ (i := 3) (N := some 74) (v := ?_) (a' := ?_) #[true, true, true, true, false, false, false, false, false, false, false, false, false, false, false, false] rfl rfl (any_of HT_.out (by kernel_rfl)) (fun _ _ _ h => h) (Or.inl ⟨by rfl, ?_⟩) ?_ ?_
          rotate_left
          ·intro w'
           go_simp
           with_reducible rfl
          rotate_left
          ·simp only [Act.put, List.setIfInBounds_toArray, List.set_cons_zero, List.set_cons_succ, i64_w, i32_w]
           rfl
          refine pure_ (i := 5) (N := some 76) (v := ?_) (a' := ?_) #[true, true, true, true, false, true, false, false, false, false, false, false, false, false, false, false] rfl rfl (any_of HT_.out (by kernel_rfl)) (fun _ _ _ h => h) (Or.inl ⟨by rfl, ?_⟩) ?_ ?_
          rotate_left
          ·intro w'
           go_simp
           with_reducible rfl
          rotate_left
          ·simp only [Act.put, List.setIfInBounds_toArray, List.set_cons_zero, List.set_cons_succ, i64_w, i32_w]
           rfl
          refine pure_ (i := 6) (N := some 77) (v := ?_) (a' := ?_) #[true, true, true, true, false, true, true, false, false, false, false, false, false, false, false, false] rfl rfl (any_of HT_.out (by kernel_rfl)) (fun _ _ _ h => h) (Or.inl ⟨by rfl, ?_⟩) ?_ ?_
          rotate_left
          ·intro w'
           go_simp
           with_reducible rfl
          rotate_left
          ·simp only [Act.put, List.setIfInBounds_toArray, List.set_cons_zero, List.set_cons_succ, i64_w, i32_w]
           rfl
          refine pure_ (i := 8) (N := some 79) (v := ?_) (a' := ?_) #[true, true, true, true, false, true, true, false, true, false, false, false, false, false, false, false] rfl rfl (any_of HT_.out (by kernel_rfl)) (fun _ _ _ h => h) (Or.inl ⟨by rfl, ?_⟩) ?_ ?_
          rotate_left
          ·intro w'
           go_simp
           with_reducible rfl
          rotate_left
          ·simp only [Act.put, List.setIfInBounds_toArray, List.set_cons_zero, List.set_cons_succ, i64_w, i32_w]
           rfl
          refine take_ (i := 4) (N := some 75) (v := ?_) (a' := ?_) #[true, true, true, true, true, true, true, false, true, false, false, false, false, false, false, false] rfl rfl (take_ofW HT_.out HW_.out (by kernel_rfl)) (fun _ _ _ h => h) (Or.inl ⟨by rfl, ?_⟩) hHeld ?_ ?_
          rotate_left
          ·rintro w' ⟨s0, s1⟩
           go_simp
           with_reducible rfl
          rotate_left
          ·simp only [Act.put, List.setIfInBounds_toArray, List.set_cons_zero, List.set_cons_succ, i64_w, i32_w]
           rfl
          refine one_ (i := 7) (N := some 78) #[true, true, true, true, true, true, true, true, true, false, false, false, false, false, false, false] rfl rfl (one_of HT_.out (by kernel_rfl)) (by decide) (fun K hK => ?_)
          refine Kd.R_lit_step (Kd.int .i64) _ 3 ?hg (N := 78) ?hd (xs := ([wrap64 (a1)] : List Int)) (inner := [.int .i64 (wrap64 (a1))]) (ok := fun _ => True) (okp := fun _ => True) ?hr ?hp (fun _ hk => hk) trivial (Below.refl _ _) (Nat.le_refl _) (by simp) ?_; (case hd => rfl); (case hg => rfl); (case hr => first | (go_simp; done) | (go_simp; rfl)); (case hp => exact (Reps.one (show Kd.M (Kd.int .i64) _ _ _ (wrap64 (a1)) [.int .i64 (wrap64 (a1))] from rfl) (Reps.none _ _)))
          intro v589 w32 ho33 hb hg_ hnew_
          have HS0_ := (hb.cell (World.block_lt_of_cell? _ _ (hHeld.1))).trans (hHeld.1)
          have HS1_ := (hb.cell (World.block_lt_of_cell? _ _ (hHeld.2))).trans (hHeld.2)
          clear hg_ hnew_
          (first | rw [← Ny588.out] at ho33 | (simp only [Int.reduceToNat] at ho33; rw [← Ny588.out] at ho33))
          have n0_ := Aside0.mk (Kd.R_below (by (with_reducible repeat (first | apply Kd.R_alloc | apply Kd.R_drewN | apply Kd.R_drew)); exact HO_7.out) hb)
          have n1_ := Aside0.mk (Kd.R_lower ho33 (below_size (by repeat (first | (with_reducible first | exact HB.out | apply below_alloc | apply pw_below_drewN | apply below_drew1) | exact HB.out))))
          have n2_ := Aside0.mk (below_step (by repeat (first | (with_reducible first | exact HB.out | apply below_alloc | apply pw_below_drewN | apply below_drew1) | exact HB.out)) hb)
          clear HO_7
          clear HB
          have HO_7 := n0_
          have HO590 := n1_
          have HB := n2_
          clear n0_ n1_ n2_
          clear hb ho33
          refine hK.out _ _ ⟨HS0_, HS1_⟩ (fun hHeld => ?_)
          clear hK K
          refine norm_ (a' := ?_) ?_ ?_
          rotate_left
          ·show Act.put _ (some 78) _ = _
           simp only [Act.put, List.setIfInBounds_toArray, List.set_cons_zero, List.set_cons_succ, i64_w, i32_w]
           rfl
          refine one_ (i := 9) (N := some 80) #[true, true, true, true, true, true, true, true, true, true, false, false, false, false, false, false] rfl rfl (one_of HT_.out (by kernel_rfl)) (by decide) (fun K hK => ?_)
          refine Kd.R_append_rows_step (Kd.int .i64) (w0 := w) w.heap.size (by rfl) (.tmp 78) (.tmp 79) 22 3 (.int .i64 0) 8 rfl Try.underlying22 info3 rfl (by decide) (by omega) v589 y588 l2 _ _ _ (fun _ => True) (fun _ => False) rfl rfl ?aO ?aR (fun _ _ h => h) (fun _ h => h.elim) ?aF ?aB ?aS ?aL ?_
          (case aR => repeat (first | exact (Kd.C_below HR2.out HB.out) | (with_reducible refine Kd.C_alloc ?_ _) | (with_reducible refine Kd.C_drewN ?_ _) | (with_reducible refine Kd.C_drew ?_)))
          (case aB => exact (by repeat (first | (with_reducible first | exact HB.out | apply below_alloc | apply pw_below_drewN | apply below_drew1) | exact HB.out)))
          (case aF => exact (fun _ _ => trivial))
          (case aO => exact (by (with_reducible repeat (first | apply Kd.R_alloc | apply Kd.R_drewN | apply Kd.R_drew)); exact HO590.out))
          (case aS => exact (below_size (by repeat (first | (with_reducible first | exact HB.out | apply below_alloc | apply pw_below_drewN | apply below_drew1) | exact HB.out))))
          (case aL => have := LMc26.out; omega)
          intro v592 w34 ho hb hg hat
          rw [← Ny591.out] at ho
          have n0_ := Aside0.mk (Kd.R_over' (by (with_reducible repeat (first | apply Kd.R_alloc | apply Kd.R_drewN | apply Kd.R_drew)); exact HO_7.out) (Kd.R_typed (by (with_reducible repeat (first | apply Kd.R_alloc | apply Kd.R_drewN | apply Kd.R_drew)); exact HO590.out)) (by decide) hg)
          obtain ⟨adH_, eH_, HS0_, HS1_⟩ := at_T29 (Kd.R_reads' n0_.out).2.2 a0 (of_eq_true p587) (of_eq_true q587)
          obtain rfl : ad584 = adH_ := (by injection eH_)
          have n1_ := Aside0.mk (hb)
          have n2_ := Aside0.mk (ho)
          clear HO_7
          clear HB
          clear HO590
          have HO_7 := n0_
          have HB := n1_
          have HO593 := n2_
          clear n0_ n1_ n2_
          clear ho hb hg hat
          obtain ⟨Ao35, co35, eo35⟩ := Kd.R_slice HO593.out
          (first | subst eo35 | (injection eo35 with f1_ f2_ f3_; have f4_ := f1_.symm; have f5_ := f3_.symm; clear f1_ f2_ f3_; subst f4_; subst f5_))
          refine hK.out _ _ ⟨HS0_, HS1_⟩ (fun hHeld => ?_)
          clear hK K
          refine norm_ (a' := ?_) ?_ ?_
          rotate_left
          ·show Act.put _ (some 80) _ = _
           simp only [Act.put, List.setIfInBounds_toArray, List.set_cons_zero, List.set_cons_succ, i64_w, i32_w]
           rfl
          refine one_ (i := 10) (N := some 81) #[true, true, true, true, true, true, true, true, true, true, true, false, false, false, false, false] rfl rfl (one_of HT_.out (by kernel_rfl)) (by decide) (fun K hK => ?_)
          refine goes_ Try.func13 (by kernel_rfl) rfl #[.string ((rd_T29 t579 a0).f0), .slice Ao35 y591.length co35] (by rfl) rfl rfl (by (try simp only [List.map_toArray, List.map_cons, List.map_nil]); first | done | rfl | (simp only [List.length_drop, List.length_take]; rfl)) ?_
          with_reducible refine (impl_Encode.calls kj5 ((rd_T29 t579 a0).f0) _ _ y591 t594 t595 _ ?side1 ?side2 A27.out).mono ?_
          (case side1 => repeat (first | exact (Kd.R_reads' HO593.out).2.2 | (with_reducible refine Kd.C_alloc ?_ _) | (with_reducible refine Kd.C_drewN ?_ _) | (with_reducible refine Kd.C_drew ?_)))
          (case side2 => exact (Kd.R_reads' HO593.out).2.1)
          rintro e w36 ⟨rfl, hb⟩
          have HS0_ := (hb.cell (World.block_lt_of_cell? _ _ (hHeld.1))).trans (hHeld.1)
          have HS1_ := (hb.cell (World.block_lt_of_cell? _ _ (hHeld.2))).trans (hHeld.2)
          refine ⟨_, rfl, ?_⟩
          have n0_ := Aside0.mk (Kd.R_below (by (with_reducible repeat (first | apply Kd.R_alloc | apply Kd.R_drewN | apply Kd.R_drew)); exact HO_7.out) hb)
          have n1_ := Aside0.mk (Kd.R_below (by (with_reducible repeat (first | apply Kd.R_alloc | apply Kd.R_drewN | apply Kd.R_drew)); exact HO593.out) hb)
          have n2_ := Aside0.mk (below_step (by repeat (first | (with_reducible first | exact HB.out | apply below_alloc | apply pw_below_drewN | apply below_drew1) | exact HB.out)) hb)
          clear HO_7
          clear HO593
          clear HB
          have HO_7 := n0_
          have HO593 := n1_
          have HB := n2_
          clear n0_ n1_ n2_
          (try clear hb)
          (try clear hb2)
          (try clear hk)
          (try clear hi)
          refine hK.out _ _ ⟨HS0_, HS1_⟩ (fun hHeld => ?_)
          clear hK K
          refine norm_ (a' := ?_) ?_ ?_
          rotate_left
          ·show Act.put _ (some 81) _ = _
           simp only [Act.put, List.setIfInBounds_toArray, List.set_cons_zero, List.set_cons_succ, i64_w, i32_w]
           rfl
          refine pure_ (i := 11) (N := some 70) (v := ?_) (a' := ?_) #[true, true, true, true, true, true, true, true, true, true, true, true, false, false, false, false] rfl rfl (any_of HT_.out (by kernel_rfl)) (fun _ _ _ h => h) (Or.inl ⟨by rfl, ?_⟩) ?_ ?_
          rotate_left
          ·intro w'
           go_simp
           with_reducible rfl
          rotate_left
          ·simp only [Act.put, List.setIfInBounds_toArray, List.set_cons_zero, List.set_cons_succ, i64_w, i32_w]
           rfl
          refine pure_ (i := 12) (N := some 82) (v := ?_) (a' := ?_) #[true, true, true, true, true, true, true, true, true, true, true, true, true, false, false, false] rfl rfl (any_of HT_.out (by kernel_rfl)) (fun _ _ _ h => h) (Or.inl ⟨by rfl, ?_⟩) ?_ ?_
          rotate_left
          ·intro w'
           go_simp
           with_reducible rfl
          rotate_left
          ·simp only [Act.put, List.setIfInBounds_toArray, List.set_cons_zero, List.set_cons_succ, i64_w, i32_w]
           rfl
          refine pure_ (i := 13) (N := some 83) (v := ?_) (a' := ?_) #[true, true, true, true, true, true, true, true, true, true, true, true, true, true, false, false] rfl rfl (any_of HT_.out (by kernel_rfl)) (fun _ _ _ h => h) (Or.inl ⟨by rfl, ?_⟩) ?_ ?_
          rotate_left
          ·intro w'
           go_simp
           with_reducible rfl
          rotate_left
          ·simp only [Act.put, List.setIfInBounds_toArray, List.set_cons_zero, List.set_cons_succ, i64_w, i32_w]
           rfl
          refine pure_ (i := 14) (N := some 10) (v := ?_) (a' := ?_) #[true, true, true, true, true, true, true, true, true, true, true, true, true, true, true, false] rfl rfl (any_of HT_.out (by kernel_rfl)) (fun _ _ _ h => h) (Or.inl ⟨by rfl, ?_⟩) ?_ ?_
          rotate_left
          ·intro w'
           go_simp
           with_reducible rfl
          rotate_left
          ·simp only [Act.put, List.setIfInBounds_toArray, List.set_cons_zero, List.set_cons_succ, i64_w, i32_w]
           rfl
          refine pure_ (i := 15) (N := some 11) (v := ?_) (a' := ?_) #[true, true, true, true, true, true, true, true, true, true, true, true, true, true, true, true] rfl rfl (any_of HT_.out (by kernel_rfl)) (fun _ _ _ h => h) (Or.inl ⟨by rfl, ?_⟩) ?_ ?_
          rotate_left
          ·intro w'
           go_simp
           with_reducible rfl
          rotate_left
          ·simp only [Act.put, List.setIfInBounds_toArray, List.set_cons_zero, List.set_cons_succ, i64_w, i32_w]
           rfl
          refine done_ (done_of HT_.out (by kernel_rfl)) ?_
          try go_wp2
          go_ret
          exact ⟨by first | rfl | (simp [errW_none, errW_some] <;> rfl) | (simp [*, errW_none, errW_some] <;> rfl), by repeat (first | (with_reducible first | exact HB.out | apply below_alloc | apply pw_below_drewN | apply below_drew1) | exact HB.out)⟩
         ·rw [if_neg c28] at H
          have c28b0 : (t595 == true) = false := by simpa using c28
          (try (have c28b1 : decide (t595 = true) = false := by simpa using c28))
          (try (have c28b2 : (t595 == true) = false := by simpa using c28))
          (try (have c28b3 : ¬ (t595 = true) := by simpa using c28))
          clear c28
          obtain rfl := Option.some.inj H
          obtain ⟨Ao37, co37, eo37⟩ := Kd.R_slice HO_7.out
          subst eo37
          have p584 : 0 ≤ (a0 : Int) := of_decide_eq_true (by first | (with_reducible assumption) | assumption)
          have q584 : a0 < (t579.length : Int) := of_decide_eq_true (by first | (with_reducible assumption) | assumption)
          obtain ⟨ad584, e584, hx584_0, hx584_1⟩ := at_T29 (Kd.R_reads' HO_7.out).2.2 a0 p584 q584
          cases e584
          replace p584 := eq_true p584
          replace q584 := eq_true q584
          try go_wp2_with (first | ((with_reducible refine gate_callee (f := 12) rfl ?_); refine goesL_ (some 56) rfl rfl Try.func12 (by kernel_rfl) rfl #[.agg #[.string ((rd_T29 t579 a0).f0), .string ((rd_T29 t579 a0).f1)], .int .u32 a1, .slice A2 l2.length c2] rfl (by (try simp only [List.map_toArray, List.map_cons, List.map_nil]); first | done | rfl | (simp only [List.length_drop, List.length_take]; rfl)) ?_; (with_reducible refine (spec_Word.calls kj5 ((rd_T29 t579 a0).f0) ((rd_T29 t579 a0).f1) a1 _ _ l2 t585 true _ ?side1 ?side2 A24.out).mono ?_); (case side1 => repeat (first | exact (Kd.C_below HR2.out HB.out) | (with_reducible refine Kd.C_alloc ?_ _) | (with_reducible refine Kd.C_drewN ?_ _) | (with_reducible refine Kd.C_drew ?_))); (case side2 => exact HC2.out); rintro e w38 ⟨rfl, hb⟩; refine ⟨_, rfl, ?_⟩; have n0_ := Aside0.mk (Kd.R_below (by (with_reducible repeat (first | apply Kd.R_alloc | apply Kd.R_drewN | apply Kd.R_drew)); exact HO_7.out) hb); have n1_ := Aside0.mk (below_step (by repeat (first | (with_reducible first | exact HB.out | apply below_alloc | apply pw_below_drewN | apply below_drew1) | exact HB.out)) hb); clear HO_7; clear HB; have HO_7 := n0_; have HB := n1_; clear n0_ n1_; (try clear hb); (try clear hb2); (try clear hk); (try clear hi)))
          have n0_ := Aside0.mk (Kd.R_drew HO_7.out)
          have n1_ := Aside0.mk (below_drew1 HB.out)
          clear HO_7
          clear HB
          have HO_7 := n0_
          have HB := n1_
          clear n0_ n1_
          have p587 : 0 ≤ (a0 : Int) := of_decide_eq_true (by first | (with_reducible assumption) | assumption)
          have q587 : a0 < (t579.length : Int) := of_decide_eq_true (by first | (with_reducible assumption) | assumption)
          obtain ⟨ad587, e587, hx587_0, hx587_1⟩ := at_T29 (Kd.R_reads' HO_7.out).2.2 a0 p587 q587
          obtain rfl : ad584 = ad587 := (by injection e587)
          replace p587 := eq_true p587
          replace q587 := eq_true q587
          refine start_ (n := 16) (S := fun w' => w'.cell? (ad584.add ((a0).toNat * 2)) = some (.string ((rd_T29 t579 a0).f0)) ∧ w'.cell? ⟨(ad584.add ((a0).toNat * 2)).block, (ad584.add ((a0).toNat * 2)).off + 1, none⟩ = some (.string ((rd_T29 t579 a0).f1))) (ds := []) #[false, false, false, false, false, false, false, false, false, false, false, false, false, false, false, false] (by kernel_rfl) rfl rfl ⟨hx587_0, hx587_1⟩ (fun hHeld => ?_); refine with_tabW laws_FnFields.tab9 laws_FnFields.bits9 (fun HT_ HW_ => ?_)
          generalize w38.drew = w39 at HO_7 HB hx587_0 hx587_1 hHeld ⊢
          refine pure_ (i := 0) (N := some 71) (v := ?_) (a' := ?_) #[true, false, false, false, false, false, false, false, false, false, false, false, false, false, false, false] rfl rfl (any_of HT_.out (by kernel_rfl)) (fun _ _ _ h => h) (Or.inl ⟨by rfl, ?_⟩) ?_ ?_
          rotate_left
          ·intro w'
           go_simp
           with_reducible rfl
          rotate_left
          ·simp only [Act.put, List.setIfInBounds_toArray, List.set_cons_zero, List.set_cons_succ, i64_w, i32_w]
           rfl
          refine pure_ (i := 1) (N := some 72) (v := ?_) (a' := ?_) #[true, true, false, false, false, false, false, false, false, false, false, false, false, false, false, false] rfl rfl (any_of HT_.out (by kernel_rfl)) (fun _ _ _ h => h) (Or.inl ⟨by rfl, ?_⟩) ?_ ?_
          rotate_left
          ·intro w'
           go_simp
           with_reducible rfl
          rotate_left
          ·simp only [Act.put, List.setIfInBounds_toArray, List.set_cons_zero, List.set_cons_succ, i64_w, i32_w]
           rfl
          refine pure_ (i := 2) (N := some 73) (v := ?_) (a' := ?_) #[true, true, true, false, false, false, false, false, false, false, false, false, false, false, false, false] rfl rfl (any_of HT_.out (by kernel_rfl)) (fun _ _ _ h => h) (Or.inl ⟨by rfl, ?_⟩) ?_ ?_
          rotate_left
          ·intro w'
           go_simp
           with_reducible rfl
          rotate_left
          ·simp only [Act.put, List.setIfInBounds_toArray, List.set_cons_zero, List.set_cons_succ, i64_w, i32_w]
           rfl
          refine pure_ (i := 3) (N := some 74) (v := ?_) (a' := ?_) #[true, true, true, true, false, false, false, false, false, false, false, false, false, false, false, false] rfl rfl (any_of HT_.out (by kernel_rfl)) (fun _ _ _ h => h) (Or.inl ⟨by rfl, ?_⟩) ?_ ?_
          rotate_left
          ·intro w'
           go_simp
           with_reducible rfl
          rotate_left
          ·simp only [Act.put, List.setIfInBounds_toArray, List.set_cons_zero, List.set_cons_succ, i64_w, i32_w]
           rfl
          refine pure_ (i := 5) (N := some 76) (v := ?_) (a' := ?_) #[true, true, true, true, false, true, false, false, false, false, false, false, false, false, false, false] rfl rfl (any_of HT_.out (by kernel_rfl)) (fun _ _ _ h => h) (Or.inl ⟨by rfl, ?_⟩) ?_ ?_
          rotate_left
          ·intro w'
           go_simp
           with_reducible rfl
          rotate_left
          ·simp only [Act.put, List.setIfInBounds_toArray, List.set_cons_zero, List.set_cons_succ, i64_w, i32_w]
           rfl
          refine pure_ (i := 6) (N := some 77) (v := ?_) (a' := ?_) #[true, true, true, true, false, true, true, false, false, false, false, false, false, false, false, false] rfl rfl (any_of HT_.out (by kernel_rfl)) (fun _ _ _ h => h) (Or.inl ⟨by rfl, ?_⟩) ?_ ?_
          rotate_left
          ·intro w'
           go_simp
           with_reducible rfl
          rotate_left
          ·simp only [Act.put, List.setIfInBounds_toArray, List.set_cons_zero, List.set_cons_succ, i64_w, i32_w]
           rfl
          refine pure_ (i := 8) (N := some 79) (v := ?_) (a' := ?_) #[true, true, true, true, false, true, true, false, true, false, false, false, false, false, false, false] rfl rfl (any_of HT_.out (by kernel_rfl)) (fun _ _ _ h => h) (Or.inl ⟨by rfl, ?_⟩) ?_ ?_
          rotate_left
          ·intro w'
           go_simp
           with_reducible rfl
          rotate_left
          ·simp only [Act.put, List.setIfInBounds_toArray, List.set_cons_zero, List.set_cons_succ, i64_w, i32_w]
           rfl
          refine take_ (i := 4) (N := some 75) (v := ?_) (a' := ?_) #[true, true, true, true, true, true, true, false, true, false, false, false, false, false, false, false] rfl rfl (take_ofW HT_.out HW_.out (by kernel_rfl)) (fun _ _ _ h => h) (Or.inl ⟨by rfl, ?_⟩) hHeld ?_ ?_
          rotate_left
          ·rintro w' ⟨s0, s1⟩
           go_simp
           with_reducible rfl
          rotate_left
          ·simp only [Act.put, List.setIfInBounds_toArray, List.set_cons_zero, List.set_cons_succ, i64_w, i32_w]
           rfl
          refine one_ (i := 7) (N := some 78) #[true, true, true, true, true, true, true, true, true, false, false, false, false, false, false, false] rfl rfl (one_of HT_.out (by kernel_rfl)) (by decide) (fun K hK => ?_)
          refine Kd.R_lit_step (Kd.int .i64) _ 3 ?hg (N := 78) ?hd (xs := ([wrap64 (a1)] : List Int)) (inner := [.int .i64 (wrap64 (a1))]) (ok := fun _ => True) (okp := fun _ => True) ?hr ?hp (fun _ hk => hk) trivial (Below.refl _ _) (Nat.le_refl _) (by simp) ?_; (case hd => rfl); (case hg => rfl); (case hr => first | (go_simp; done) | (go_simp; rfl)); (case hp => exact (Reps.one (show Kd.M (Kd.int .i64) _ _ _ (wrap64 (a1)) [.int .i64 (wrap64 (a1))] from rfl) (Reps.none _ _)))
          intro v589 w40 ho41 hb hg_ hnew_
          have HS0_ := (hb.cell (World.block_lt_of_cell? _ _ (hHeld.1))).trans (hHeld.1)
          have HS1_ := (hb.cell (World.block_lt_of_cell? _ _ (hHeld.2))).trans (hHeld.2)
          clear hg_ hnew_
          (first | rw [← Ny588.out] at ho41 | (simp only [Int.reduceToNat] at ho41; rw [← Ny588.out] at ho41))
          have n0_ := Aside0.mk (Kd.R_below (by (with_reducible repeat (first | apply Kd.R_alloc | apply Kd.R_drewN | apply Kd.R_drew)); exact HO_7.out) hb)
          have n1_ := Aside0.mk (Kd.R_lower ho41 (below_size (by repeat (first | (with_reducible first | exact HB.out | apply below_alloc | apply pw_below_drewN | apply below_drew1) | exact HB.out))))
          have n2_ := Aside0.mk (below_step (by repeat (first | (with_reducible first | exact HB.out | apply below_alloc | apply pw_below_drewN | apply below_drew1) | exact HB.out)) hb)
          clear HO_7
          clear HB
          have HO_7 := n0_
          have HO590 := n1_
          have HB := n2_
          clear n0_ n1_ n2_
          clear hb ho41
          refine hK.out _ _ ⟨HS0_, HS1_⟩ (fun hHeld => ?_)
          clear hK K
          refine norm_ (a' := ?_) ?_ ?_
          rotate_left
          ·show Act.put _ (some 78) _ = _
           simp only [Act.put, List.setIfInBounds_toArray, List.set_cons_zero, List.set_cons_succ, i64_w, i32_w]
           rfl
          refine one_ (i := 9) (N := some 80) #[true, true, true, true, true, true, true, true, true, true, false, false, false, false, false, false] rfl rfl (one_of HT_.out (by kernel_rfl)) (by decide) (fun K hK => ?_)
          refine Kd.R_append_rows_step (Kd.int .i64) (w0 := w) w.heap.size (by rfl) (.tmp 78) (.tmp 79) 22 3 (.int .i64 0) 8 rfl Try.underlying22 info3 rfl (by decide) (by omega) v589 y588 l2 _ _ _ (fun _ => True) (fun _ => False) rfl rfl ?aO ?aR (fun _ _ h => h) (fun _ h => h.elim) ?aF ?aB ?aS ?aL ?_
          (case aR => repeat (first | exact (Kd.C_below HR2.out HB.out) | (with_reducible refine Kd.C_alloc ?_ _) | (with_reducible refine Kd.C_drewN ?_ _) | (with_reducible refine Kd.C_drew ?_)))
          (case aB => exact (by repeat (first | (with_reducible first | exact HB.out | apply below_alloc | apply pw_below_drewN | apply below_drew1) | exact HB.out)))
          (case aF => exact (fun _ _ => trivial))
          (case aO => exact (by (with_reducible repeat (first | apply Kd.R_alloc | apply Kd.R_drewN | apply Kd.R_drew)); exact HO590.out))
          (case aS => exact (below_size (by repeat (first | (with_reducible first | exact HB.out | apply below_alloc | apply pw_below_drewN | apply below_drew1) | exact HB.out))))
          (case aL => have := LMc26.out; omega)
          intro v592 w42 ho hb hg hat
          rw [← Ny591.out] at ho
          have n0_ := Aside0.mk (Kd.R_over' (by (with_reducible repeat (first | apply Kd.R_alloc | apply Kd.R_drewN | apply Kd.R_drew)); exact HO_7.out) (Kd.R_typed (by (with_reducible repeat (first | apply Kd.R_alloc | apply Kd.R_drewN | apply Kd.R_drew)); exact HO590.out)) (by decide) hg)
          obtain ⟨adH_, eH_, HS0_, HS1_⟩ := at_T29 (Kd.R_reads' n0_.out).2.2 a0 (of_eq_true p587) (of_eq_true q587)
          obtain rfl : ad584 = adH_ := (by injection eH_)
          have n1_ := Aside0.mk (hb)
          have n2_ := Aside0.mk (ho)
          clear HO_7
          clear HB
          clear HO590
          have HO_7 := n0_
          have HB := n1_
          have HO593 := n2_
          clear n0_ n1_ n2_
          clear ho hb hg hat
          obtain ⟨Ao43, co43, eo43⟩ := Kd.R_slice HO593.out
          (first | subst eo43 | (injection eo43 with f1_ f2_ f3_; have f4_ := f1_.symm; have f5_ := f3_.symm; clear f1_ f2_ f3_; subst f4_; subst f5_))
          refine hK.out _ _ ⟨HS0_, HS1_⟩ (fun hHeld => ?_)
          clear hK K
          refine norm_ (a' := ?_) ?_ ?_
          rotate_left
          ·show Act.put _ (some 80) _ = _
           simp only [Act.put, List.setIfInBounds_toArray, List.set_cons_zero, List.set_cons_succ, i64_w, i32_w]
           rfl
          refine one_ (i := 10) (N := some 81) #[true, true, true, true, true, true, true, true, true, true, true, false, false, false, false, false] rfl rfl (one_of HT_.out (by kernel_rfl)) (by decide) (fun K hK => ?_)
          refine goes_ Try.func13 (by kernel_rfl) rfl #[.string ((rd_T29 t579 a0).f0), .slice Ao43 y591.length co43] (by rfl) rfl rfl (by (try simp only [List.map_toArray, List.map_cons, List.map_nil]); first | done | rfl | (simp only [List.length_drop, List.length_take]; rfl)) ?_
          with_reducible refine (impl_Encode.calls kj5 ((rd_T29 t579 a0).f0) _ _ y591 t594 t595 _ ?side1 ?side2 A27.out).mono ?_
          (case side1 => repeat (first | exact (Kd.R_reads' HO593.out).2.2 | (with_reducible refine Kd.C_alloc ?_ _) | (with_reducible refine Kd.C_drewN ?_ _) | (with_reducible refine Kd.C_drew ?_)))
          (case side2 => exact (Kd.R_reads' HO593.out).2.1)
          rintro e w44 ⟨rfl, hb⟩
          have HS0_ := (hb.cell (World.block_lt_of_cell? _ _ (hHeld.1))).trans (hHeld.1)
          have HS1_ := (hb.cell (World.block_lt_of_cell? _ _ (hHeld.2))).trans (hHeld.2)
          refine ⟨_, rfl, ?_⟩
          have n0_ := Aside0.mk (Kd.R_below (by (with_reducible repeat (first | apply Kd.R_alloc | apply Kd.R_drewN | apply Kd.R_drew)); exact HO_7.out) hb)
          have n1_ := Aside0.mk (Kd.R_below (by (with_reducible repeat (first | apply Kd.R_alloc | apply Kd.R_drewN | apply Kd.R_drew)); exact HO593.out) hb)
          have n2_ := Aside0.mk (below_step (by repeat (first | (with_reducible first | exact HB.out | apply below_alloc | apply pw_below_drewN | apply below_drew1) | exact HB.out)) hb)
          clear HO_7
          clear HO593
          clear HB
          have HO_7 := n0_
          have HO593 := n1_
          have HB := n2_
          clear n0_ n1_ n2_
          (try clear hb)
          (try clear hb2)
          (try clear hk)
          (try clear hi)
          refine hK.out _ _ ⟨HS0_, HS1_⟩ (fun hHeld => ?_)
          clear hK K
          refine norm_ (a' := ?_) ?_ ?_
          rotate_left
          ·show Act.put _ (some 81) _ = _
           simp only [Act.put, List.setIfInBounds_toArray, List.set_cons_zero, List.set_cons_succ, i64_w, i32_w]
           rfl
          refine pure_ (i := 11) (N := some 70) (v := ?_) (a' := ?_) #[true, true, true, true, true, true, true, true, true, true, true, true, false, false, false, false] rfl rfl (any_of HT_.out (by kernel_rfl)) (fun _ _ _ h => h) (Or.inl ⟨by rfl, ?_⟩) ?_ ?_
          rotate_left
          ·intro w'
           go_simp
           with_reducible rfl
          rotate_left
          ·simp only [Act.put, List.setIfInBounds_toArray, List.set_cons_zero, List.set_cons_succ, i64_w, i32_w]
           rfl
          refine pure_ (i := 12) (N := some 82) (v := ?_) (a' := ?_) #[true, true, true, true, true, true, true, true, true, true, true, true, true, false, false, false] rfl rfl (any_of HT_.out (by kernel_rfl)) (fun _ _ _ h => h) (Or.inl ⟨by rfl, ?_⟩) ?_ ?_
          rotate_left
          ·intro w'
           go_simp
           with_reducible rfl
          rotate_left
          ·simp only [Act.put, List.setIfInBounds_toArray, List.set_cons_zero, List.set_cons_succ, i64_w, i32_w]
           rfl
          refine pure_ (i := 13) (N := some 83) (v := ?_) (a' := ?_) #[true, true, true, true, true, true, true, true, true, true, true, true, true, true, false, false] rfl rfl (any_of HT_.out (by kernel_rfl)) (fun _ _ _ h => h) (Or.inl ⟨by rfl, ?_⟩) ?_ ?_
          rotate_left
          ·intro w'
           go_simp
           with_reducible rfl
          rotate_left
          ·simp only [Act.put, List.setIfInBounds_toArray, List.set_cons_zero, List.set_cons_succ, i64_w, i32_w]
           rfl
          refine pure_ (i := 14) (N := some 10) (v := ?_) (a' := ?_) #[true, true, true, true, true, true, true, true, true, true, true, true, true, true, true, false] rfl rfl (any_of HT_.out (by kernel_rfl)) (fun _ _ _ h => h) (Or.inl ⟨by rfl, ?_⟩) ?_ ?_
          rotate_left
          ·intro w'
           go_simp
           with_reducible rfl
          rotate_left
          ·simp only [Act.put, List.setIfInBounds_toArray, List.set_cons_zero, List.set_cons_succ, i64_w, i32_w]
           rfl
          refine pure_ (i := 15) (N := some 11) (v := ?_) (a' := ?_) #[true, true, true, true, true, true, true, true, true, true, true, true, true, true, true, true] rfl rfl (any_of HT_.out (by kernel_rfl)) (fun _ _ _ h => h) (Or.inl ⟨by rfl, ?_⟩) ?_ ?_
          rotate_left
          ·intro w'
           go_simp
           with_reducible rfl
          rotate_left
          ·simp only [Act.put, List.setIfInBounds_toArray, List.set_cons_zero, List.set_cons_succ, i64_w, i32_w]
           rfl
          refine done_ (done_of HT_.out (by kernel_rfl)) ?_
          try go_wp2
          go_ret
          exact ⟨by first | rfl | (simp [errW_none, errW_some] <;> rfl) | (simp [*, errW_none, errW_some] <;> rfl), by repeat (first | (with_reducible first | exact HB.out | apply below_alloc | apply pw_below_drewN | apply below_drew1) | exact HB.out)⟩
        ·rw [if_neg c26] at H
         exact absurd H (by simp)
       ·replace c25 := Bool.eq_false_iff.mpr c25
        subst c25
        have H1 : ((laws_fits.f kj5 ((rd_T29 t579 a0).f1) l2).bind fun t597 => (if t597 = true then (some true) else ((some (([wrap64 (a1)] : List Int) : List Int)).bind fun y599 => (if y599.length + l2.length < 17592186044416 then ((impl_Encode.f kj5 ((rd_T29 t579 a0).f0) (y599 ++ l2)).bind fun bt605 => (if (bt605.2 == false) = true then (some true) else (some false))) else (none))))) = some r := by rw [if_neg (show ¬ (false = true) by decide)] at H; exact H
        clear H
        have H := H1
        clear H1
        replace H := Option.bind_eq_some_iff.mp H
        obtain ⟨t597, A450, H⟩ := H
        replace H : (if t597 = true then (some true) else ((some (([wrap64 (a1)] : List Int) : List Int)).bind fun y599 => (if y599.length + l2.length < 17592186044416 then ((impl_Encode.f kj5 ((rd_T29 t579 a0).f0) (y599 ++ l2)).bind fun bt605 => (if (bt605.2 == false) = true then (some true) else (some false))) else (none)))) = some r := H
        have A45 := Aside0.mk A450
        clear A450
        by_cases c46 : t597 = true
        ·subst c46
         have H1 : (some true) = some r := by rw [if_pos rfl] at H; exact H
         clear H
         have H := H1
         clear H1
         obtain rfl := Option.some.inj H
         obtain ⟨Ao47, co47, eo47⟩ := Kd.R_slice HO_7.out
         subst eo47
         have p584 : 0 ≤ (a0 : Int) := of_decide_eq_true (by first | (with_reducible assumption) | assumption)
         have q584 : a0 < (t579.length : Int) := of_decide_eq_true (by first | (with_reducible assumption) | assumption)
         obtain ⟨ad584, e584, hx584_0, hx584_1⟩ := at_T29 (Kd.R_reads' HO_7.out).2.2 a0 p584 q584
         cases e584
         replace p584 := eq_true p584
         replace q584 := eq_true q584
         go_wp2_with (first | ((with_reducible refine gate_callee (f := 12) rfl ?_); refine goesL_ (some 56) rfl rfl Try.func12 (by kernel_rfl) rfl #[.agg #[.string ((rd_T29 t579 a0).f0), .string ((rd_T29 t579 a0).f1)], .int .u32 a1, .slice A2 l2.length c2] rfl (by (try simp only [List.map_toArray, List.map_cons, List.map_nil]); first | done | rfl | (simp only [List.length_drop, List.length_take]; rfl)) ?_; (with_reducible refine (spec_Word.calls kj5 ((rd_T29 t579 a0).f0) ((rd_T29 t579 a0).f1) a1 _ _ l2 t585 false _ ?side1 ?side2 A24.out).mono ?_); (case side1 => repeat (first | exact (Kd.C_below HR2.out HB.out) | (with_reducible refine Kd.C_alloc ?_ _) | (with_reducible refine Kd.C_drewN ?_ _) | (with_reducible refine Kd.C_drew ?_))); (case side2 => exact HC2.out); rintro e w48 ⟨rfl, hb⟩; refine ⟨_, rfl, ?_⟩; have n0_ := Aside0.mk (Kd.R_below (by (with_reducible repeat (first | apply Kd.R_alloc | apply Kd.R_drewN | apply Kd.R_drew)); exact HO_7.out) hb); have n1_ := Aside0.mk (below_step (by repeat (first | (with_reducible first | exact HB.out | apply below_alloc | apply pw_below_drewN | apply below_drew1) | exact HB.out)) hb); clear HO_7; clear HB; have HO_7 := n0_; have HB := n1_; clear n0_ n1_; (try clear hb); (try clear hb2); (try clear hk); (try clear hi); have p596 : 0 ≤ (a0 : Int) := of_decide_eq_true (by first | (with_reducible assumption) | assumption); have q596 : a0 < (t579.length : Int) := of_decide_eq_true (by first | (with_reducible assumption) | assumption); obtain ⟨ad596, e596, hx596_0, hx596_1⟩ := at_T29 (Kd.R_reads' HO_7.out).2.2 a0 p596 q596; obtain rfl : ad584 = ad596 := (by injection e596); replace p596 := eq_true p596; replace q596 := eq_true q596) | (go_at_call 16; (with_reducible refine (laws_fits.calls kj5 ((rd_T29 t579 a0).f1) _ _ l2 true _ ?side1 ?side2 A45.out).mono ?_); (case side1 => repeat (first | exact (Kd.C_below HR2.out HB.out) | (with_reducible refine Kd.C_alloc ?_ _) | (with_reducible refine Kd.C_drewN ?_ _) | (with_reducible refine Kd.C_drew ?_))); (case side2 => exact HC2.out); rintro e w' ⟨rfl, ⟨nd, rfl⟩⟩))
         go_ret
         exact ⟨by first | rfl | (simp [errW_none, errW_some] <;> rfl) | (simp [*, errW_none, errW_some] <;> rfl), by repeat (first | (with_reducible first | exact HB.out | apply below_alloc | apply pw_below_drewN | apply below_drew1) | exact HB.out)⟩
        ·replace c46 := Bool.eq_false_iff.mpr c46
         subst c46
         have H1 : ((some (([wrap64 (a1)] : List Int) : List Int)).bind fun y599 => (if y599.length + l2.length < 17592186044416 then ((impl_Encode.f kj5 ((rd_T29 t579 a0).f0) (y599 ++ l2)).bind fun bt605 => (if (bt605.2 == false) = true then (some true) else (some false))) else (none))) = some r := by rw [if_neg (show ¬ (false = true) by decide)] at H; exact H
         clear H
         have H := H1
         clear H1
         obtain ⟨y599, hy599⟩ : ∃ y_ : List Int, y_ = (([wrap64 (a1)] : List Int)) := ⟨_, rfl⟩
         replace H : (if y599.length + l2.length < 17592186044416 then ((impl_Encode.f kj5 ((rd_T29 t579 a0).f0) (y599 ++ l2)).bind fun bt605 => (if (bt605.2 == false) = true then (some true) else (some false))) else (none)) = some r := by first | (rw [hy599]; with_reducible exact H) | (have H2_ := (Option.bind_some _ _).symm.trans H; rw [hy599]; with_reducible exact H2_) | (have H2_ := (Option.bind_some _ _).symm.trans H; with_reducible exact H2_) | with_reducible exact H | (rw [hy599]; exact H) | exact H
         have Ny599 := Aside0.mk hy599
         clear hy599
         by_cases c49 : y599.length + l2.length < 17592186044416
         ·rw [if_pos c49] at H
          have LMc49 := Aside0.mk c49
          clear c49
          obtain ⟨y602, hy602⟩ : ∃ y_ : List Int, y_ = (y599 ++ l2) := ⟨_, rfl⟩
          replace H : ((impl_Encode.f kj5 ((rd_T29 t579 a0).f0) y602).bind fun bt605 => (if (bt605.2 == false) = true then (some true) else (some false))) = some r := by first | (rw [hy602]; with_reducible exact H) | (have H2_ := (Option.bind_some _ _).symm.trans H; rw [hy602]; with_reducible exact H2_) | (have H2_ := (Option.bind_some _ _).symm.trans H; with_reducible exact H2_) | with_reducible exact H | (rw [hy602]; exact H) | exact H
          have Ny602 := Aside0.mk hy602
          clear hy602
          replace H := Option.bind_eq_some_iff.mp H
          obtain ⟨⟨t605, t606⟩, A500, H⟩ := H
          replace H : (if (t606 == false) = true then (some true) else (some false)) = some r := H
          have A50 := Aside0.mk A500
          clear A500
          by_cases c51 : (t606 == false) = true
          ·rw [if_pos c51] at H
           have c51b0 : (t606 == false) = true := c51
           (try (have c51b1 : decide (t606 = false) = true := by simpa using c51))
           (try (have c51b2 : (t606 == false) = true := by simpa using c51))
           clear c51
           obtain rfl := Option.some.inj H
           obtain ⟨Ao52, co52, eo52⟩ := Kd.R_slice HO_7.out
           subst eo52
           have p584 : 0 ≤ (a0 : Int) := of_decide_eq_true (by first | (with_reducible assumption) | assumption)
           have q584 : a0 < (t579.length : Int) := of_decide_eq_true (by first | (with_reducible assumption) | assumption)
           obtain ⟨ad584, e584, hx584_0, hx584_1⟩ := at_T29 (Kd.R_reads' HO_7.out).2.2 a0 p584 q584
           cases e584
           replace p584 := eq_true p584
           replace q584 := eq_true q584
           try go_wp2_with (first | ((with_reducible refine gate_callee (f := 12) rfl ?_); refine goesL_ (some 56) rfl rfl Try.func12 (by kernel_rfl) rfl #[.agg #[.string ((rd_T29 t579 a0).f0), .string ((rd_T29 t579 a0).f1)], .int .u32 a1, .slice A2 l2.length c2] rfl (by (try simp only [List.map_toArray, List.map_cons, List.map_nil]); first | done | rfl | (simp only [List.length_drop, List.length_take]; rfl)) ?_; (with_reducible refine (spec_Word.calls kj5 ((rd_T29 t579 a0).f0) ((rd_T29 t579 a0).f1) a1 _ _ l2 t585 false _ ?side1 ?side2 A24.out).mono ?_); (case side1 => repeat (first | exact (Kd.C_below HR2.out HB.out) | (with_reducible refine Kd.C_alloc ?_ _) | (with_reducible refine Kd.C_drewN ?_ _) | (with_reducible refine Kd.C_drew ?_))); (case side2 => exact HC2.out); rintro e w53 ⟨rfl, hb⟩; refine ⟨_, rfl, ?_⟩; have n0_ := Aside0.mk (Kd.R_below (by (with_reducible repeat (first | apply Kd.R_alloc | apply Kd.R_drewN | apply Kd.R_drew)); exact HO_7.out) hb); have n1_ := Aside0.mk (below_step (by repeat (first | (with_reducible first | exact HB.out | apply below_alloc | apply pw_below_drewN | apply below_drew1) | exact HB.out)) hb); clear HO_7; clear HB; have HO_7 := n0_; have HB := n1_; clear n0_ n1_; (try clear hb); (try clear hb2); (try clear hk); (try clear hi); have p596 : 0 ≤ (a0 : Int) := of_decide_eq_true (by first | (with_reducible assumption) | assumption); have q596 : a0 < (t579.length : Int) := of_decide_eq_true (by first | (with_reducible assumption) | assumption); obtain ⟨ad596, e596, hx596_0, hx596_1⟩ := at_T29 (Kd.R_reads' HO_7.out).2.2 a0 p596 q596; obtain rfl : ad584 = ad596 := (by injection e596); replace p596 := eq_true p596; replace q596 := eq_true q596) | (go_at_call 16; (with_reducible refine (laws_fits.calls kj5 ((rd_T29 t579 a0).f1) _ _ l2 false _ ?side1 ?side2 A45.out).mono ?_); (case side1 => repeat (first | exact (Kd.C_below HR2.out HB.out) | (with_reducible refine Kd.C_alloc ?_ _) | (with_reducible refine Kd.C_drewN ?_ _) | (with_reducible refine Kd.C_drew ?_))); (case side2 => exact HC2.out); rintro e w' ⟨rfl, ⟨nd, rfl⟩⟩))
           (try (rw [drewN_self w53]; generalize hq_ : World.drewN w53 _ = w53; have n0_ : Aside0 (Kd.R k29 29 w53 w.heap.size (fun _ => True) (.slice (some ad584) t579.length co52) t579) := ⟨by rw [← hq_]; exact (by (with_reducible repeat (first | apply Kd.R_alloc | apply Kd.R_drewN | apply Kd.R_drew)); exact HO_7.out)⟩; have n1_ : Aside0 (Below w.heap.size w w53) := ⟨by rw [← hq_]; exact (by repeat (first | (with_reducible first | exact HB.out | apply below_alloc | apply pw_below_drewN | apply below_drew1) | exact HB.out))⟩; clear HO_7 HB hq_; have HO_7 := n0_; have HB := n1_; clear n0_ n1_))
           have n0_ := Aside0.mk (Kd.R_drew HO_7.out)
           have n1_ := Aside0.mk (below_drew1 HB.out)
           clear HO_7
           clear HB
           have HO_7 := n0_
           have HB := n1_
           clear n0_ n1_
           have p598 : 0 ≤ (a0 : Int) := of_decide_eq_true (by first | (with_reducible assumption) | assumption)
           have q598 : a0 < (t579.length : Int) := of_decide_eq_true (by first | (with_reducible assumption) | assumption)
           obtain ⟨ad598, e598, hx598_0, hx598_1⟩ := at_T29 (Kd.R_reads' HO_7.out).2.2 a0 p598 q598
           obtain rfl : ad584 = ad598 := (by injection e598)
           replace p598 := eq_true p598
           replace q598 := eq_true q598
           refine start_ (n := 16) (S := fun w' => w'.cell? (ad584.add ((a0).toNat * 2)) = some (.string ((rd_T29 t579 a0).f0)) ∧ w'.cell? ⟨(ad584.add ((a0).toNat * 2)).block, (ad584.add ((a0).toNat * 2)).off + 1, none⟩ = some (.string ((rd_T29 t579 a0).f1))) (ds := []) #[false, false, false, false, false, false, false, false, false, false, false, false, false, false, false, false] (by kernel_rfl) rfl rfl ⟨hx598_0, hx598_1⟩ (fun hHeld => ?_); refine with_tabW laws_FnFields.tab9 laws_FnFields.bits9 (fun HT_ HW_ => ?_)
           generalize w53.drew = w54 at HO_7 HB hx598_0 hx598_1 hHeld ⊢
           refine pure_ (i := 0) (N := some 71) (v := ?_) (a' := ?_) #[true, false, false, false, false, false, false, false, false, false, false, false, false, false, false, false] rfl rfl (any_of HT_.out (by kernel_rfl)) (fun _ _ _ h => h) (Or.inl ⟨by rfl, ?_⟩) ?_ ?_
           rotate_left
           ·intro w'
            go_simp
            with_reducible rfl
           rotate_left
           ·simp only [Act.put, List.setIfInBounds_toArray, List.set_cons_zero, List.set_cons_succ, i64_w, i32_w]
            rfl
           refine pure_ (i := 1) (N := some 72) (v := ?_) (a' := ?_) #[true, true, false, false, false, false, false, false, false, false, false, false, false, false, false, false] rfl rfl (any_of HT_.out (by kernel_rfl)) (fun _ _ _ h => h) (Or.inl ⟨by rfl, ?_⟩) ?_ ?_
           rotate_left
           ·intro w'
            go_simp
            with_reducible rfl
           rotate_left
           ·simp only [Act.put, List.setIfInBounds_toArray, List.set_cons_zero, List.set_cons_succ, i64_w, i32_w]
            rfl
           refine pure_ (i := 2) (N := some 73) (v := ?_) (a' := ?_) #[true, true, true, false, false, false, false, false, false, false, false, false, false, false, false, false] rfl rfl (any_of HT_.out (by kernel_rfl)) (fun _ _ _ h => h) (Or.inl ⟨by rfl, ?_⟩) ?_ ?_
           rotate_left
           ·intro w'
            go_simp
            with_reducible rfl
           rotate_left
           ·simp only [Act.put, List.setIfInBounds_toArray, List.set_cons_zero, List.set_cons_succ, i64_w, i32_w]
            rfl
           refine pure_ (i := 3) (N := some 74) (v := ?_) (a' := ?_) #[true, true, true, true, false, false, false, false, false, false, false, false, false, false, false, false] rfl rfl (any_of HT_.out (by kernel_rfl)) (fun _ _ _ h => h) (Or.inl ⟨by rfl, ?_⟩) ?_ ?_
           rotate_left
           ·intro w'
            go_simp
            with_reducible rfl
           rotate_left
           ·simp only [Act.put, List.setIfInBounds_toArray, List.set_cons_zero, List.set_cons_succ, i64_w, i32_w]
            rfl
           refine pure_ (i := 5) (N := some 76) (v := ?_) (a' := ?_) #[true, true, true, true, false, true, false, false, false, false, false, false, false, false, false, false] rfl rfl (any_of HT_.out (by kernel_rfl)) (fun _ _ _ h => h) (Or.inl ⟨by rfl, ?_⟩) ?_ ?_
           rotate_left
           ·intro w'
            go_simp
            with_reducible rfl
           rotate_left
           ·simp only [Act.put, List.setIfInBounds_toArray, List.set_cons_zero, List.set_cons_succ, i64_w, i32_w]
            rfl
           refine pure_ (i := 6) (N := some 77) (v := ?_) (a' := ?_) #[true, true, true, true, false, true, true, false, false, false, false, false, false, false, false, false] rfl rfl (any_of HT_.out (by kernel_rfl)) (fun _ _ _ h => h) (Or.inl ⟨by rfl, ?_⟩) ?_ ?_
           rotate_left
           ·intro w'
            go_simp
            with_reducible rfl
           rotate_left
           ·simp only [Act.put, List.setIfInBounds_toArray, List.set_cons_zero, List.set_cons_succ, i64_w, i32_w]
            rfl
           refine pure_ (i := 8) (N := some 79) (v := ?_) (a' := ?_) #[true, true, true, true, false, true, true, false, true, false, false, false, false, false, false, false] rfl rfl (any_of HT_.out (by kernel_rfl)) (fun _ _ _ h => h) (Or.inl ⟨by rfl, ?_⟩) ?_ ?_
           rotate_left
           ·intro w'
            go_simp
            with_reducible rfl
           rotate_left
           ·simp only [Act.put, List.setIfInBounds_toArray, List.set_cons_zero, List.set_cons_succ, i64_w, i32_w]
            rfl
           refine take_ (i := 4) (N := some 75) (v := ?_) (a' := ?_) #[true, true, true, true, true, true, true, false, true, false, false, false, false, false, false, false] rfl rfl (take_ofW HT_.out HW_.out (by kernel_rfl)) (fun _ _ _ h => h) (Or.inl ⟨by rfl, ?_⟩) hHeld ?_ ?_
           rotate_left
           ·rintro w' ⟨s0, s1⟩
            go_simp
            with_reducible rfl
           rotate_left
           ·simp only [Act.put, List.setIfInBounds_toArray, List.set_cons_zero, List.set_cons_succ, i64_w, i32_w]
            rfl
           refine one_ (i := 7) (N := some 78) #[true, true, true, true, true, true, true, true, true, false, false, false, false, false, false, false] rfl rfl (one_of HT_.out (by kernel_rfl)) (by decide) (fun K hK => ?_)
           refine Kd.R_lit_step (Kd.int .i64) _ 3 ?hg (N := 78) ?hd (xs := ([wrap64 (a1)] : List Int)) (inner := [.int .i64 (wrap64 (a1))]) (ok := fun _ => True) (okp := fun _ => True) ?hr ?hp (fun _ hk => hk) trivial (Below.refl _ _) (Nat.le_refl _) (by simp) ?_; (case hd => rfl); (case hg => rfl); (case hr => first | (go_simp; done) | (go_simp; rfl)); (case hp => exact (Reps.one (show Kd.M (Kd.int .i64) _ _ _ (wrap64 (a1)) [.int .i64 (wrap64 (a1))] from rfl) (Reps.none _ _)))
           intro v600 w55 ho56 hb hg_ hnew_
           have HS0_ := (hb.cell (World.block_lt_of_cell? _ _ (hHeld.1))).trans (hHeld.1)
           have HS1_ := (hb.cell (World.block_lt_of_cell? _ _ (hHeld.2))).trans (hHeld.2)
           clear hg_ hnew_
           (first | rw [← Ny599.out] at ho56 | (simp only [Int.reduceToNat] at ho56; rw [← Ny599.out] at ho56))
           have n0_ := Aside0.mk (Kd.R_below (by (with_reducible repeat (first | apply Kd.R_alloc | apply Kd.R_drewN | apply Kd.R_drew)); exact HO_7.out) hb)
           have n1_ := Aside0.mk (Kd.R_lower ho56 (below_size (by repeat (first | (with_reducible first | exact HB.out | apply below_alloc | apply pw_below_drewN | apply below_drew1) | exact HB.out))))
           have n2_ := Aside0.mk (below_step (by repeat (first | (with_reducible first | exact HB.out | apply below_alloc | apply pw_below_drewN | apply below_drew1) | exact HB.out)) hb)
           clear HO_7
           clear HB
           have HO_7 := n0_
           have HO601 := n1_
           have HB := n2_
           clear n0_ n1_ n2_
           clear hb ho56
           refine hK.out _ _ ⟨HS0_, HS1_⟩ (fun hHeld => ?_)
           clear hK K
           refine norm_ (a' := ?_) ?_ ?_
           rotate_left
           ·show Act.put _ (some 78) _ = _
            simp only [Act.put, List.setIfInBounds_toArray, List.set_cons_zero, List.set_cons_succ, i64_w, i32_w]
            rfl
           refine one_ (i := 9) (N := some 80) #[true, true, true, true, true, true, true, true, true, true, false, false, false, false, false, false] rfl rfl (one_of HT_.out (by kernel_rfl)) (by decide) (fun K hK => ?_)
           refine Kd.R_append_rows_step (Kd.int .i64) (w0 := w) w.heap.size (by rfl) (.tmp 78) (.tmp 79) 22 3 (.int .i64 0) 8 rfl Try.underlying22 info3 rfl (by decide) (by omega) v600 y599 l2 _ _ _ (fun _ => True) (fun _ => False) rfl rfl ?aO ?aR (fun _ _ h => h) (fun _ h => h.elim) ?aF ?aB ?aS ?aL ?_
           (case aR => repeat (first | exact (Kd.C_below HR2.out HB.out) | (with_reducible refine Kd.C_alloc ?_ _) | (with_reducible refine Kd.C_drewN ?_ _) | (with_reducible refine Kd.C_drew ?_)))
           (case aB => exact (by repeat (first | (with_reducible first | exact HB.out | apply below_alloc | apply pw_below_drewN | apply below_drew1) | exact HB.out)))
           (case aF => exact (fun _ _ => trivial))
           (case aO => exact (by (with_reducible repeat (first | apply Kd.R_alloc | apply Kd.R_drewN | apply Kd.R_drew)); exact HO601.out))
           (case aS => exact (below_size (by repeat (first | (with_reducible first | exact HB.out | apply below_alloc | apply pw_below_drewN | apply below_drew1) | exact HB.out))))
           (case aL => have := LMc49.out; omega)
           intro v603 w57 ho hb hg hat
           rw [← Ny602.out] at ho
           have n0_ := Aside0.mk (Kd.R_over' (by (with_reducible repeat (first | apply Kd.R_alloc | apply Kd.R_drewN | apply Kd.R_drew)); exact HO_7.out) (Kd.R_typed (by (with_reducible repeat (first | apply Kd.R_alloc | apply Kd.R_drewN | apply Kd.R_drew)); exact HO601.out)) (by decide) hg)
           obtain ⟨adH_, eH_, HS0_, HS1_⟩ := at_T29 (Kd.R_reads' n0_.out).2.2 a0 (of_eq_true p598) (of_eq_true q598)
           obtain rfl : ad584 = adH_ := (by injection eH_)
           have n1_ := Aside0.mk (hb)
           have n2_ := Aside0.mk (ho)
           clear HO_7
           clear HB
           clear HO601
           have HO_7 := n0_
           have HB := n1_
           have HO604 := n2_
           clear n0_ n1_ n2_
           clear ho hb hg hat
           obtain ⟨Ao58, co58, eo58⟩ := Kd.R_slice HO604.out
           (first | subst eo58 | (injection eo58 with f1_ f2_ f3_; have f4_ := f1_.symm; have f5_ := f3_.symm; clear f1_ f2_ f3_; subst f4_; subst f5_))
           refine hK.out _ _ ⟨HS0_, HS1_⟩ (fun hHeld => ?_)
           clear hK K
           refine norm_ (a' := ?_) ?_ ?_
           rotate_left
           ·show Act.put _ (some 80) _ = _
            simp only [Act.put, List.setIfInBounds_toArray, List.set_cons_zero, List.set_cons_succ, i64_w, i32_w]
            rfl
           refine one_ (i := 10) (N := some 81) #[true, true, true, true, true, true, true, true, true, true, true, false, false, false, false, false] rfl rfl (one_of HT_.out (by kernel_rfl)) (by decide) (fun K hK => ?_)
           refine goes_ Try.func13 (by kernel_rfl) rfl #[.string ((rd_T29 t579 a0).f0), .slice Ao58 y602.length co58] (by rfl) rfl rfl (by (try simp only [List.map_toArray, List.map_cons, List.map_nil]); first | done | rfl | (simp only [List.length_drop, List.length_take]; rfl)) ?_
           with_reducible refine (impl_Encode.calls kj5 ((rd_T29 t579 a0).f0) _ _ y602 t605 t606 _ ?side1 ?side2 A50.out).mono ?_
           (case side1 => repeat (first | exact (Kd.R_reads' HO604.out).2.2 | (with_reducible refine Kd.C_alloc ?_ _) | (with_reducible refine Kd.C_drewN ?_ _) | (with_reducible refine Kd.C_drew ?_)))
           (case side2 => exact (Kd.R_reads' HO604.out).2.1)
           rintro e w59 ⟨rfl, hb⟩
           have HS0_ := (hb.cell (World.block_lt_of_cell? _ _ (hHeld.1))).trans (hHeld.1)
           have HS1_ := (hb.cell (World.block_lt_of_cell? _ _ (hHeld.2))).trans (hHeld.2)
           refine ⟨_, rfl, ?_⟩
           have n0_ := Aside0.mk (Kd.R_below (by (with_reducible repeat (first | apply Kd.R_alloc | apply Kd.R_drewN | apply Kd.R_drew)); exact HO_7.out) hb)
           have n1_ := Aside0.mk (Kd.R_below (by (with_reducible repeat (first | apply Kd.R_alloc | apply Kd.R_drewN | apply Kd.R_drew)); exact HO604.out) hb)
           have n2_ := Aside0.mk (below_step (by repeat (first | (with_reducible first | exact HB.out | apply below_alloc | apply pw_below_drewN | apply below_drew1) | exact HB.out)) hb)
           clear HO_7
           clear HO604
           clear HB
           have HO_7 := n0_
           have HO604 := n1_
           have HB := n2_
           clear n0_ n1_ n2_
           (try clear hb)
           (try clear hb2)
           (try clear hk)
           (try clear hi)
           refine hK.out _ _ ⟨HS0_, HS1_⟩ (fun hHeld => ?_)
           clear hK K
           refine norm_ (a' := ?_) ?_ ?_
           rotate_left
           ·show Act.put _ (some 81) _ = _
            simp only [Act.put, List.setIfInBounds_toArray, List.set_cons_zero, List.set_cons_succ, i64_w, i32_w]
            rfl
           refine pure_ (i := 11) (N := some 70) (v := ?_) (a' := ?_) #[true, true, true, true, true, true, true, true, true, true, true, true, false, false, false, false] rfl rfl (any_of HT_.out (by kernel_rfl)) (fun _ _ _ h => h) (Or.inl ⟨by rfl, ?_⟩) ?_ ?_
           rotate_left
           ·intro w'
            go_simp
            with_reducible rfl
           rotate_left
           ·simp only [Act.put, List.setIfInBounds_toArray, List.set_cons_zero, List.set_cons_succ, i64_w, i32_w]
            rfl
           refine pure_ (i := 12) (N := some 82) (v := ?_) (a' := ?_) #[true, true, true, true, true, true, true, true, true, true, true, true, true, false, false, false] rfl rfl (any_of HT_.out (by kernel_rfl)) (fun _ _ _ h => h) (Or.inl ⟨by rfl, ?_⟩) ?_ ?_
           rotate_left
           ·intro w'
            go_simp
            with_reducible rfl
           rotate_left
           ·simp only [Act.put, List.setIfInBounds_toArray, List.set_cons_zero, List.set_cons_succ, i64_w, i32_w]
            rfl
           refine pure_ (i := 13) (N := some 83) (v := ?_) (a' := ?_) #[true, true, true, true, true, true, true, true, true, true, true, true, true, true, false, false] rfl rfl (any_of HT_.out (by kernel_rfl)) (fun _ _ _ h => h) (Or.inl ⟨by rfl, ?_⟩) ?_ ?_
           rotate_left
           ·intro w'
            go_simp
            with_reducible rfl
           rotate_left
           ·simp only [Act.put, List.setIfInBounds_toArray, List.set_cons_zero, List.set_cons_succ, i64_w, i32_w]
            rfl
           refine pure_ (i := 14) (N := some 10) (v := ?_) (a' := ?_) #[true, true, true, true, true, true, true, true, true, true, true, true, true, true, true, false] rfl rfl (any_of HT_.out (by kernel_rfl)) (fun _ _ _ h => h) (Or.inl ⟨by rfl, ?_⟩) ?_ ?_
           rotate_left
           ·intro w'
            go_simp
            with_reducible rfl
           rotate_left
           ·simp only [Act.put, List.setIfInBounds_toArray, List.set_cons_zero, List.set_cons_succ, i64_w, i32_w]
            rfl
           refine pure_ (i := 15) (N := some 11) (v := ?_) (a' := ?_) #[true, true, true, true, true, true, true, true, true, true, true, true, true, true, true, true] rfl rfl (any_of HT_.out (by kernel_rfl)) (fun _ _ _ h => h) (Or.inl ⟨by rfl, ?_⟩) ?_ ?_
           rotate_left
           ·intro w'
            go_simp
            with_reducible rfl
           rotate_left
           ·simp only [Act.put, List.setIfInBounds_toArray, List.set_cons_zero, List.set_cons_succ, i64_w, i32_w]
            rfl
           refine done_ (done_of HT_.out (by kernel_rfl)) ?_
           try go_wp2
           go_ret
           exact ⟨by first | rfl | (simp [errW_none, errW_some] <;> rfl) | (simp [*, errW_none, errW_some] <;> rfl), by repeat (first | (with_reducible first | exact HB.out | apply below_alloc | apply pw_below_drewN | apply below_drew1) | exact HB.out)⟩
          ·rw [if_neg c51] at H
           have c51b0 : (t606 == false) = false := by simpa using c51
           (try (have c51b1 : decide (t606 = false) = false := by simpa using c51))
           (try (have c51b2 : (t606 == false) = false := by simpa using c51))
           (try (have c51b3 : ¬ (t606 = false) := by simpa using c51))
           clear c51
           obtain rfl := Option.some.inj H
           obtain ⟨Ao60, co60, eo60⟩ := Kd.R_slice HO_7.out
           subst eo60
           have p584 : 0 ≤ (a0 : Int) := of_decide_eq_true (by first | (with_reducible assumption) | assumption)
           have q584 : a0 < (t579.length : Int) := of_decide_eq_true (by first | (with_reducible assumption) | assumption)
           obtain ⟨ad584, e584, hx584_0, hx584_1⟩ := at_T29 (Kd.R_reads' HO_7.out).2.2 a0 p584 q584
           cases e584
           replace p584 := eq_true p584
           replace q584 := eq_true q584
           try go_wp2_with (first | ((with_reducible refine gate_callee (f := 12) rfl ?_); refine goesL_ (some 56) rfl rfl Try.func12 (by kernel_rfl) rfl #[.agg #[.string ((rd_T29 t579 a0).f0), .string ((rd_T29 t579 a0).f1)], .int .u32 a1, .slice A2 l2.length c2] rfl (by (try simp only [List.map_toArray, List.map_cons, List.map_nil]); first | done | rfl | (simp only [List.length_drop, List.length_take]; rfl)) ?_; (with_reducible refine (spec_Word.calls kj5 ((rd_T29 t579 a0).f0) ((rd_T29 t579 a0).f1) a1 _ _ l2 t585 false _ ?side1 ?side2 A24.out).mono ?_); (case side1 => repeat (first | exact (Kd.C_below HR2.out HB.out) | (with_reducible refine Kd.C_alloc ?_ _) | (with_reducible refine Kd.C_drewN ?_ _) | (with_reducible refine Kd.C_drew ?_))); (case side2 => exact HC2.out); rintro e w61 ⟨rfl, hb⟩; refine ⟨_, rfl, ?_⟩; have n0_ := Aside0.mk (Kd.R_below (by (with_reducible repeat (first | apply Kd.R_alloc | apply Kd.R_drewN | apply Kd.R_drew)); exact HO_7.out) hb); have n1_ := Aside0.mk (below_step (by repeat (first | (with_reducible first | exact HB.out | apply below_alloc | apply pw_below_drewN | apply below_drew1) | exact HB.out)) hb); clear HO_7; clear HB; have HO_7 := n0_; have HB := n1_; clear n0_ n1_; (try clear hb); (try clear hb2); (try clear hk); (try clear hi); have p596 : 0 ≤ (a0 : Int) := of_decide_eq_true (by first | (with_reducible assumption) | assumption); have q596 : a0 < (t579.length : Int) := of_decide_eq_true (by first | (with_reducible assumption) | assumption); obtain ⟨ad596, e596, hx596_0, hx596_1⟩ := at_T29 (Kd.R_reads' HO_7.out).2.2 a0 p596 q596; obtain rfl : ad584 = ad596 := (by injection e596); replace p596 := eq_true p596; replace q596 := eq_true q596) | (go_at_call 16; (with_reducible refine (laws_fits.calls kj5 ((rd_T29 t579 a0).f1) _ _ l2 false _ ?side1 ?side2 A45.out).mono ?_); (case side1 => repeat (first | exact (Kd.C_below HR2.out HB.out) | (with_reducible refine Kd.C_alloc ?_ _) | (with_reducible refine Kd.C_drewN ?_ _) | (with_reducible refine Kd.C_drew ?_))); (case side2 => exact HC2.out); rintro e w' ⟨rfl, ⟨nd, rfl⟩⟩))
           (try (rw [drewN_self w61]; generalize hq_ : World.drewN w61 _ = w61; have n0_ : Aside0 (Kd.R k29 29 w61 w.heap.size (fun _ => True) (.slice (some ad584) t579.length co60) t579) := ⟨by rw [← hq_]; exact (by (with_reducible repeat (first | apply Kd.R_alloc | apply Kd.R_drewN | apply Kd.R_drew)); exact HO_7.out)⟩; have n1_ : Aside0 (Below w.heap.size w w61) := ⟨by rw [← hq_]; exact (by repeat (first | (with_reducible first | exact HB.out | apply below_alloc | apply pw_below_drewN | apply below_drew1) | exact HB.out))⟩; clear HO_7 HB hq_; have HO_7 := n0_; have HB := n1_; clear n0_ n1_))
           have n0_ := Aside0.mk (Kd.R_drew HO_7.out)
           have n1_ := Aside0.mk (below_drew1 HB.out)
           clear HO_7
           clear HB
           have HO_7 := n0_
           have HB := n1_
           clear n0_ n1_
           have p598 : 0 ≤ (a0 : Int) := of_decide_eq_true (by first | (with_reducible assumption) | assumption)
           have q598 : a0 < (t579.length : Int) := of_decide_eq_true (by first | (with_reducible assumption) | assumption)
           obtain ⟨ad598, e598, hx598_0, hx598_1⟩ := at_T29 (Kd.R_reads' HO_7.out).2.2 a0 p598 q598
           obtain rfl : ad584 = ad598 := (by injection e598)
           replace p598 := eq_true p598
           replace q598 := eq_true q598
           refine start_ (n := 16) (S := fun w' => w'.cell? (ad584.add ((a0).toNat * 2)) = some (.string ((rd_T29 t579 a0).f0)) ∧ w'.cell? ⟨(ad584.add ((a0).toNat * 2)).block, (ad584.add ((a0).toNat * 2)).off + 1, none⟩ = some (.string ((rd_T29 t579 a0).f1))) (ds := []) #[false, false, false, false, false, false, false, false, false, false, false, false, false, false, false, false] (by kernel_rfl) rfl rfl ⟨hx598_0, hx598_1⟩ (fun hHeld => ?_); refine with_tabW laws_FnFields.tab9 laws_FnFields.bits9 (fun HT_ HW_ => ?_)
           generalize w61.drew = w62 at HO_7 HB hx598_0 hx598_1 hHeld ⊢
           refine pure_ (i := 0) (N := some 71) (v := ?_) (a' := ?_) #[true, false, false, false, false, false, false, false, false, false, false, false, false, false, false, false] rfl rfl (any_of HT_.out (by kernel_rfl)) (fun _ _ _ h => h) (Or.inl ⟨by rfl, ?_⟩) ?_ ?_
           rotate_left
           ·intro w'
            go_simp
            with_reducible rfl
           rotate_left
           ·simp only [Act.put, List.setIfInBounds_toArray, List.set_cons_zero, List.set_cons_succ, i64_w, i32_w]
            rfl
           refine pure_ (i := 1) (N := some 72) (v := ?_) (a' := ?_) #[true, true, false, false, false, false, false, false, false, false, false, false, false, false, false, false] rfl rfl (any_of HT_.out (by kernel_rfl)) (fun _ _ _ h => h) (Or.inl ⟨by rfl, ?_⟩) ?_ ?_
           rotate_left
           ·intro w'
            go_simp
            with_reducible rfl
           rotate_left
           ·simp only [Act.put, List.setIfInBounds_toArray, List.set_cons_zero, List.set_cons_succ, i64_w, i32_w]
            rfl
           refine pure_ (i := 2) (N := some 73) (v := ?_) (a' := ?_) #[true, true, true, false, false, false, false, false, false, false, false, false, false, false, false, false] rfl rfl (any_of HT_.out (by kernel_rfl)) (fun _ _ _ h => h) (Or.inl ⟨by rfl, ?_⟩) ?_ ?_
           rotate_left
           ·intro w'
            go_simp
            with_reducible rfl
           rotate_left
           ·simp only [Act.put, List.setIfInBounds_toArray, List.set_cons_zero, List.set_cons_succ, i64_w, i32_w]
            rfl
           refine pure_ (i := 3) (N := some 74) (v := ?_) (a' := ?_) #[true, true, true, true, false, false, false, false, false, false, false, false, false, false, false, false] rfl rfl (any_of HT_.out (by kernel_rfl)) (fun _ _ _ h => h) (Or.inl ⟨by rfl, ?_⟩) ?_ ?_
           rotate_left
           ·intro w'
            go_simp
            with_reducible rfl
           rotate_left
           ·simp only [Act.put, List.setIfInBounds_toArray, List.set_cons_zero, List.set_cons_succ, i64_w, i32_w]
            rfl
           refine pure_ (i := 5) (N := some 76) (v := ?_) (a' := ?_) #[true, true, true, true, false, true, false, false, false, false, false, false, false, false, false, false] rfl rfl (any_of HT_.out (by kernel_rfl)) (fun _ _ _ h => h) (Or.inl ⟨by rfl, ?_⟩) ?_ ?_
           rotate_left
           ·intro w'
            go_simp
            with_reducible rfl
           rotate_left
           ·simp only [Act.put, List.setIfInBounds_toArray, List.set_cons_zero, List.set_cons_succ, i64_w, i32_w]
            rfl
           refine pure_ (i := 6) (N := some 77) (v := ?_) (a' := ?_) #[true, true, true, true, false, true, true, false, false, false, false, false, false, false, false, false] rfl rfl (any_of HT_.out (by kernel_rfl)) (fun _ _ _ h => h) (Or.inl ⟨by rfl, ?_⟩) ?_ ?_
           rotate_left
           ·intro w'
            go_simp
            with_reducible rfl
           rotate_left
           ·simp only [Act.put, List.setIfInBounds_toArray, List.set_cons_zero, List.set_cons_succ, i64_w, i32_w]
            rfl
           refine pure_ (i := 8) (N := some 79) (v := ?_) (a' := ?_) #[true, true, true, true, false, true, true, false, true, false, false, false, false, false, false, false] rfl rfl (any_of HT_.out (by kernel_rfl)) (fun _ _ _ h => h) (Or.inl ⟨by rfl, ?_⟩) ?_ ?_
           rotate_left
           ·intro w'
            go_simp
            with_reducible rfl
           rotate_left
           ·simp only [Act.put, List.setIfInBounds_toArray, List.set_cons_zero, List.set_cons_succ, i64_w, i32_w]
            rfl
           refine take_ (i := 4) (N := some 75) (v := ?_) (a' := ?_) #[true, true, true, true, true, true, true, false, true, false, false, false, false, false, false, false] rfl rfl (take_ofW HT_.out HW_.out (by kernel_rfl)) (fun _ _ _ h => h) (Or.inl ⟨by rfl, ?_⟩) hHeld ?_ ?_
           rotate_left
           ·rintro w' ⟨s0, s1⟩
            go_simp
            with_reducible rfl
           rotate_left
           ·simp only [Act.put, List.setIfInBounds_toArray, List.set_cons_zero, List.set_cons_succ, i64_w, i32_w]
            rfl
           refine one_ (i := 7) (N := some 78) #[true, true, true, true, true, true, true, true, true, false, false, false, false, false, false, false] rfl rfl (one_of HT_.out (by kernel_rfl)) (by decide) (fun K hK => ?_)
           refine Kd.R_lit_step (Kd.int .i64) _ 3 ?hg (N := 78) ?hd (xs := ([wrap64 (a1)] : List Int)) (inner := [.int .i64 (wrap64 (a1))]) (ok := fun _ => True) (okp := fun _ => True) ?hr ?hp (fun _ hk => hk) trivial (Below.refl _ _) (Nat.le_refl _) (by simp) ?_; (case hd => rfl); (case hg => rfl); (case hr => first | (go_simp; done) | (go_simp; rfl)); (case hp => exact (Reps.one (show Kd.M (Kd.int .i64) _ _ _ (wrap64 (a1)) [.int .i64 (wrap64 (a1))] from rfl) (Reps.none _ _)))
           intro v600 w63 ho64 hb hg_ hnew_
           have HS0_ := (hb.cell (World.block_lt_of_cell? _ _ (hHeld.1))).trans (hHeld.1)
           have HS1_ := (hb.cell (World.block_lt_of_cell? _ _ (hHeld.2))).trans (hHeld.2)
           clear hg_ hnew_
           (first | rw [← Ny599.out] at ho64 | (simp only [Int.reduceToNat] at ho64; rw [← Ny599.out] at ho64))
           have n0_ := Aside0.mk (Kd.R_below (by (with_reducible repeat (first | apply Kd.R_alloc | apply Kd.R_drewN | apply Kd.R_drew)); exact HO_7.out) hb)
           have n1_ := Aside0.mk (Kd.R_lower ho64 (below_size (by repeat (first | (with_reducible first | exact HB.out | apply below_alloc | apply pw_below_drewN | apply below_drew1) | exact HB.out))))
           have n2_ := Aside0.mk (below_step (by repeat (first | (with_reducible first | exact HB.out | apply below_alloc | apply pw_below_drewN | apply below_drew1) | exact HB.out)) hb)
           clear HO_7
           clear HB
           have HO_7 := n0_
           have HO601 := n1_
           have HB := n2_
           clear n0_ n1_ n2_
           clear hb ho64
           refine hK.out _ _ ⟨HS0_, HS1_⟩ (fun hHeld => ?_)
           clear hK K
           refine norm_ (a' := ?_) ?_ ?_
           rotate_left
           ·show Act.put _ (some 78) _ = _
            simp only [Act.put, List.setIfInBounds_toArray, List.set_cons_zero, List.set_cons_succ, i64_w, i32_w]
            rfl
           refine one_ (i := 9) (N := some 80) #[true, true, true, true, true, true, true, true, true, true, false, false, false, false, false, false] rfl rfl (one_of HT_.out (by kernel_rfl)) (by decide) (fun K hK => ?_)
           refine Kd.R_append_rows_step (Kd.int .i64) (w0 := w) w.heap.size (by rfl) (.tmp 78) (.tmp 79) 22 3 (.int .i64 0) 8 rfl Try.underlying22 info3 rfl (by decide) (by omega) v600 y599 l2 _ _ _ (fun _ => True) (fun _ => False) rfl rfl ?aO ?aR (fun _ _ h => h) (fun _ h => h.elim) ?aF ?aB ?aS ?aL ?_
           (case aR => repeat (first | exact (Kd.C_below HR2.out HB.out) | (with_reducible refine Kd.C_alloc ?_ _) | (with_reducible refine Kd.C_drewN ?_ _) | (with_reducible refine Kd.C_drew ?_)))
           (case aB => exact (by repeat (first | (with_reducible first | exact HB.out | apply below_alloc | apply pw_below_drewN | apply below_drew1) | exact HB.out)))
           (case aF => exact (fun _ _ => trivial))
           (case aO => exact (by (with_reducible repeat (first | apply Kd.R_alloc | apply Kd.R_drewN | apply Kd.R_drew)); exact HO601.out))
           (case aS => exact (below_size (by repeat (first | (with_reducible first | exact HB.out | apply below_alloc | apply pw_below_drewN | apply below_drew1) | exact HB.out))))
           (case aL => have := LMc49.out; omega)
           intro v603 w65 ho hb hg hat
           rw [← Ny602.out] at ho
           have n0_ := Aside0.mk (Kd.R_over' (by (with_reducible repeat (first | apply Kd.R_alloc | apply Kd.R_drewN | apply Kd.R_drew)); exact HO_7.out) (Kd.R_typed (by (with_reducible repeat (first | apply Kd.R_alloc | apply Kd.R_drewN | apply Kd.R_drew)); exact HO601.out)) (by decide) hg)
           obtain ⟨adH_, eH_, HS0_, HS1_⟩ := at_T29 (Kd.R_reads' n0_.out).2.2 a0 (of_eq_true p598) (of_eq_true q598)
           obtain rfl : ad584 = adH_ := (by injection eH_)
           have n1_ := Aside0.mk (hb)
           have n2_ := Aside0.mk (ho)
           clear HO_7
           clear HB
           clear HO601
           have HO_7 := n0_
           have HB := n1_
           have HO604 := n2_
           clear n0_ n1_ n2_
           clear ho hb hg hat
           obtain ⟨Ao66, co66, eo66⟩ := Kd.R_slice HO604.out
           (first | subst eo66 | (injection eo66 with f1_ f2_ f3_; have f4_ := f1_.symm; have f5_ := f3_.symm; clear f1_ f2_ f3_; subst f4_; subst f5_))
           refine hK.out _ _ ⟨HS0_, HS1_⟩ (fun hHeld => ?_)
           clear hK K
           refine norm_ (a' := ?_) ?_ ?_
           rotate_left
           ·show Act.put _ (some 80) _ = _
            simp only [Act.put, List.setIfInBounds_toArray, List.set_cons_zero, List.set_cons_succ, i64_w, i32_w]
            rfl
           refine one_ (i := 10) (N := some 81) #[true, true, true, true, true, true, true, true, true, true, true, false, false, false, false, false] rfl rfl (one_of HT_.out (by kernel_rfl)) (by decide) (fun K hK => ?_)
           refine goes_ Try.func13 (by kernel_rfl) rfl #[.string ((rd_T29 t579 a0).f0), .slice Ao66 y602.length co66] (by rfl) rfl rfl (by (try simp only [List.map_toArray, List.map_cons, List.map_nil]); first | done | rfl | (simp only [List.length_drop, List.length_take]; rfl)) ?_
           with_reducible refine (impl_Encode.calls kj5 ((rd_T29 t579 a0).f0) _ _ y602 t605 t606 _ ?side1 ?side2 A50.out).mono ?_
           (case side1 => repeat (first | exact (Kd.R_reads' HO604.out).2.2 | (with_reducible refine Kd.C_alloc ?_ _) | (with_reducible refine Kd.C_drewN ?_ _) | (with_reducible refine Kd.C_drew ?_)))
           (case side2 => exact (Kd.R_reads' HO604.out).2.1)
           rintro e w67 ⟨rfl, hb⟩
           have HS0_ := (hb.cell (World.block_lt_of_cell? _ _ (hHeld.1))).trans (hHeld.1)
           have HS1_ := (hb.cell (World.block_lt_of_cell? _ _ (hHeld.2))).trans (hHeld.2)
           refine ⟨_, rfl, ?_⟩
           have n0_ := Aside0.mk (Kd.R_below (by (with_reducible repeat (first | apply Kd.R_alloc | apply Kd.R_drewN | apply Kd.R_drew)); exact HO_7.out) hb)
           have n1_ := Aside0.mk (Kd.R_below (by (with_reducible repeat (first | apply Kd.R_alloc | apply Kd.R_drewN | apply Kd.R_drew)); exact HO604.out) hb)
           have n2_ := Aside0.mk (below_step (by repeat (first | (with_reducible first | exact HB.out | apply below_alloc | apply pw_below_drewN | apply below_drew1) | exact HB.out)) hb)
           clear HO_7
           clear HO604
           clear HB
           have HO_7 := n0_
           have HO604 := n1_
           have HB := n2_
           clear n0_ n1_ n2_
           (try clear hb)
           (try clear hb2)
           (try clear hk)
           (try clear hi)
           refine hK.out _ _ ⟨HS0_, HS1_⟩ (fun hHeld => ?_)
           clear hK K
           refine norm_ (a' := ?_) ?_ ?_
           rotate_left
           ·show Act.put _ (some 81) _ = _
            simp only [Act.put, List.setIfInBounds_toArray, List.set_cons_zero, List.set_cons_succ, i64_w, i32_w]
            rfl
           refine pure_ (i := 11) (N := some 70) (v := ?_) (a' := ?_) #[true, true, true, true, true, true, true, true, true, true, true, true, false, false, false, false] rfl rfl (any_of HT_.out (by kernel_rfl)) (fun _ _ _ h => h) (Or.inl ⟨by rfl, ?_⟩) ?_ ?_
           rotate_left
           ·intro w'
            go_simp
            with_reducible rfl
           rotate_left
           ·simp only [Act.put, List.setIfInBounds_toArray, List.set_cons_zero, List.set_cons_succ, i64_w, i32_w]
            rfl
           refine pure_ (i := 12) (N := some 82) (v := ?_) (a' := ?_) #[true, true, true, true, true, true, true, true, true, true, true, true, true, false, false, false] rfl rfl (any_of HT_.out (by kernel_rfl)) (fun _ _ _ h => h) (Or.inl ⟨by rfl, ?_⟩) ?_ ?_
           rotate_left
           ·intro w'
            go_simp
            with_reducible rfl
           rotate_left
           ·simp only [Act.put, List.setIfInBounds_toArray, List.set_cons_zero, List.set_cons_succ, i64_w, i32_w]
            rfl
           refine pure_ (i := 13) (N := some 83) (v := ?_) (a' := ?_) #[true, true, true, true, true, true, true, true, true, true, true, true, true, true, false, false] rfl rfl (any_of HT_.out (by kernel_rfl)) (fun _ _ _ h => h) (Or.inl ⟨by rfl, ?_⟩) ?_ ?_
           rotate_left
           ·intro w'
            go_simp
            with_reducible rfl
           rotate_left
           ·simp only [Act.put, List.setIfInBounds_toArray, List.set_cons_zero, List.set_cons_succ, i64_w, i32_w]
            rfl
           refine pure_ (i := 14) (N := some 10) (v := ?_) (a' := ?_) #[true, true, true, true, true, true, true, true, true, true, true, true, true, true, true, false] rfl rfl (any_of HT_.out (by kernel_rfl)) (fun _ _ _ h => h) (Or.inl ⟨by rfl, ?_⟩) ?_ ?_
           rotate_left
           ·intro w'
            go_simp
            with_reducible rfl
           rotate_left
           ·simp only [Act.put, List.setIfInBounds_toArray, List.set_cons_zero, List.set_cons_succ, i64_w, i32_w]
            rfl
           refine pure_ (i := 15) (N := some 11) (v := ?_) (a' := ?_) #[true, true, true, true, true, true, true, true, true, true, true, true, true, true, true, true] rfl rfl (any_of HT_.out (by kernel_rfl)) (fun _ _ _ h => h) (Or.inl ⟨by rfl, ?_⟩) ?_ ?_
           rotate_left
           ·intro w'
            go_simp
            with_reducible rfl
           rotate_left
           ·simp only [Act.put, List.setIfInBounds_toArray, List.set_cons_zero, List.set_cons_succ, i64_w, i32_w]
            rfl
           refine done_ (done_of HT_.out (by kernel_rfl)) ?_
           try go_wp2
           go_ret
           exact ⟨by first | rfl | (simp [errW_none, errW_some] <;> rfl) | (simp [*, errW_none, errW_some] <;> rfl), by repeat (first | (with_reducible first | exact HB.out | apply below_alloc | apply pw_below_drewN | apply below_drew1) | exact HB.out)⟩
         ·rw [if_neg c49] at H
          exact absurd H (by simp)
      ·rw [if_neg c23] at H
       exact absurd H (by simp)
     ·rw [if_neg c22] at H
      exact absurd H (by simp)

/-- THE ONE PURE STATEMENT of laws_FnFields: yours. -/
def laws_FnFields.Pure : Prop := ∀ (a0 : Int) (a1 : Int) (l2 : List Int), (Lit.int .i64 a0).wf = true → (Lit.int .u32 a1).wf = true → l2.length ≤ maxLen → l2.length * 8 ≤ 140737488351232 → (∀ x ∈ l2, (Lit.int .i64 x).wf = true) → ∃ k, laws_FnFields.f k a0 a1 l2 = some true
theorem laws_FnFields.walk (P : laws_FnFields.Pure) (a0 : Int) (a1 : Int) (a2 : Option Addr) (len2 cap2 : Nat) (z2 : List Int) (w : World) (w0 : (Lit.int .i64 a0).wf = true) (w1 : (Lit.int .u32 a1).wf = true) (w2 : (a2 = none ∧ len2 = 0 ∧ cap2 = 0 ∧ z2 = []) ∨ ∃ x, a2 = some x ∧ len2 ≤ cap2 ∧ cap2 ≤ maxLen ∧ z2.length = cap2 ∧ (∀ i, i < z2.length → w.cell? (x.add i) = some (.int .i64 (z2.getD i 0))) ∧ ∀ n ∈ z2, (Lit.int .i64 n).wf = true) (y2 : len2 * 8 ≤ 140737488351232) :
  Calls Try.prog 7 #[.int .i64 a0, .int .u32 a1, .slice a2 len2 cap2] w fun e w' => e = .returned (.bool true) ∧ Below w.heap.size w w' := by
 obtain ⟨l2, rfl, hr2, hm2, hw2, hc2⟩ := ReadsInt.ofRowC w2
 obtain ⟨k, h⟩ := P a0 a1 l2 w0 w1 hm2 y2 hw2
 refine (laws_FnFields.calls k a0 a1 _ _ l2 true w (Kd.C_of_reads (d := (0 : Int)) (h1 := fun _ => rfl) hr2) hc2 h).mono ?_
 rintro e w' ⟨rfl, hd⟩
 exact ⟨rfl, hd⟩


end Go.Proofs.Ytnfkdmoblncclaa.X
