/- The walk of the law FnApart. -/
import Derived.Test.YtnfkdmoblncclaaXEncode
import Derived.Test.YtnfkdmoblncclaaXLayouts
import Derived.Test.YtnfkdmoblncclaaXWord
namespace Go.Proofs.Ytnfkdmoblncclaa.X
open Go.RowKit Go.Proofs.YtnfkdmoblncclaaW.PrintWords Go.Proofs.YtnfkdmoblncclaaW.PrintLast Go.Proofs.YtnfkdmoblncclaaW.PrintMore
attribute [local go_sem] max2_int min2_int max_two min_two max_three min_three max_four min_four   -- for this text's walks alone
set_option linter.unusedVariables false
set_option linter.unusedSimpArgs false

/-! ### laws_FnApart: function 3 -/
mutual
def laws_FnApart.j0 : Nat → Int → List Int → List Int → Bool → Option (Bool)
 | 0, _, _, _, _ => none
 | k + 1, x0, x1, x2, x25 => if x25 = true then (some true) else ((spec_Layouts.f).bind fun t716 => (if x0 < 0 then (laws_FnApart.j1 k x0 x1 x2 t716 true) else (if x0 ≥ (t716.length : Int) then (laws_FnApart.j1 k x0 x1 x2 t716 true) else (if (x1.length : Int) > 20 then (laws_FnApart.j1 k x0 x1 x2 t716 true) else (laws_FnApart.j1 k x0 x1 x2 t716 (decide ((x2.length : Int) > 20)))))))
def laws_FnApart.j1 : Nat → Int → List Int → List Int → List (S29) → Bool → Option (Bool)
 | 0, _, _, _, _, _ => none
 | k + 1, x0, x1, x2, x7, x44 => if x44 = true then (some true) else (if 0 ≤ x0 then (if x0 < (x7.length : Int) then ((spec_Word.f k ((rd_T29 x7 x0).f0) ((rd_T29 x7 x0).f1) 0 x1).bind fun bt720 => ((spec_Word.f k ((rd_T29 x7 x0).f0) ((rd_T29 x7 x0).f1) 0 x2).bind fun bt723 => (if bt720.2 = true then (laws_FnApart.j2 k x0 x1 x2 x7 (!bt723.2)) else (laws_FnApart.j2 k x0 x1 x2 x7 true)))) else (none)) else (none))
def laws_FnApart.j2 : Nat → Int → List Int → List Int → List (S29) → Bool → Option (Bool)
 | 0, _, _, _, _, _ => none
 | k + 1, x0, x1, x2, x7, x68 => if x68 = true then (some true) else (if 0 ≤ x0 then (if x0 < (x7.length : Int) then ((some (([0] : List Int) : List Int)).bind fun y726 => (if y726.length + x1.length < 17592186044416 then ((impl_Encode.f k ((rd_T29 x7 x0).f0) (y726 ++ x1)).bind fun bt732 => ((some (([0] : List Int) : List Int)).bind fun y735 => (if y735.length + x2.length < 17592186044416 then ((impl_Encode.f k ((rd_T29 x7 x0).f0) (y735 ++ x2)).bind fun bt741 => (laws_FnApart.l0 k x1 x2 bt732.1 bt732.2 bt741.1 bt741.2 true 0)) else (none)))) else (none))) else (none)) else (none))
def laws_FnApart.l0 : Nat → List Int → List Int → Int → Bool → Int → Bool → Bool → Int → Option (Bool)
 | 0, _, _, _, _, _, _, _, _ => none
 | k + 1, x1, x2, x12, x13, x14, x15, x16, x17 => if x17 < (x1.length : Int) then (if 0 ≤ x17 then (if x17 < (x2.length : Int) then (if (rd x1 x17) = (rd x2 x17) then (laws_FnApart.l0 k x1 x2 x12 x13 x14 x15 x16 (wrap64 (x17 + 1))) else (laws_FnApart.l0 k x1 x2 x12 x13 x14 x15 false (wrap64 (x17 + 1)))) else (none)) else (none)) else (if x13 = true then (if x15 = true then (some ((x12 == x14) == x16)) else (some false)) else (some false))
end
def laws_FnApart.f (k : Nat) (a0 : Int) (l1 : List Int) (l2 : List Int) : Option (Bool) := if (l1.length : Int) > 2147483647 then (laws_FnApart.j0 k a0 l1 l2 true) else (laws_FnApart.j0 k a0 l1 l2 (decide ((l2.length : Int) > 2147483647)))
def laws_FnApart.T10 : Bool × List (List Nat × List Nat) := (true, [([], []), ([], []), ([0, 1], [0, 1]), ([2], [2]), ([3], [3]), ([], []), ([], []), ([5, 6], [5, 6]), ([4, 7, 7], [4, 7]), ([8], [8]), ([9], [9]), ([9], [9]), ([10, 8, 0, 1, 2, 3, 4, 5, 6, 7, 8, 9, 10], [10]), ([11, 12, 0, 1, 2, 3, 4, 5, 6, 7, 8, 9, 10, 11, 12], [11])])
def laws_FnApart.B10 : List Nat := [0, 0, 3, 7, 15, 0, 0, 96, 255, 511, 1023, 1023, 2047, 8191]
theorem laws_FnApart.tab10 : rtab .any (opsOf Try.f3 10) = laws_FnApart.T10 := by kernel_rfl
theorem laws_FnApart.bits10 : waitsOk laws_FnApart.T10.2 laws_FnApart.B10 = true := by kernel_rfl
def laws_FnApart.T11 : Bool × List (List Nat × List Nat) := (true, [([], []), ([], []), ([0, 1], [0, 1]), ([2], [2]), ([3], [3]), ([], []), ([], []), ([5, 6], [5, 6]), ([4, 7, 7], [4, 7]), ([8], [8]), ([9], [9]), ([9], [9]), ([10, 8, 0, 1, 2, 3, 4, 5, 6, 7, 8, 9, 10], [10]), ([11, 12, 0, 1, 2, 3, 4, 5, 6, 7, 8, 9, 10, 11, 12], [11])])
def laws_FnApart.B11 : List Nat := [0, 0, 3, 7, 15, 0, 0, 96, 255, 511, 1023, 1023, 2047, 8191]
theorem laws_FnApart.tab11 : rtab .any (opsOf Try.f3 11) = laws_FnApart.T11 := by kernel_rfl
theorem laws_FnApart.bits11 : waitsOk laws_FnApart.T11.2 laws_FnApart.B11 = true := by kernel_rfl
def laws_FnApart.T16 : Bool × List (List Nat × List Nat) := (true, [([], []), ([], []), ([0, 1], [0, 1]), ([2], [2]), ([], []), ([], []), ([4, 5], [4, 5]), ([6], [6]), ([3, 7], [3, 7])])
def laws_FnApart.B16 : List Nat := [0, 0, 3, 7, 0, 0, 48, 112, 255]
theorem laws_FnApart.tab16 : rtab .any (opsOf Try.f3 16) = laws_FnApart.T16 := by kernel_rfl
theorem laws_FnApart.bits16 : waitsOk laws_FnApart.T16.2 laws_FnApart.B16 = true := by kernel_rfl
set_option maxHeartbeats 8000000 in
set_option maxRecDepth 100000 in
theorem laws_FnApart.calls (k : Nat) (a0 : Int) (A1 : Option Addr) (c1 : Nat) (l1 : List Int) (A2 : Option Addr) (c2 : Nat) (l2 : List Int) (r : Bool) (w : World) (hr1 : Kd.C (Kd.int .i64) w A1 l1.length l1) (hc1 : l1.length ≤ c1) (hr2 : Kd.C (Kd.int .i64) w A2 l2.length l2) (hc2 : l2.length ≤ c2) (h : laws_FnApart.f k a0 l1 l2 = some r) :
  Calls Try.prog 3 #[.int .i64 a0, .slice A1 l1.length c1, .slice A2 l2.length c2] w fun e w' => e = .returned (.bool r) ∧ Below w.heap.size w w' := by
 have hu29 := Try.underlying29
 have HR1 := Aside0.mk hr1
 have HC1 := Aside0.mk hc1
 clear hr1 hc1
 have HR2 := Aside0.mk hr2
 have HC2 := Aside0.mk hc2
 clear hr2 hc2
 have HB := Aside0.mk (Below.refl w.heap.size w)
 have H : (if (l1.length : Int) > 2147483647 then (laws_FnApart.j0 k a0 l1 l2 true) else (laws_FnApart.j0 k a0 l1 l2 (decide ((l2.length : Int) > 2147483647)))) = some r := h
 clear h
 have HC4 := Aside0.mk H
 clear H
 go_enter Try.func3, Try.ntmps3
 go_upto_region 1 with (fail)
 go_cut [25] (fun v25 wc => ∃ (kq : Nat) (x25_3 : Bool), v25 = .bool x25_3 ∧ Aside0 (laws_FnApart.j0 kq a0 l1 l2 x25_3 = some r) ∧ Aside0 (kq ≤ k) ∧ Aside0 (Below w.heap.size w wc))
 case first =>
  have H := HC4.out
  clear HC4
  by_cases c5 : (l1.length : Int) > 2147483647
  ·rw [if_pos c5] at H
   have c5b0 : decide (2147483647 < (l1.length : Int)) = true := decide_eq_true c5
   have c5b1 : decide (2147483647 < l1.length) = true := decide_eq_true (by omega)
   clear c5
   (first | rw [c5b0] | (simp only [i64_w, i32_w]; rw [c5b0]) | skip)
   have H' := Aside0.mk H
   clear H
   go_wp2
   go_meet
   case rel => exact ⟨_, (true), (by first | rfl | (simp; done) | (simp [*]; done)), H', ⟨by first | omega | exact Nat.le_refl _⟩, ⟨by repeat (first | (with_reducible first | exact HB.out | apply below_alloc | apply pw_below_drewN | apply below_drew1) | exact HB.out)⟩⟩
  ·rw [if_neg c5] at H
   have c5b0 : decide (2147483647 < (l1.length : Int)) = false := decide_eq_false c5
   have c5b1 : decide (2147483647 < l1.length) = false := decide_eq_false (by omega)
   clear c5
   (first | rw [c5b0] | (simp only [i64_w, i32_w]; rw [c5b0]) | skip)
   have H' := Aside0.mk H
   clear H
   go_wp2
   go_meet
   case rel => exact ⟨_, (decide ((l2.length : Int) > 2147483647)), (by first | rfl | (simp; done) | (simp [*]; done)), H', ⟨by first | omega | exact Nat.le_refl _⟩, ⟨by repeat (first | (with_reducible first | exact HB.out | apply below_alloc | apply pw_below_drewN | apply below_drew1) | exact HB.out)⟩⟩
 case rest =>
  clear HC4
  try clear c1
  try clear c2
  try clear p2
  try clear c3
  try clear c5
  try clear c5b0
  try clear c5b1
  obtain ⟨kq, x25_3, rfl, HA, HJ3, HB⟩ := hcut
  cases kq with
  | zero => exact absurd HA.out (by simp [laws_FnApart.j0])
  | succ kj3 =>
   have H := HA.out
   clear HA
   simp only [laws_FnApart.j0] at H
   by_cases c6 : x25_3 = true
   ·subst c6
    have H1 : (some true) = some r := by rw [if_pos rfl] at H; exact H
    clear H
    have H := H1
    clear H1
    obtain rfl := Option.some.inj H
    go_wp2
    go_ret
    exact ⟨by first | rfl | (simp [errW_none, errW_some] <;> rfl) | (simp [*, errW_none, errW_some] <;> rfl), by repeat (first | (with_reducible first | exact HB.out | apply below_alloc | apply pw_below_drewN | apply below_drew1) | exact HB.out)⟩
   ·replace c6 := Bool.eq_false_iff.mpr c6
    subst c6
    have H1 : ((spec_Layouts.f).bind fun t716 => (if a0 < 0 then (laws_FnApart.j1 kj3 a0 l1 l2 t716 true) else (if a0 ≥ (t716.length : Int) then (laws_FnApart.j1 kj3 a0 l1 l2 t716 true) else (if (l1.length : Int) > 20 then (laws_FnApart.j1 kj3 a0 l1 l2 t716 true) else (laws_FnApart.j1 kj3 a0 l1 l2 t716 (decide ((l2.length : Int) > 20))))))) = some r := by rw [if_neg (show ¬ (false = true) by decide)] at H; exact H
    clear H
    have H := H1
    clear H1
    replace H := Option.bind_eq_some_iff.mp H
    obtain ⟨t716, A70, H⟩ := H
    replace H : (if a0 < 0 then (laws_FnApart.j1 kj3 a0 l1 l2 t716 true) else (if a0 ≥ (t716.length : Int) then (laws_FnApart.j1 kj3 a0 l1 l2 t716 true) else (if (l1.length : Int) > 20 then (laws_FnApart.j1 kj3 a0 l1 l2 t716 true) else (laws_FnApart.j1 kj3 a0 l1 l2 t716 (decide ((l2.length : Int) > 20)))))) = some r := H
    have A7 := Aside0.mk A70
    clear A70
    have HC8 := Aside0.mk H
    clear H
    go_upto_region 4 with (first | ((with_reducible refine gate_callee (f := 11) rfl ?_); refine goesL_ (some 26) rfl rfl Try.func11 (by kernel_rfl) rfl #[] rfl (by (try simp only [List.map_toArray, List.map_cons, List.map_nil]); first | done | rfl | (simp only [List.length_drop, List.length_take]; rfl)) ?_; (with_reducible refine (spec_Layouts.calls  t716 _ A7.out).mono ?_); rintro e w9 ⟨v717, rfl, ho0, hb⟩; refine ⟨_, rfl, ?_⟩; have n0_ := Aside0.mk (Kd.R_lower ho0 (below_size (by repeat (first | (with_reducible first | exact HB.out | apply below_alloc | apply pw_below_drewN | apply below_drew1) | exact HB.out)))); have n1_ := Aside0.mk (below_step (by repeat (first | (with_reducible first | exact HB.out | apply below_alloc | apply pw_below_drewN | apply below_drew1) | exact HB.out)) hb); clear HB; have HO718 := n0_; have HB := n1_; clear n0_ n1_; (try clear hb); (try clear hb2); (try clear hk); (try clear hi); (try clear ho0)))
    (try simp only [Act.put, List.setIfInBounds_toArray, List.set_cons_zero, List.set_cons_succ])
    go_cut [44] (fun v44 wc => ∃ (kq : Nat) (x44_7 : Bool), v44 = .bool x44_7 ∧ Aside0 (laws_FnApart.j1 kq a0 l1 l2 t716 x44_7 = some r) ∧ Aside0 (kq ≤ kj3) ∧ Aside0 (Kd.R k29 29 wc w.heap.size (fun _ => True) v717 t716) ∧ Aside0 (Below w.heap.size w wc))
    case first =>
     have H := HC8.out
     clear HC8
     by_cases c10 : a0 < 0
     ·rw [if_pos c10] at H
      have c10b0 : decide (a0 < 0) = true := decide_eq_true c10
      clear c10
      (first | rw [c10b0] | (simp only [i64_w, i32_w]; rw [c10b0]) | skip)
      have H' := Aside0.mk H
      clear H
      go_wp2
      go_meet
      case rel => exact ⟨_, (true), (by first | rfl | (simp; done) | (simp [*]; done)), H', ⟨by have := HJ3.out; first | omega | exact Nat.le_refl _⟩, ⟨by (with_reducible repeat (first | apply Kd.R_alloc | apply Kd.R_drewN | apply Kd.R_drew)); exact HO718.out⟩, ⟨by repeat (first | (with_reducible first | exact HB.out | apply below_alloc | apply pw_below_drewN | apply below_drew1) | exact HB.out)⟩⟩
     ·rw [if_neg c10] at H
      have c10b0 : decide (a0 < 0) = false := decide_eq_false c10
      clear c10
      (first | rw [c10b0] | (simp only [i64_w, i32_w]; rw [c10b0]) | skip)
      by_cases c11 : a0 ≥ (t716.length : Int)
      ·rw [if_pos c11] at H
       have c11b0 : decide ((t716.length : Int) ≤ a0) = true := decide_eq_true c11
       clear c11
       have H' := Aside0.mk H
       clear H
       obtain ⟨Ao12, co12, eo12⟩ := Kd.R_slice HO718.out
       subst eo12
       go_wp2
       go_meet
       case rel => exact ⟨_, (true), (by first | rfl | (simp; done) | (simp [*]; done)), H', ⟨by have := HJ3.out; first | omega | exact Nat.le_refl _⟩, ⟨by (with_reducible repeat (first | apply Kd.R_alloc | apply Kd.R_drewN | apply Kd.R_drew)); exact HO718.out⟩, ⟨by repeat (first | (with_reducible first | exact HB.out | apply below_alloc | apply pw_below_drewN | apply below_drew1) | exact HB.out)⟩⟩
      ·rw [if_neg c11] at H
       have c11b0 : decide ((t716.length : Int) ≤ a0) = false := decide_eq_false c11
       clear c11
       by_cases c13 : (l1.length : Int) > 20
       ·rw [if_pos c13] at H
        have c13b0 : decide (20 < (l1.length : Int)) = true := decide_eq_true c13
        have c13b1 : decide (20 < l1.length) = true := decide_eq_true (by omega)
        clear c13
        have H' := Aside0.mk H
        clear H
        obtain ⟨Ao14, co14, eo14⟩ := Kd.R_slice HO718.out
        subst eo14
        go_wp2
        go_meet
        case rel => exact ⟨_, (true), (by first | rfl | (simp; done) | (simp [*]; done)), H', ⟨by have := HJ3.out; first | omega | exact Nat.le_refl _⟩, ⟨by (with_reducible repeat (first | apply Kd.R_alloc | apply Kd.R_drewN | apply Kd.R_drew)); exact HO718.out⟩, ⟨by repeat (first | (with_reducible first | exact HB.out | apply below_alloc | apply pw_below_drewN | apply below_drew1) | exact HB.out)⟩⟩
       ·rw [if_neg c13] at H
        have c13b0 : decide (20 < (l1.length : Int)) = false := decide_eq_false c13
        have c13b1 : decide (20 < l1.length) = false := decide_eq_false (by omega)
        clear c13
        have H' := Aside0.mk H
        clear H
        obtain ⟨Ao15, co15, eo15⟩ := Kd.R_slice HO718.out
        subst eo15
        go_wp2
        go_meet
        case rel => exact ⟨_, (decide ((l2.length : Int) > 20)), (by first | rfl | (simp; done) | (simp [*]; done)), H', ⟨by have := HJ3.out; first | omega | exact Nat.le_refl _⟩, ⟨by (with_reducible repeat (first | apply Kd.R_alloc | apply Kd.R_drewN | apply Kd.R_drew)); exact HO718.out⟩, ⟨by repeat (first | (with_reducible first | exact HB.out | apply below_alloc | apply pw_below_drewN | apply below_drew1) | exact HB.out)⟩⟩
    case rest =>
     clear HC8
     try clear c1
     try clear c2
     try clear p2
     try clear c3
     try clear c5
     try clear c5b0
     try clear c5b1
     try clear c6
     try clear c10
     try clear c10b0
     try clear c11
     try clear c11b0
     try clear c13
     try clear c13b0
     try clear c13b1
     try clear p2
     obtain ⟨kq, x44_7, rfl, HA, HJ7, HO_7, HB⟩ := hcut
     cases kq with
     | zero => exact absurd HA.out (by simp [laws_FnApart.j1])
     | succ kj7 =>
      have H := HA.out
      clear HA
      simp only [laws_FnApart.j1] at H
      by_cases c16 : x44_7 = true
      ·subst c16
       have H1 : (some true) = some r := by rw [if_pos rfl] at H; exact H
       clear H
       have H := H1
       clear H1
       obtain rfl := Option.some.inj H
       go_wp2
       go_ret
       exact ⟨by first | rfl | (simp [errW_none, errW_some] <;> rfl) | (simp [*, errW_none, errW_some] <;> rfl), by repeat (first | (with_reducible first | exact HB.out | apply below_alloc | apply pw_below_drewN | apply below_drew1) | exact HB.out)⟩
      ·replace c16 := Bool.eq_false_iff.mpr c16
       subst c16
       have H1 : (if 0 ≤ a0 then (if a0 < (t716.length : Int) then ((spec_Word.f kj7 ((rd_T29 t716 a0).f0) ((rd_T29 t716 a0).f1) 0 l1).bind fun bt720 => ((spec_Word.f kj7 ((rd_T29 t716 a0).f0) ((rd_T29 t716 a0).f1) 0 l2).bind fun bt723 => (if bt720.2 = true then (laws_FnApart.j2 kj7 a0 l1 l2 t716 (!bt723.2)) else (laws_FnApart.j2 kj7 a0 l1 l2 t716 true)))) else (none)) else (none)) = some r := by rw [if_neg (show ¬ (false = true) by decide)] at H; exact H
       clear H
       have H := H1
       clear H1
       by_cases c17 : 0 ≤ a0
       ·rw [if_pos c17] at H
        have c17b0 : decide (0 ≤ a0) = true := decide_eq_true c17
        clear c17
        by_cases c18 : a0 < (t716.length : Int)
        ·rw [if_pos c18] at H
         have c18b0 : decide (a0 < (t716.length : Int)) = true := decide_eq_true c18
         clear c18
         replace H := Option.bind_eq_some_iff.mp H
         obtain ⟨⟨t720, t721⟩, A190, H⟩ := H
         replace H : ((spec_Word.f kj7 ((rd_T29 t716 a0).f0) ((rd_T29 t716 a0).f1) 0 l2).bind fun bt723 => (if t721 = true then (laws_FnApart.j2 kj7 a0 l1 l2 t716 (!bt723.2)) else (laws_FnApart.j2 kj7 a0 l1 l2 t716 true))) = some r := H
         have A19 := Aside0.mk A190
         clear A190
         replace H := Option.bind_eq_some_iff.mp H
         obtain ⟨⟨t723, t724⟩, A200, H⟩ := H
         replace H : (if t721 = true then (laws_FnApart.j2 kj7 a0 l1 l2 t716 (!t724)) else (laws_FnApart.j2 kj7 a0 l1 l2 t716 true)) = some r := H
         have A20 := Aside0.mk A200
         clear A200
         have HC21 := Aside0.mk H
         clear H
         obtain ⟨Ao22, co22, eo22⟩ := Kd.R_slice HO_7.out
         subst eo22
         have p719 : 0 ≤ (a0 : Int) := of_decide_eq_true (by first | (with_reducible assumption) | assumption)
         have q719 : a0 < (t716.length : Int) := of_decide_eq_true (by first | (with_reducible assumption) | assumption)
         obtain ⟨ad719, e719, hx719_0, hx719_1⟩ := at_T29 (Kd.R_reads' HO_7.out).2.2 a0 p719 q719
         cases e719
         replace p719 := eq_true p719
         replace q719 := eq_true q719
         go_upto_region 8 with (first | ((with_reducible refine gate_callee (f := 12) rfl ?_); refine goesL_ (some 51) rfl rfl Try.func12 (by kernel_rfl) rfl #[.agg #[.string ((rd_T29 t716 a0).f0), .string ((rd_T29 t716 a0).f1)], .int .u32 0, .slice A1 l1.length c1] rfl (by (try simp only [List.map_toArray, List.map_cons, List.map_nil]); first | done | rfl | (simp only [List.length_drop, List.length_take]; rfl)) ?_; (with_reducible refine (spec_Word.calls kj7 ((rd_T29 t716 a0).f0) ((rd_T29 t716 a0).f1) 0 _ _ l1 t720 t721 _ ?side1 ?side2 A19.out).mono ?_); (case side1 => repeat (first | exact (Kd.C_below HR1.out HB.out) | (with_reducible refine Kd.C_alloc ?_ _) | (with_reducible refine Kd.C_drewN ?_ _) | (with_reducible refine Kd.C_drew ?_))); (case side2 => exact HC1.out); rintro e w23 ⟨rfl, hb⟩; refine ⟨_, rfl, ?_⟩; have n0_ := Aside0.mk (Kd.R_below (by (with_reducible repeat (first | apply Kd.R_alloc | apply Kd.R_drewN | apply Kd.R_drew)); exact HO_7.out) hb); have n1_ := Aside0.mk (below_step (by repeat (first | (with_reducible first | exact HB.out | apply below_alloc | apply pw_below_drewN | apply below_drew1) | exact HB.out)) hb); clear HO_7; clear HB; have HO_7 := n0_; have HB := n1_; clear n0_ n1_; (try clear hb); (try clear hb2); (try clear hk); (try clear hi); have p722 : 0 ≤ (a0 : Int) := of_decide_eq_true (by first | (with_reducible assumption) | assumption); have q722 : a0 < (t716.length : Int) := of_decide_eq_true (by first | (with_reducible assumption) | assumption); obtain ⟨ad722, e722, hx722_0, hx722_1⟩ := at_T29 (Kd.R_reads' HO_7.out).2.2 a0 p722 q722; obtain rfl : ad719 = ad722 := (by injection e722); replace p722 := eq_true p722; replace q722 := eq_true q722) | ((with_reducible refine gate_callee (f := 12) rfl ?_); refine goesL_ (some 60) rfl rfl Try.func12 (by kernel_rfl) rfl #[.agg #[.string ((rd_T29 t716 a0).f0), .string ((rd_T29 t716 a0).f1)], .int .u32 0, .slice A2 l2.length c2] rfl (by (try simp only [List.map_toArray, List.map_cons, List.map_nil]); first | done | rfl | (simp only [List.length_drop, List.length_take]; rfl)) ?_; (with_reducible refine (spec_Word.calls kj7 ((rd_T29 t716 a0).f0) ((rd_T29 t716 a0).f1) 0 _ _ l2 t723 t724 _ ?side1 ?side2 A20.out).mono ?_); (case side1 => repeat (first | exact (Kd.C_below HR2.out HB.out) | (with_reducible refine Kd.C_alloc ?_ _) | (with_reducible refine Kd.C_drewN ?_ _) | (with_reducible refine Kd.C_drew ?_))); (case side2 => exact HC2.out); rintro e w24 ⟨rfl, hb⟩; refine ⟨_, rfl, ?_⟩; have n0_ := Aside0.mk (Kd.R_below (by (with_reducible repeat (first | apply Kd.R_alloc | apply Kd.R_drewN | apply Kd.R_drew)); exact HO_7.out) hb); have n1_ := Aside0.mk (below_step (by repeat (first | (with_reducible first | exact HB.out | apply below_alloc | apply pw_below_drewN | apply below_drew1) | exact HB.out)) hb); clear HO_7; clear HB; have HO_7 := n0_; have HB := n1_; clear n0_ n1_; (try clear hb); (try clear hb2); (try clear hk); (try clear hi)))
         (try simp only [Act.put, List.setIfInBounds_toArray, List.set_cons_zero, List.set_cons_succ])
         go_cut [68] (fun v68 wc => ∃ (kq : Nat) (x68_20 : Bool), v68 = .bool x68_20 ∧ Aside0 (laws_FnApart.j2 kq a0 l1 l2 t716 x68_20 = some r) ∧ Aside0 (kq ≤ kj7) ∧ Aside0 (Kd.R k29 29 wc w.heap.size (fun _ => True) (.slice (some ad719) t716.length co22) t716) ∧ Aside0 (Below w.heap.size w wc))
         case first =>
          have H := HC21.out
          clear HC21
          by_cases c25 : t721 = true
          ·subst c25
           have H1 : (laws_FnApart.j2 kj7 a0 l1 l2 t716 (!t724)) = some r := by rw [if_pos rfl] at H; exact H
           clear H
           have H := H1
           clear H1
           have H' := Aside0.mk H
           clear H
           go_wp2
           go_meet
           case rel => exact ⟨_, (!t724), (by first | rfl | (simp; done) | (simp [*]; done)), H', ⟨by have := HJ3.out; have := HJ7.out; first | omega | exact Nat.le_refl _⟩, ⟨by (with_reducible repeat (first | apply Kd.R_alloc | apply Kd.R_drewN | apply Kd.R_drew)); exact HO_7.out⟩, ⟨by repeat (first | (with_reducible first | exact HB.out | apply below_alloc | apply pw_below_drewN | apply below_drew1) | exact HB.out)⟩⟩
          ·replace c25 := Bool.eq_false_iff.mpr c25
           subst c25
           have H1 : (laws_FnApart.j2 kj7 a0 l1 l2 t716 true) = some r := by rw [if_neg (show ¬ (false = true) by decide)] at H; exact H
           clear H
           have H := H1
           clear H1
           have H' := Aside0.mk H
           clear H
           go_wp2
           go_meet
           case rel => exact ⟨_, (true), (by first | rfl | (simp; done) | (simp [*]; done)), H', ⟨by have := HJ3.out; have := HJ7.out; first | omega | exact Nat.le_refl _⟩, ⟨by (with_reducible repeat (first | apply Kd.R_alloc | apply Kd.R_drewN | apply Kd.R_drew)); exact HO_7.out⟩, ⟨by repeat (first | (with_reducible first | exact HB.out | apply below_alloc | apply pw_below_drewN | apply below_drew1) | exact HB.out)⟩⟩
         case rest =>
          clear HC21
          try clear c1
          try clear c2
          try clear p2
          try clear c3
          try clear c5
          try clear c5b0
          try clear c5b1
          try clear c6
          try clear p7
          try clear q7
          try clear hx7
          try clear c10
          try clear c10b0
          try clear c11
          try clear c11b0
          try clear c12
          try clear c13
          try clear c13b0
          try clear c13b1
          try clear c16
          try clear c17
          try clear c17b0
          try clear c18
          try clear c18b0
          try clear c25
          try clear hx719_0
          try clear hx719_1
          try clear hx722_0
          try clear hx722_1
          try clear p2
          try clear p719
          try clear p722
          try clear q719
          try clear q722
          obtain ⟨kq, x68_20, rfl, HA, HJ20, HO_7, HB⟩ := hcut
          cases kq with
          | zero => exact absurd HA.out (by simp [laws_FnApart.j2])
          | succ kj20 =>
           have H := HA.out
           clear HA
           simp only [laws_FnApart.j2] at H
           by_cases c26 : x68_20 = true
           ·subst c26
            have H1 : (some true) = some r := by rw [if_pos rfl] at H; exact H
            clear H
            have H := H1
            clear H1
            obtain rfl := Option.some.inj H
            go_wp2
            go_ret
            exact ⟨by first | rfl | (simp [errW_none, errW_some] <;> rfl) | (simp [*, errW_none, errW_some] <;> rfl), by repeat (first | (with_reducible first | exact HB.out | apply below_alloc | apply pw_below_drewN | apply below_drew1) | exact HB.out)⟩
           ·replace c26 := Bool.eq_false_iff.mpr c26
            subst c26
            have H1 : (if 0 ≤ a0 then (if a0 < (t716.length : Int) then ((some (([0] : List Int) : List Int)).bind fun y726 => (if y726.length + l1.length < 17592186044416 then ((impl_Encode.f kj20 ((rd_T29 t716 a0).f0) (y726 ++ l1)).bind fun bt732 => ((some (([0] : List Int) : List Int)).bind fun y735 => (if y735.length + l2.length < 17592186044416 then ((impl_Encode.f kj20 ((rd_T29 t716 a0).f0) (y735 ++ l2)).bind fun bt741 => (laws_FnApart.l0 kj20 l1 l2 bt732.1 bt732.2 bt741.1 bt741.2 true 0)) else (none)))) else (none))) else (none)) else (none)) = some r := by rw [if_neg (show ¬ (false = true) by decide)] at H; exact H
            clear H
            have H := H1
            clear H1
            by_cases c27 : 0 ≤ a0
            ·rw [if_pos c27] at H
             have c27b0 : decide (0 ≤ a0) = true := decide_eq_true c27
             clear c27
             by_cases c28 : a0 < (t716.length : Int)
             ·rw [if_pos c28] at H
              have c28b0 : decide (a0 < (t716.length : Int)) = true := decide_eq_true c28
              clear c28
              obtain ⟨y726, hy726⟩ : ∃ y_ : List Int, y_ = (([0] : List Int)) := ⟨_, rfl⟩
              replace H : (if y726.length + l1.length < 17592186044416 then ((impl_Encode.f kj20 ((rd_T29 t716 a0).f0) (y726 ++ l1)).bind fun bt732 => ((some (([0] : List Int) : List Int)).bind fun y735 => (if y735.length + l2.length < 17592186044416 then ((impl_Encode.f kj20 ((rd_T29 t716 a0).f0) (y735 ++ l2)).bind fun bt741 => (laws_FnApart.l0 kj20 l1 l2 bt732.1 bt732.2 bt741.1 bt741.2 true 0)) else (none)))) else (none)) = some r := by first | (rw [hy726]; with_reducible exact H) | (have H2_ := (Option.bind_some _ _).symm.trans H; rw [hy726]; with_reducible exact H2_) | (have H2_ := (Option.bind_some _ _).symm.trans H; with_reducible exact H2_) | with_reducible exact H | (rw [hy726]; exact H) | exact H
              have Ny726 := Aside0.mk hy726
              clear hy726
              by_cases c29 : y726.length + l1.length < 17592186044416
              ·rw [if_pos c29] at H
               have LMc29 := Aside0.mk c29
               clear c29
               obtain ⟨y729, hy729⟩ : ∃ y_ : List Int, y_ = (y726 ++ l1) := ⟨_, rfl⟩
               replace H : ((impl_Encode.f kj20 ((rd_T29 t716 a0).f0) y729).bind fun bt732 => ((some (([0] : List Int) : List Int)).bind fun y735 => (if y735.length + l2.length < 17592186044416 then ((impl_Encode.f kj20 ((rd_T29 t716 a0).f0) (y735 ++ l2)).bind fun bt741 => (laws_FnApart.l0 kj20 l1 l2 bt732.1 bt732.2 bt741.1 bt741.2 true 0)) else (none)))) = some r := by first | (rw [hy729]; with_reducible exact H) | (have H2_ := (Option.bind_some _ _).symm.trans H; rw [hy729]; with_reducible exact H2_) | (have H2_ := (Option.bind_some _ _).symm.trans H; with_reducible exact H2_) | with_reducible exact H | (rw [hy729]; exact H) | exact H
               have Ny729 := Aside0.mk hy729
               clear hy729
               replace H := Option.bind_eq_some_iff.mp H
               obtain ⟨⟨t732, t733⟩, A300, H⟩ := H
               replace H : ((some (([0] : List Int) : List Int)).bind fun y735 => (if y735.length + l2.length < 17592186044416 then ((impl_Encode.f kj20 ((rd_T29 t716 a0).f0) (y735 ++ l2)).bind fun bt741 => (laws_FnApart.l0 kj20 l1 l2 t732 t733 bt741.1 bt741.2 true 0)) else (none))) = some r := H
               have A30 := Aside0.mk A300
               clear A300
               obtain ⟨y735, hy735⟩ : ∃ y_ : List Int, y_ = (([0] : List Int)) := ⟨_, rfl⟩
               replace H : (if y735.length + l2.length < 17592186044416 then ((impl_Encode.f kj20 ((rd_T29 t716 a0).f0) (y735 ++ l2)).bind fun bt741 => (laws_FnApart.l0 kj20 l1 l2 t732 t733 bt741.1 bt741.2 true 0)) else (none)) = some r := by first | (rw [hy735]; with_reducible exact H) | (have H2_ := (Option.bind_some _ _).symm.trans H; rw [hy735]; with_reducible exact H2_) | (have H2_ := (Option.bind_some _ _).symm.trans H; with_reducible exact H2_) | with_reducible exact H | (rw [hy735]; exact H) | exact H
               have Ny735 := Aside0.mk hy735
               clear hy735
               by_cases c31 : y735.length + l2.length < 17592186044416
               ·rw [if_pos c31] at H
                have LMc31 := Aside0.mk c31
                clear c31
                obtain ⟨y738, hy738⟩ : ∃ y_ : List Int, y_ = (y735 ++ l2) := ⟨_, rfl⟩
                replace H : ((impl_Encode.f kj20 ((rd_T29 t716 a0).f0) y738).bind fun bt741 => (laws_FnApart.l0 kj20 l1 l2 t732 t733 bt741.1 bt741.2 true 0)) = some r := by first | (rw [hy738]; with_reducible exact H) | (have H2_ := (Option.bind_some _ _).symm.trans H; rw [hy738]; with_reducible exact H2_) | (have H2_ := (Option.bind_some _ _).symm.trans H; with_reducible exact H2_) | with_reducible exact H | (rw [hy738]; exact H) | exact H
                have Ny738 := Aside0.mk hy738
                clear hy738
                replace H := Option.bind_eq_some_iff.mp H
                obtain ⟨⟨t741, t742⟩, A320, H⟩ := H
                replace H : (laws_FnApart.l0 kj20 l1 l2 t732 t733 t741 t742 true 0) = some r := H
                have A32 := Aside0.mk A320
                clear A320
                have H' := Aside0.mk H
                clear H
                try go_wp2
                have n0_ := Aside0.mk (Kd.R_drew HO_7.out)
                have n1_ := Aside0.mk (below_drew1 HB.out)
                clear HO_7
                clear HB
                have HO_7 := n0_
                have HB := n1_
                clear n0_ n1_
                have p725 : 0 ≤ (a0 : Int) := of_decide_eq_true (by first | (with_reducible assumption) | assumption)
                have q725 : a0 < (t716.length : Int) := of_decide_eq_true (by first | (with_reducible assumption) | assumption)
                obtain ⟨ad725, e725, hx725_0, hx725_1⟩ := at_T29 (Kd.R_reads' HO_7.out).2.2 a0 p725 q725
                obtain rfl : ad719 = ad725 := (by injection e725)
                replace p725 := eq_true p725
                replace q725 := eq_true q725
                refine start_ (n := 14) (S := fun w' => w'.cell? (ad719.add ((a0).toNat * 2)) = some (.string ((rd_T29 t716 a0).f0)) ∧ w'.cell? ⟨(ad719.add ((a0).toNat * 2)).block, (ad719.add ((a0).toNat * 2)).off + 1, none⟩ = some (.string ((rd_T29 t716 a0).f1))) (ds := []) #[false, false, false, false, false, false, false, false, false, false, false, false, false, false] (by kernel_rfl) rfl rfl ⟨hx725_0, hx725_1⟩ (fun hHeld => ?_); refine with_tabW laws_FnApart.tab10 laws_FnApart.bits10 (fun HT_ HW_ => ?_)
                generalize wc.drew = w33 at HO_7 HB hx725_0 hx725_1 hHeld ⊢
                refine pure_ (i := 0) (N := some 70) (v := ?_) (a' := ?_) #[true, false, false, false, false, false, false, false, false, false, false, false, false, false] rfl rfl (any_of HT_.out (by kernel_rfl)) (fun _ _ _ h => h) (Or.inl ⟨by rfl, ?_⟩) ?_ ?_
                rotate_left
                ·intro w'
                 go_simp
                 with_reducible rfl
                rotate_left
                ·simp only [Act.put, List.setIfInBounds_toArray, List.set_cons_zero, List.set_cons_succ, i64_w, i32_w]
                 rfl
                refine pure_ (i := 1) (N := some 71) (v := ?_) (a' := ?_) #[true, true, false, false, false, false, false, false, false, false, false, false, false, false] rfl rfl (any_of HT_.out (by kernel_rfl)) (fun _ _ _ h => h) (Or.inl ⟨by rfl, ?_⟩) ?_ ?_
                rotate_left
                ·intro w'
                 go_simp
                 with_reducible rfl
                rotate_left
                ·simp only [Act.put, List.setIfInBounds_toArray, List.set_cons_zero, List.set_cons_succ, i64_w, i32_w]
                 rfl
                refine pure_ (i := 2) (N := some 72) (v := ?_) (a' := ?_) #[true, true, true, false, false, false, false, false, false, false, false, false, false, false] rfl rfl (any_of HT_.out (by kernel_rfl)) (fun _ _ _ h => h) (Or.inl ⟨by rfl, ?_⟩) ?_ ?_
                rotate_left
                ·intro w'
                 go_simp
                 with_reducible rfl
                rotate_left
                ·simp only [Act.put, List.setIfInBounds_toArray, List.set_cons_zero, List.set_cons_succ, i64_w, i32_w]
                 rfl
                refine pure_ (i := 3) (N := some 73) (v := ?_) (a' := ?_) #[true, true, true, true, false, false, false, false, false, false, false, false, false, false] rfl rfl (any_of HT_.out (by kernel_rfl)) (fun _ _ _ h => h) (Or.inl ⟨by rfl, ?_⟩) ?_ ?_
                rotate_left
                ·intro w'
                 go_simp
                 with_reducible rfl
                rotate_left
                ·simp only [Act.put, List.setIfInBounds_toArray, List.set_cons_zero, List.set_cons_succ, i64_w, i32_w]
                 rfl
                refine pure_ (i := 6) (N := some 76) (v := ?_) (a' := ?_) #[true, true, true, true, false, false, true, false, false, false, false, false, false, false] rfl rfl (any_of HT_.out (by kernel_rfl)) (fun _ _ _ h => h) (Or.inl ⟨by rfl, ?_⟩) ?_ ?_
                rotate_left
                ·intro w'
                 go_simp
                 with_reducible rfl
                rotate_left
                ·simp only [Act.put, List.setIfInBounds_toArray, List.set_cons_zero, List.set_cons_succ, i64_w, i32_w]
                 rfl
                refine take_ (i := 4) (N := some 74) (v := ?_) (a' := ?_) #[true, true, true, true, true, false, true, false, false, false, false, false, false, false] rfl rfl (take_ofW HT_.out HW_.out (by kernel_rfl)) (fun _ _ _ h => h) (Or.inl ⟨by rfl, ?_⟩) hHeld ?_ ?_
                rotate_left
                ·rintro w' ⟨s0, s1⟩
                 go_simp
                 with_reducible rfl
                rotate_left
                ·simp only [Act.put, List.setIfInBounds_toArray, List.set_cons_zero, List.set_cons_succ, i64_w, i32_w]
                 rfl
                refine one_ (i := 5) (N := some 75) #[true, true, true, true, true, true, true, false, false, false, false, false, false, false] rfl rfl (one_of HT_.out (by kernel_rfl)) (by decide) (fun K hK => ?_)
                refine Kd.R_lit_step (Kd.int .i64) _ 3 ?hg (N := 75) ?hd (xs := ([0] : List Int)) (inner := [.int .i64 0]) (ok := fun _ => True) (okp := fun _ => True) ?hr ?hp (fun _ hk => hk) trivial (Below.refl _ _) (Nat.le_refl _) (by simp) ?_; (case hd => rfl); (case hg => rfl); (case hr => first | (go_simp; done) | (go_simp; rfl)); (case hp => exact (Reps.one (show Kd.M (Kd.int .i64) _ _ _ 0 [.int .i64 0] from rfl) (Reps.none _ _)))
                intro v727 w34 ho35 hb hg_ hnew_
                have HS0_ := (hb.cell (World.block_lt_of_cell? _ _ (hHeld.1))).trans (hHeld.1)
                have HS1_ := (hb.cell (World.block_lt_of_cell? _ _ (hHeld.2))).trans (hHeld.2)
                clear hg_ hnew_
                (first | rw [← Ny726.out] at ho35 | (simp only [Int.reduceToNat] at ho35; rw [← Ny726.out] at ho35))
                have n0_ := Aside0.mk (Kd.R_below (by (with_reducible repeat (first | apply Kd.R_alloc | apply Kd.R_drewN | apply Kd.R_drew)); exact HO_7.out) hb)
                have n1_ := Aside0.mk (Kd.R_lower ho35 (below_size (by repeat (first | (with_reducible first | exact HB.out | apply below_alloc | apply pw_below_drewN | apply below_drew1) | exact HB.out))))
                have n2_ := Aside0.mk (below_step (by repeat (first | (with_reducible first | exact HB.out | apply below_alloc | apply pw_below_drewN | apply below_drew1) | exact HB.out)) hb)
                clear HO_7
                clear HB
                have HO_7 := n0_
                have HO728 := n1_
                have HB := n2_
                clear n0_ n1_ n2_
                clear hb ho35
                refine hK.out _ _ ⟨HS0_, HS1_⟩ (fun hHeld => ?_)
                clear hK K
                refine norm_ (a' := ?_) ?_ ?_
                rotate_left
                ·show Act.put _ (some 75) _ = _
                 simp only [Act.put, List.setIfInBounds_toArray, List.set_cons_zero, List.set_cons_succ, i64_w, i32_w]
                 rfl
                refine one_ (i := 7) (N := some 77) #[true, true, true, true, true, true, true, true, false, false, false, false, false, false] rfl rfl (one_of HT_.out (by kernel_rfl)) (by decide) (fun K hK => ?_)
                refine Kd.R_append_rows_step (Kd.int .i64) (w0 := w) w.heap.size (by rfl) (.tmp 75) (.tmp 76) 22 3 (.int .i64 0) 8 rfl Try.underlying22 info3 rfl (by decide) (by omega) v727 y726 l1 _ _ _ (fun _ => True) (fun _ => False) rfl rfl ?aO ?aR (fun _ _ h => h) (fun _ h => h.elim) ?aF ?aB ?aS ?aL ?_
                (case aR => repeat (first | exact (Kd.C_below HR1.out HB.out) | (with_reducible refine Kd.C_alloc ?_ _) | (with_reducible refine Kd.C_drewN ?_ _) | (with_reducible refine Kd.C_drew ?_)))
                (case aB => exact (by repeat (first | (with_reducible first | exact HB.out | apply below_alloc | apply pw_below_drewN | apply below_drew1) | exact HB.out)))
                (case aF => exact (fun _ _ => trivial))
                (case aO => exact (by (with_reducible repeat (first | apply Kd.R_alloc | apply Kd.R_drewN | apply Kd.R_drew)); exact HO728.out))
                (case aS => exact (below_size (by repeat (first | (with_reducible first | exact HB.out | apply below_alloc | apply pw_below_drewN | apply below_drew1) | exact HB.out))))
                (case aL => have := LMc29.out; omega)
                intro v730 w36 ho hb hg hat
                rw [← Ny729.out] at ho
                have n0_ := Aside0.mk (Kd.R_over' (by (with_reducible repeat (first | apply Kd.R_alloc | apply Kd.R_drewN | apply Kd.R_drew)); exact HO_7.out) (Kd.R_typed (by (with_reducible repeat (first | apply Kd.R_alloc | apply Kd.R_drewN | apply Kd.R_drew)); exact HO728.out)) (by decide) hg)
                obtain ⟨adH_, eH_, HS0_, HS1_⟩ := at_T29 (Kd.R_reads' n0_.out).2.2 a0 (of_eq_true p725) (of_eq_true q725)
                obtain rfl : ad719 = adH_ := (by injection eH_)
                have n1_ := Aside0.mk (hb)
                have n2_ := Aside0.mk (ho)
                clear HO_7
                clear HB
                clear HO728
                have HO_7 := n0_
                have HB := n1_
                have HO731 := n2_
                clear n0_ n1_ n2_
                clear ho hb hg hat
                obtain ⟨Ao37, co37, eo37⟩ := Kd.R_slice HO731.out
                (first | subst eo37 | (injection eo37 with f1_ f2_ f3_; have f4_ := f1_.symm; have f5_ := f3_.symm; clear f1_ f2_ f3_; subst f4_; subst f5_))
                refine hK.out _ _ ⟨HS0_, HS1_⟩ (fun hHeld => ?_)
                clear hK K
                refine norm_ (a' := ?_) ?_ ?_
                rotate_left
                ·show Act.put _ (some 77) _ = _
                 simp only [Act.put, List.setIfInBounds_toArray, List.set_cons_zero, List.set_cons_succ, i64_w, i32_w]
                 rfl
                refine one_ (i := 8) (N := some 78) #[true, true, true, true, true, true, true, true, true, false, false, false, false, false] rfl rfl (one_of HT_.out (by kernel_rfl)) (by decide) (fun K hK => ?_)
                refine goes_ Try.func13 (by kernel_rfl) rfl #[.string ((rd_T29 t716 a0).f0), .slice Ao37 y729.length co37] (by rfl) rfl rfl (by (try simp only [List.map_toArray, List.map_cons, List.map_nil]); first | done | rfl | (simp only [List.length_drop, List.length_take]; rfl)) ?_
                with_reducible refine (impl_Encode.calls kj20 ((rd_T29 t716 a0).f0) _ _ y729 t732 t733 _ ?side1 ?side2 A30.out).mono ?_
                (case side1 => repeat (first | exact (Kd.R_reads' HO731.out).2.2 | (with_reducible refine Kd.C_alloc ?_ _) | (with_reducible refine Kd.C_drewN ?_ _) | (with_reducible refine Kd.C_drew ?_)))
                (case side2 => exact (Kd.R_reads' HO731.out).2.1)
                rintro e w38 ⟨rfl, hb⟩
                have HS0_ := (hb.cell (World.block_lt_of_cell? _ _ (hHeld.1))).trans (hHeld.1)
                have HS1_ := (hb.cell (World.block_lt_of_cell? _ _ (hHeld.2))).trans (hHeld.2)
                refine ⟨_, rfl, ?_⟩
                have n0_ := Aside0.mk (Kd.R_below (by (with_reducible repeat (first | apply Kd.R_alloc | apply Kd.R_drewN | apply Kd.R_drew)); exact HO_7.out) hb)
                have n1_ := Aside0.mk (Kd.R_below (by (with_reducible repeat (first | apply Kd.R_alloc | apply Kd.R_drewN | apply Kd.R_drew)); exact HO731.out) hb)
                have n2_ := Aside0.mk (below_step (by repeat (first | (with_reducible first | exact HB.out | apply below_alloc | apply pw_below_drewN | apply below_drew1) | exact HB.out)) hb)
                clear HO_7
                clear HO731
                clear HB
                have HO_7 := n0_
                have HO731 := n1_
                have HB := n2_
                clear n0_ n1_ n2_
                (try clear hb)
                (try clear hb2)
                (try clear hk)
                (try clear hi)
                refine hK.out _ _ ⟨HS0_, HS1_⟩ (fun hHeld => ?_)
                clear hK K
                refine norm_ (a' := ?_) ?_ ?_
                rotate_left
                ·show Act.put _ (some 78) _ = _
                 simp only [Act.put, List.setIfInBounds_toArray, List.set_cons_zero, List.set_cons_succ, i64_w, i32_w]
                 rfl
                refine pure_ (i := 9) (N := some 69) (v := ?_) (a' := ?_) #[true, true, true, true, true, true, true, true, true, true, false, false, false, false] rfl rfl (any_of HT_.out (by kernel_rfl)) (fun _ _ _ h => h) (Or.inl ⟨by rfl, ?_⟩) ?_ ?_
                rotate_left
                ·intro w'
                 go_simp
                 with_reducible rfl
                rotate_left
                ·simp only [Act.put, List.setIfInBounds_toArray, List.set_cons_zero, List.set_cons_succ, i64_w, i32_w]
                 rfl
                refine pure_ (i := 10) (N := some 79) (v := ?_) (a' := ?_) #[true, true, true, true, true, true, true, true, true, true, true, false, false, false] rfl rfl (any_of HT_.out (by kernel_rfl)) (fun _ _ _ h => h) (Or.inl ⟨by rfl, ?_⟩) ?_ ?_
                rotate_left
                ·intro w'
                 go_simp
                 with_reducible rfl
                rotate_left
                ·simp only [Act.put, List.setIfInBounds_toArray, List.set_cons_zero, List.set_cons_succ, i64_w, i32_w]
                 rfl
                refine pure_ (i := 11) (N := some 80) (v := ?_) (a' := ?_) #[true, true, true, true, true, true, true, true, true, true, true, true, false, false] rfl rfl (any_of HT_.out (by kernel_rfl)) (fun _ _ _ h => h) (Or.inl ⟨by rfl, ?_⟩) ?_ ?_
                rotate_left
                ·intro w'
                 go_simp
                 with_reducible rfl
                rotate_left
                ·simp only [Act.put, List.setIfInBounds_toArray, List.set_cons_zero, List.set_cons_succ, i64_w, i32_w]
                 rfl
                refine pure_ (i := 12) (N := some 12) (v := ?_) (a' := ?_) #[true, true, true, true, true, true, true, true, true, true, true, true, true, false] rfl rfl (any_of HT_.out (by kernel_rfl)) (fun _ _ _ h => h) (Or.inl ⟨by rfl, ?_⟩) ?_ ?_
                rotate_left
                ·intro w'
                 go_simp
                 with_reducible rfl
                rotate_left
                ·simp only [Act.put, List.setIfInBounds_toArray, List.set_cons_zero, List.set_cons_succ, i64_w, i32_w]
                 rfl
                refine pure_ (i := 13) (N := some 13) (v := ?_) (a' := ?_) #[true, true, true, true, true, true, true, true, true, true, true, true, true, true] rfl rfl (any_of HT_.out (by kernel_rfl)) (fun _ _ _ h => h) (Or.inl ⟨by rfl, ?_⟩) ?_ ?_
                rotate_left
                ·intro w'
                 go_simp
                 with_reducible rfl
                rotate_left
                ·simp only [Act.put, List.setIfInBounds_toArray, List.set_cons_zero, List.set_cons_succ, i64_w, i32_w]
                 rfl
                refine done_ (done_of HT_.out (by kernel_rfl)) ?_
                try go_wp2
                have n0_ := Aside0.mk (Kd.R_drew HO_7.out)
                have n1_ := Aside0.mk (Kd.R_drew HO731.out)
                have n2_ := Aside0.mk (below_drew1 HB.out)
                clear HO_7
                clear HO731
                clear HB
                have HO_7 := n0_
                have HO731 := n1_
                have HB := n2_
                clear n0_ n1_ n2_
                have p734 : 0 ≤ (a0 : Int) := of_decide_eq_true (by first | (with_reducible assumption) | assumption)
                have q734 : a0 < (t716.length : Int) := of_decide_eq_true (by first | (with_reducible assumption) | assumption)
                obtain ⟨ad734, e734, hx734_0, hx734_1⟩ := at_T29 (Kd.R_reads' HO_7.out).2.2 a0 p734 q734
                obtain rfl : ad719 = ad734 := (by injection e734)
                replace p734 := eq_true p734
                replace q734 := eq_true q734
                refine start_ (n := 14) (S := fun w' => w'.cell? (ad719.add ((a0).toNat * 2)) = some (.string ((rd_T29 t716 a0).f0)) ∧ w'.cell? ⟨(ad719.add ((a0).toNat * 2)).block, (ad719.add ((a0).toNat * 2)).off + 1, none⟩ = some (.string ((rd_T29 t716 a0).f1))) (ds := []) #[false, false, false, false, false, false, false, false, false, false, false, false, false, false] (by kernel_rfl) rfl rfl ⟨hx734_0, hx734_1⟩ (fun hHeld => ?_); refine with_tabW laws_FnApart.tab11 laws_FnApart.bits11 (fun HT_ HW_ => ?_)
                generalize w38.drew = w39 at HO_7 HO731 HB hx734_0 hx734_1 hHeld ⊢
                refine pure_ (i := 0) (N := some 82) (v := ?_) (a' := ?_) #[true, false, false, false, false, false, false, false, false, false, false, false, false, false] rfl rfl (any_of HT_.out (by kernel_rfl)) (fun _ _ _ h => h) (Or.inl ⟨by rfl, ?_⟩) ?_ ?_
                rotate_left
                ·intro w'
                 go_simp
                 with_reducible rfl
                rotate_left
                ·simp only [Act.put, List.setIfInBounds_toArray, List.set_cons_zero, List.set_cons_succ, i64_w, i32_w]
                 rfl
                refine pure_ (i := 1) (N := some 83) (v := ?_) (a' := ?_) #[true, true, false, false, false, false, false, false, false, false, false, false, false, false] rfl rfl (any_of HT_.out (by kernel_rfl)) (fun _ _ _ h => h) (Or.inl ⟨by rfl, ?_⟩) ?_ ?_
                rotate_left
                ·intro w'
                 go_simp
                 with_reducible rfl
                rotate_left
                ·simp only [Act.put, List.setIfInBounds_toArray, List.set_cons_zero, List.set_cons_succ, i64_w, i32_w]
                 rfl
                refine pure_ (i := 2) (N := some 84) (v := ?_) (a' := ?_) #[true, true, true, false, false, false, false, false, false, false, false, false, false, false] rfl rfl (any_of HT_.out (by kernel_rfl)) (fun _ _ _ h => h) (Or.inl ⟨by rfl, ?_⟩) ?_ ?_
                rotate_left
                ·intro w'
                 go_simp
                 with_reducible rfl
                rotate_left
                ·simp only [Act.put, List.setIfInBounds_toArray, List.set_cons_zero, List.set_cons_succ, i64_w, i32_w]
                 rfl
                refine pure_ (i := 3) (N := some 85) (v := ?_) (a' := ?_) #[true, true, true, true, false, false, false, false, false, false, false, false, false, false] rfl rfl (any_of HT_.out (by kernel_rfl)) (fun _ _ _ h => h) (Or.inl ⟨by rfl, ?_⟩) ?_ ?_
                rotate_left
                ·intro w'
                 go_simp
                 with_reducible rfl
                rotate_left
                ·simp only [Act.put, List.setIfInBounds_toArray, List.set_cons_zero, List.set_cons_succ, i64_w, i32_w]
                 rfl
                refine pure_ (i := 6) (N := some 88) (v := ?_) (a' := ?_) #[true, true, true, true, false, false, true, false, false, false, false, false, false, false] rfl rfl (any_of HT_.out (by kernel_rfl)) (fun _ _ _ h => h) (Or.inl ⟨by rfl, ?_⟩) ?_ ?_
                rotate_left
                ·intro w'
                 go_simp
                 with_reducible rfl
                rotate_left
                ·simp only [Act.put, List.setIfInBounds_toArray, List.set_cons_zero, List.set_cons_succ, i64_w, i32_w]
                 rfl
                refine take_ (i := 4) (N := some 86) (v := ?_) (a' := ?_) #[true, true, true, true, true, false, true, false, false, false, false, false, false, false] rfl rfl (take_ofW HT_.out HW_.out (by kernel_rfl)) (fun _ _ _ h => h) (Or.inl ⟨by rfl, ?_⟩) hHeld ?_ ?_
                rotate_left
                ·rintro w' ⟨s0, s1⟩
                 go_simp
                 with_reducible rfl
                rotate_left
                ·simp only [Act.put, List.setIfInBounds_toArray, List.set_cons_zero, List.set_cons_succ, i64_w, i32_w]
                 rfl
                refine one_ (i := 5) (N := some 87) #[true, true, true, true, true, true, true, false, false, false, false, false, false, false] rfl rfl (one_of HT_.out (by kernel_rfl)) (by decide) (fun K hK => ?_)
                refine Kd.R_lit_step (Kd.int .i64) _ 3 ?hg (N := 87) ?hd (xs := ([0] : List Int)) (inner := [.int .i64 0]) (ok := fun _ => True) (okp := fun _ => True) ?hr ?hp (fun _ hk => hk) trivial (Below.refl _ _) (Nat.le_refl _) (by simp) ?_; (case hd => rfl); (case hg => rfl); (case hr => first | (go_simp; done) | (go_simp; rfl)); (case hp => exact (Reps.one (show Kd.M (Kd.int .i64) _ _ _ 0 [.int .i64 0] from rfl) (Reps.none _ _)))
                intro v736 w40 ho41 hb hg_ hnew_
                have HS0_ := (hb.cell (World.block_lt_of_cell? _ _ (hHeld.1))).trans (hHeld.1)
                have HS1_ := (hb.cell (World.block_lt_of_cell? _ _ (hHeld.2))).trans (hHeld.2)
                clear hg_ hnew_
                (first | rw [← Ny735.out] at ho41 | (simp only [Int.reduceToNat] at ho41; rw [← Ny735.out] at ho41))
                have n0_ := Aside0.mk (Kd.R_below (by (with_reducible repeat (first | apply Kd.R_alloc | apply Kd.R_drewN | apply Kd.R_drew)); exact HO_7.out) hb)
                have n1_ := Aside0.mk (Kd.R_elder' (by (with_reducible repeat (first | apply Kd.R_alloc | apply Kd.R_drewN | apply Kd.R_drew)); exact HO731.out) (Kd.R_base ho41) hb)
                have n2_ := Aside0.mk (Kd.R_lower (Kd.R_new' ho41 (Kd.R_lt (by (with_reducible repeat (first | apply Kd.R_alloc | apply Kd.R_drewN | apply Kd.R_drew)); exact HO731.out))) (below_size (by repeat (first | (with_reducible first | exact HB.out | apply below_alloc | apply pw_below_drewN | apply below_drew1) | exact HB.out))))
                have n3_ := Aside0.mk (below_step (by repeat (first | (with_reducible first | exact HB.out | apply below_alloc | apply pw_below_drewN | apply below_drew1) | exact HB.out)) hb)
                clear HO_7
                clear HO731
                clear HB
                have HO_7 := n0_
                have HO731 := n1_
                have HO737 := n2_
                have HB := n3_
                clear n0_ n1_ n2_ n3_
                clear hb ho41
                refine hK.out _ _ ⟨HS0_, HS1_⟩ (fun hHeld => ?_)
                clear hK K
                refine norm_ (a' := ?_) ?_ ?_
                rotate_left
                ·show Act.put _ (some 87) _ = _
                 simp only [Act.put, List.setIfInBounds_toArray, List.set_cons_zero, List.set_cons_succ, i64_w, i32_w]
                 rfl
                refine one_ (i := 7) (N := some 89) #[true, true, true, true, true, true, true, true, false, false, false, false, false, false] rfl rfl (one_of HT_.out (by kernel_rfl)) (by decide) (fun K hK => ?_)
                refine Kd.R_append_rows_step (Kd.int .i64) (w0 := w) w.heap.size (by rfl) (.tmp 87) (.tmp 88) 22 3 (.int .i64 0) 8 rfl Try.underlying22 info3 rfl (by decide) (by omega) v736 y735 l2 _ _ _ (fun k_ => some k_ ≠ (.slice Ao37 y729.length co37 : Value).ownBlock) (fun _ => False) rfl rfl ?aO ?aR (fun _ _ h => h) (fun _ h => h.elim) ?aF ?aB ?aS ?aL ?_
                (case aR => repeat (first | exact (Kd.C_below HR2.out HB.out) | (with_reducible refine Kd.C_alloc ?_ _) | (with_reducible refine Kd.C_drewN ?_ _) | (with_reducible refine Kd.C_drew ?_)))
                (case aB => exact (by repeat (first | (with_reducible first | exact HB.out | apply below_alloc | apply pw_below_drewN | apply below_drew1) | exact HB.out)))
                (case aF => exact (fun k_ hk => Kd.fresh' (Kd.R_lt (by (with_reducible repeat (first | apply Kd.R_alloc | apply Kd.R_drewN | apply Kd.R_drew)); exact HO731.out)) k_ hk))
                (case aO => exact (by (with_reducible repeat (first | apply Kd.R_alloc | apply Kd.R_drewN | apply Kd.R_drew)); exact Kd.R_mono HO737.out (fun _ hk => hk.2)))
                (case aS => exact (below_size (by repeat (first | (with_reducible first | exact HB.out | apply below_alloc | apply pw_below_drewN | apply below_drew1) | exact HB.out))))
                (case aL => have := LMc31.out; omega)
                intro v739 w42 ho hb hg hat
                rw [← Ny738.out] at ho
                have n0_ := Aside0.mk (Kd.R_over' (by (with_reducible repeat (first | apply Kd.R_alloc | apply Kd.R_drewN | apply Kd.R_drew)); exact HO_7.out) (Kd.R_typed (by (with_reducible repeat (first | apply Kd.R_alloc | apply Kd.R_drewN | apply Kd.R_drew)); exact HO737.out)) (by decide) hg)
                obtain ⟨adH_, eH_, HS0_, HS1_⟩ := at_T29 (Kd.R_reads' n0_.out).2.2 a0 (of_eq_true p734) (of_eq_true q734)
                obtain rfl : ad719 = adH_ := (by injection eH_)
                have n1_ := Aside0.mk (Kd.R_after (ok := (fun _ => True)) (by (with_reducible repeat (first | apply Kd.R_alloc | apply Kd.R_drewN | apply Kd.R_drew)); exact HO731.out) hg hat)
                have n2_ := Aside0.mk (hb)
                have n3_ := Aside0.mk (ho)
                clear HO_7
                clear HO731
                clear HB
                clear HO737
                have HO_7 := n0_
                have HO731 := n1_
                have HB := n2_
                have HO740 := n3_
                clear n0_ n1_ n2_ n3_
                clear ho hb hg hat
                obtain ⟨Ao43, co43, eo43⟩ := Kd.R_slice HO740.out
                (first | subst eo43 | (injection eo43 with f1_ f2_ f3_; have f4_ := f1_.symm; have f5_ := f3_.symm; clear f1_ f2_ f3_; subst f4_; subst f5_))
                refine hK.out _ _ ⟨HS0_, HS1_⟩ (fun hHeld => ?_)
                clear hK K
                refine norm_ (a' := ?_) ?_ ?_
                rotate_left
                ·show Act.put _ (some 89) _ = _
                 simp only [Act.put, List.setIfInBounds_toArray, List.set_cons_zero, List.set_cons_succ, i64_w, i32_w]
                 rfl
                refine one_ (i := 8) (N := some 90) #[true, true, true, true, true, true, true, true, true, false, false, false, false, false] rfl rfl (one_of HT_.out (by kernel_rfl)) (by decide) (fun K hK => ?_)
                refine goes_ Try.func13 (by kernel_rfl) rfl #[.string ((rd_T29 t716 a0).f0), .slice Ao43 y738.length co43] (by rfl) rfl rfl (by (try simp only [List.map_toArray, List.map_cons, List.map_nil]); first | done | rfl | (simp only [List.length_drop, List.length_take]; rfl)) ?_
                with_reducible refine (impl_Encode.calls kj20 ((rd_T29 t716 a0).f0) _ _ y738 t741 t742 _ ?side1 ?side2 A32.out).mono ?_
                (case side1 => repeat (first | exact (Kd.R_reads' HO740.out).2.2 | (with_reducible refine Kd.C_alloc ?_ _) | (with_reducible refine Kd.C_drewN ?_ _) | (with_reducible refine Kd.C_drew ?_)))
                (case side2 => exact (Kd.R_reads' HO740.out).2.1)
                rintro e w44 ⟨rfl, hb⟩
                have HS0_ := (hb.cell (World.block_lt_of_cell? _ _ (hHeld.1))).trans (hHeld.1)
                have HS1_ := (hb.cell (World.block_lt_of_cell? _ _ (hHeld.2))).trans (hHeld.2)
                refine ⟨_, rfl, ?_⟩
                have n0_ := Aside0.mk (Kd.R_below (by (with_reducible repeat (first | apply Kd.R_alloc | apply Kd.R_drewN | apply Kd.R_drew)); exact HO_7.out) hb)
                have n1_ := Aside0.mk (Kd.R_below (by (with_reducible repeat (first | apply Kd.R_alloc | apply Kd.R_drewN | apply Kd.R_drew)); exact HO731.out) hb)
                have n2_ := Aside0.mk (Kd.R_below (by (with_reducible repeat (first | apply Kd.R_alloc | apply Kd.R_drewN | apply Kd.R_drew)); exact HO740.out) hb)
                have n3_ := Aside0.mk (below_step (by repeat (first | (with_reducible first | exact HB.out | apply below_alloc | apply pw_below_drewN | apply below_drew1) | exact HB.out)) hb)
                clear HO_7
                clear HO731
                clear HO740
                clear HB
                have HO_7 := n0_
                have HO731 := n1_
                have HO740 := n2_
                have HB := n3_
                clear n0_ n1_ n2_ n3_
                (try clear hb)
                (try clear hb2)
                (try clear hk)
                (try clear hi)
                refine hK.out _ _ ⟨HS0_, HS1_⟩ (fun hHeld => ?_)
                clear hK K
                refine norm_ (a' := ?_) ?_ ?_
                rotate_left
                ·show Act.put _ (some 90) _ = _
                 simp only [Act.put, List.setIfInBounds_toArray, List.set_cons_zero, List.set_cons_succ, i64_w, i32_w]
                 rfl
                refine pure_ (i := 9) (N := some 81) (v := ?_) (a' := ?_) #[true, true, true, true, true, true, true, true, true, true, false, false, false, false] rfl rfl (any_of HT_.out (by kernel_rfl)) (fun _ _ _ h => h) (Or.inl ⟨by rfl, ?_⟩) ?_ ?_
                rotate_left
                ·intro w'
                 go_simp
                 with_reducible rfl
                rotate_left
                ·simp only [Act.put, List.setIfInBounds_toArray, List.set_cons_zero, List.set_cons_succ, i64_w, i32_w]
                 rfl
                refine pure_ (i := 10) (N := some 91) (v := ?_) (a' := ?_) #[true, true, true, true, true, true, true, true, true, true, true, false, false, false] rfl rfl (any_of HT_.out (by kernel_rfl)) (fun _ _ _ h => h) (Or.inl ⟨by rfl, ?_⟩) ?_ ?_
                rotate_left
                ·intro w'
                 go_simp
                 with_reducible rfl
                rotate_left
                ·simp only [Act.put, List.setIfInBounds_toArray, List.set_cons_zero, List.set_cons_succ, i64_w, i32_w]
                 rfl
                refine pure_ (i := 11) (N := some 92) (v := ?_) (a' := ?_) #[true, true, true, true, true, true, true, true, true, true, true, true, false, false] rfl rfl (any_of HT_.out (by kernel_rfl)) (fun _ _ _ h => h) (Or.inl ⟨by rfl, ?_⟩) ?_ ?_
                rotate_left
                ·intro w'
                 go_simp
                 with_reducible rfl
                rotate_left
                ·simp only [Act.put, List.setIfInBounds_toArray, List.set_cons_zero, List.set_cons_succ, i64_w, i32_w]
                 rfl
                refine pure_ (i := 12) (N := some 14) (v := ?_) (a' := ?_) #[true, true, true, true, true, true, true, true, true, true, true, true, true, false] rfl rfl (any_of HT_.out (by kernel_rfl)) (fun _ _ _ h => h) (Or.inl ⟨by rfl, ?_⟩) ?_ ?_
                rotate_left
                ·intro w'
                 go_simp
                 with_reducible rfl
                rotate_left
                ·simp only [Act.put, List.setIfInBounds_toArray, List.set_cons_zero, List.set_cons_succ, i64_w, i32_w]
                 rfl
                refine pure_ (i := 13) (N := some 15) (v := ?_) (a' := ?_) #[true, true, true, true, true, true, true, true, true, true, true, true, true, true] rfl rfl (any_of HT_.out (by kernel_rfl)) (fun _ _ _ h => h) (Or.inl ⟨by rfl, ?_⟩) ?_ ?_
                rotate_left
                ·intro w'
                 go_simp
                 with_reducible rfl
                rotate_left
                ·simp only [Act.put, List.setIfInBounds_toArray, List.set_cons_zero, List.set_cons_succ, i64_w, i32_w]
                 rfl
                refine done_ (done_of HT_.out (by kernel_rfl)) ?_
                try go_wp2
                go_loopg [16, 17] kj20 (fun kq v16 v17 w' => ∃ (x16_4 : Bool) (x17_4 : Int), v16 = .bool x16_4 ∧ v17 = .int .i64 x17_4 ∧ Aside0 (laws_FnApart.l0 kq l1 l2 t732 t733 t741 t742 x16_4 x17_4 = some r) ∧ Aside0 (kq ≤ kj20) ∧ Aside0 (Below w.heap.size w w'))
                case atStart => exact ⟨(true), (0), (by first | rfl | (simp; done) | (simp [*]; done)), (by first | rfl | (simp; done) | (simp [*]; done)), H', ⟨Nat.le_refl _⟩, ⟨by repeat (first | (with_reducible first | exact HB.out | apply below_alloc | apply pw_below_drewN | apply below_drew1) | exact HB.out)⟩⟩
                case round =>
                 clear H'
                 try clear c1
                 try clear c2
                 try clear p2
                 try clear c3
                 try clear c5
                 try clear c5b0
                 try clear c5b1
                 try clear c6
                 try clear p7
                 try clear q7
                 try clear hx7
                 try clear c10
                 try clear c10b0
                 try clear c11
                 try clear c11b0
                 try clear c12
                 try clear c13
                 try clear c13b0
                 try clear c13b1
                 try clear c16
                 try clear c17
                 try clear c17b0
                 try clear c18
                 try clear c18b0
                 try clear c25
                 try clear c26
                 try clear c27
                 try clear c27b0
                 try clear c28
                 try clear c28b0
                 try clear c29
                 try clear c31
                 try clear hx719_0
                 try clear hx719_1
                 try clear hx722_0
                 try clear hx722_1
                 try clear hx725_0
                 try clear hx725_1
                 try clear hx734_0
                 try clear hx734_1
                 try clear p2
                 try clear p7
                 try clear p719
                 try clear p722
                 try clear p725
                 try clear p734
                 try clear q7
                 try clear q719
                 try clear q722
                 try clear q725
                 try clear q734
                 obtain ⟨x16_4, x17_4, rfl, rfl, HA, HK4, HB⟩ := hrel
                 cases gk with
                 | zero => exact absurd HA.out (by simp [laws_FnApart.l0])
                 | succ k4 =>
                  have H := HA.out
                  clear HA
                  simp only [laws_FnApart.l0] at H
                  by_cases c45 : x17_4 < (l1.length : Int)
                  ·rw [if_pos c45] at H
                   have c45b0 : decide (x17_4 < (l1.length : Int)) = true := decide_eq_true c45
                   clear c45
                   by_cases c46 : 0 ≤ x17_4
                   ·rw [if_pos c46] at H
                    have c46b0 : decide (0 ≤ x17_4) = true := decide_eq_true c46
                    clear c46
                    by_cases c47 : x17_4 < (l2.length : Int)
                    ·rw [if_pos c47] at H
                     have c47b0 : decide (x17_4 < (l2.length : Int)) = true := decide_eq_true c47
                     clear c47
                     by_cases c48 : (rd l1 x17_4) = (rd l2 x17_4)
                     ·rw [if_pos c48] at H
                      have c48b0 : ((rd l1 x17_4) == (rd l2 x17_4)) = true := beq_iff_eq.mpr c48
                      have c48b1 : ((rd l1 x17_4) != (rd l2 x17_4)) = false := bne_eq_false_iff_eq.mpr c48
                      clear c48
                      have H' := Aside0.mk H
                      clear H
                      try go_wp2
                      have n0_ := Aside0.mk (below_drew1 HB.out)
                      clear HB
                      have HB := n0_
                      clear n0_
                      have p743 : 0 ≤ (x17_4 : Int) := of_decide_eq_true (by first | (with_reducible assumption) | assumption)
                      have q743 : x17_4 < (l1.length : Int) := of_decide_eq_true (by first | (with_reducible assumption) | assumption)
                      obtain ⟨ad743, e743, hx743_0⟩ := Kd.at_int HR1.out x17_4 p743 q743
                      have hw743_0 := hx743_0
                      cases e743
                      replace hx743_0 := (HB.out.cell (World.block_lt_of_cell? w _ hx743_0)).trans hx743_0
                      replace p743 := eq_true p743
                      replace q743 := eq_true q743
                      have p744 : 0 ≤ (x17_4 : Int) := of_decide_eq_true (by first | (with_reducible assumption) | assumption)
                      have q744 : x17_4 < (l2.length : Int) := of_decide_eq_true (by first | (with_reducible assumption) | assumption)
                      obtain ⟨ad744, e744, hx744_0⟩ := Kd.at_int HR2.out x17_4 p744 q744
                      have hw744_0 := hx744_0
                      cases e744
                      replace hx744_0 := (HB.out.cell (World.block_lt_of_cell? w _ hx744_0)).trans hx744_0
                      replace p744 := eq_true p744
                      replace q744 := eq_true q744
                      refine start_ (n := 9) (S := fun w' => w'.cell? (ad743.add (x17_4).toNat) = some (.int .i64 (rd l1 x17_4)) ∧ w'.cell? (ad744.add (x17_4).toNat) = some (.int .i64 (rd l2 x17_4))) (ds := []) #[false, false, false, false, false, false, false, false, false] (by kernel_rfl) rfl rfl ⟨((HB.out.cell (World.block_lt_of_cell? w _ hw743_0)).trans hw743_0), ((HB.out.cell (World.block_lt_of_cell? w _ hw744_0)).trans hw744_0)⟩ (fun hHeld => ?_); refine with_tabW laws_FnApart.tab16 laws_FnApart.bits16 (fun HT_ HW_ => ?_)
                      generalize wr.drew = w49 at HB hx743_0 hx744_0 hHeld ⊢
                      refine pure_ (i := 0) (N := some 99) (v := ?_) (a' := ?_) #[true, false, false, false, false, false, false, false, false] rfl rfl (any_of HT_.out (by kernel_rfl)) (fun _ _ _ h => h) (Or.inl ⟨by rfl, ?_⟩) ?_ ?_
                      rotate_left
                      ·intro w'
                       go_simp
                       with_reducible rfl
                      rotate_left
                      ·simp only [Act.put, List.setIfInBounds_toArray, List.set_cons_zero, List.set_cons_succ, i64_w, i32_w]
                       rfl
                      refine pure_ (i := 1) (N := some 100) (v := ?_) (a' := ?_) #[true, true, false, false, false, false, false, false, false] rfl rfl (any_of HT_.out (by kernel_rfl)) (fun _ _ _ h => h) (Or.inl ⟨by rfl, ?_⟩) ?_ ?_
                      rotate_left
                      ·intro w'
                       go_simp
                       with_reducible rfl
                      rotate_left
                      ·simp only [Act.put, List.setIfInBounds_toArray, List.set_cons_zero, List.set_cons_succ, i64_w, i32_w]
                       rfl
                      refine pure_ (i := 2) (N := some 101) (v := ?_) (a' := ?_) #[true, true, true, false, false, false, false, false, false] rfl rfl (any_of HT_.out (by kernel_rfl)) (fun _ _ _ h => h) (Or.inl ⟨by rfl, ?_⟩) ?_ ?_
                      rotate_left
                      ·intro w'
                       go_simp
                       with_reducible rfl
                      rotate_left
                      ·simp only [Act.put, List.setIfInBounds_toArray, List.set_cons_zero, List.set_cons_succ, i64_w, i32_w]
                       rfl
                      refine pure_ (i := 4) (N := some 103) (v := ?_) (a' := ?_) #[true, true, true, false, true, false, false, false, false] rfl rfl (any_of HT_.out (by kernel_rfl)) (fun _ _ _ h => h) (Or.inl ⟨by rfl, ?_⟩) ?_ ?_
                      rotate_left
                      ·intro w'
                       go_simp
                       with_reducible rfl
                      rotate_left
                      ·simp only [Act.put, List.setIfInBounds_toArray, List.set_cons_zero, List.set_cons_succ, i64_w, i32_w]
                       rfl
                      refine pure_ (i := 5) (N := some 104) (v := ?_) (a' := ?_) #[true, true, true, false, true, true, false, false, false] rfl rfl (any_of HT_.out (by kernel_rfl)) (fun _ _ _ h => h) (Or.inl ⟨by rfl, ?_⟩) ?_ ?_
                      rotate_left
                      ·intro w'
                       go_simp
                       with_reducible rfl
                      rotate_left
                      ·simp only [Act.put, List.setIfInBounds_toArray, List.set_cons_zero, List.set_cons_succ, i64_w, i32_w]
                       rfl
                      refine pure_ (i := 6) (N := some 105) (v := ?_) (a' := ?_) #[true, true, true, false, true, true, true, false, false] rfl rfl (any_of HT_.out (by kernel_rfl)) (fun _ _ _ h => h) (Or.inl ⟨by rfl, ?_⟩) ?_ ?_
                      rotate_left
                      ·intro w'
                       go_simp
                       with_reducible rfl
                      rotate_left
                      ·simp only [Act.put, List.setIfInBounds_toArray, List.set_cons_zero, List.set_cons_succ, i64_w, i32_w]
                       rfl
                      refine take_ (i := 3) (N := some 102) (v := ?_) (a' := ?_) #[true, true, true, true, true, true, true, false, false] rfl rfl (take_ofW HT_.out HW_.out (by kernel_rfl)) (fun _ _ _ h => h) (Or.inl ⟨by rfl, ?_⟩) hHeld ?_ ?_
                      rotate_left
                      ·rintro w' ⟨s0, s1⟩
                       go_simp
                       with_reducible rfl
                      rotate_left
                      ·simp only [Act.put, List.setIfInBounds_toArray, List.set_cons_zero, List.set_cons_succ, i64_w, i32_w]
                       rfl
                      refine take_ (i := 7) (N := some 106) (v := ?_) (a' := ?_) #[true, true, true, true, true, true, true, true, false] rfl rfl (take_ofW HT_.out HW_.out (by kernel_rfl)) (fun _ _ _ h => h) (Or.inl ⟨by rfl, ?_⟩) hHeld ?_ ?_
                      rotate_left
                      ·rintro w' ⟨s0, s1⟩
                       go_simp
                       with_reducible rfl
                      rotate_left
                      ·simp only [Act.put, List.setIfInBounds_toArray, List.set_cons_zero, List.set_cons_succ, i64_w, i32_w]
                       rfl
                      refine pure_ (i := 8) (N := some 107) (v := ?_) (a' := ?_) #[true, true, true, true, true, true, true, true, true] rfl rfl (any_of HT_.out (by kernel_rfl)) (fun _ _ _ h => h) (Or.inl ⟨by rfl, ?_⟩) ?_ ?_
                      rotate_left
                      ·intro w'
                       go_simp
                       with_reducible rfl
                      rotate_left
                      ·simp only [Act.put, List.setIfInBounds_toArray, List.set_cons_zero, List.set_cons_succ, i64_w, i32_w]
                       rfl
                      refine done_ (done_of HT_.out (by kernel_rfl)) ?_
                      try go_wp2
                      go_roundg k4
                      case measure => have := HJ3.out; have := HJ7.out; have := HJ20.out; have := HK4.out; omega
                      case rel => exact ⟨(x16_4), (wrap64 (x17_4 + 1)), (by first | rfl | (simp; done) | (simp [*]; done)), (by first | rfl | (simp; done) | (simp [*]; done)), H', ⟨by have := HJ3.out; have := HJ7.out; have := HJ20.out; have := HK4.out; omega⟩, ⟨by repeat (first | (with_reducible first | exact HB.out | apply below_alloc | apply pw_below_drewN | apply below_drew1) | exact HB.out)⟩⟩
                     ·rw [if_neg c48] at H
                      have c48b0 : ((rd l1 x17_4) == (rd l2 x17_4)) = false := beq_eq_false_iff_ne.mpr c48
                      have c48b1 : ((rd l1 x17_4) != (rd l2 x17_4)) = true := bne_iff_ne.mpr c48
                      have H' := Aside0.mk H
                      clear H
                      try go_wp2
                      have n0_ := Aside0.mk (below_drew1 HB.out)
                      clear HB
                      have HB := n0_
                      clear n0_
                      have p743 : 0 ≤ (x17_4 : Int) := of_decide_eq_true (by first | (with_reducible assumption) | assumption)
                      have q743 : x17_4 < (l1.length : Int) := of_decide_eq_true (by first | (with_reducible assumption) | assumption)
                      obtain ⟨ad743, e743, hx743_0⟩ := Kd.at_int HR1.out x17_4 p743 q743
                      have hw743_0 := hx743_0
                      cases e743
                      replace hx743_0 := (HB.out.cell (World.block_lt_of_cell? w _ hx743_0)).trans hx743_0
                      replace p743 := eq_true p743
                      replace q743 := eq_true q743
                      have p744 : 0 ≤ (x17_4 : Int) := of_decide_eq_true (by first | (with_reducible assumption) | assumption)
                      have q744 : x17_4 < (l2.length : Int) := of_decide_eq_true (by first | (with_reducible assumption) | assumption)
                      obtain ⟨ad744, e744, hx744_0⟩ := Kd.at_int HR2.out x17_4 p744 q744
                      have hw744_0 := hx744_0
                      cases e744
                      replace hx744_0 := (HB.out.cell (World.block_lt_of_cell? w _ hx744_0)).trans hx744_0
                      replace p744 := eq_true p744
                      replace q744 := eq_true q744
                      refine start_ (n := 9) (S := fun w' => w'.cell? (ad743.add (x17_4).toNat) = some (.int .i64 (rd l1 x17_4)) ∧ w'.cell? (ad744.add (x17_4).toNat) = some (.int .i64 (rd l2 x17_4))) (ds := []) #[false, false, false, false, false, false, false, false, false] (by kernel_rfl) rfl rfl ⟨((HB.out.cell (World.block_lt_of_cell? w _ hw743_0)).trans hw743_0), ((HB.out.cell (World.block_lt_of_cell? w _ hw744_0)).trans hw744_0)⟩ (fun hHeld => ?_); refine with_tabW laws_FnApart.tab16 laws_FnApart.bits16 (fun HT_ HW_ => ?_)
                      generalize wr.drew = w50 at HB hx743_0 hx744_0 hHeld ⊢
                      refine pure_ (i := 0) (N := some 99) (v := ?_) (a' := ?_) #[true, false, false, false, false, false, false, false, false] rfl rfl (any_of HT_.out (by kernel_rfl)) (fun _ _ _ h => h) (Or.inl ⟨by rfl, ?_⟩) ?_ ?_
                      rotate_left
                      ·intro w'
                       go_simp
                       with_reducible rfl
                      rotate_left
                      ·simp only [Act.put, List.setIfInBounds_toArray, List.set_cons_zero, List.set_cons_succ, i64_w, i32_w]
                       rfl
                      refine pure_ (i := 1) (N := some 100) (v := ?_) (a' := ?_) #[true, true, false, false, false, false, false, false, false] rfl rfl (any_of HT_.out (by kernel_rfl)) (fun _ _ _ h => h) (Or.inl ⟨by rfl, ?_⟩) ?_ ?_
                      rotate_left
                      ·intro w'
                       go_simp
                       with_reducible rfl
                      rotate_left
                      ·simp only [Act.put, List.setIfInBounds_toArray, List.set_cons_zero, List.set_cons_succ, i64_w, i32_w]
                       rfl
                      refine pure_ (i := 2) (N := some 101) (v := ?_) (a' := ?_) #[true, true, true, false, false, false, false, false, false] rfl rfl (any_of HT_.out (by kernel_rfl)) (fun _ _ _ h => h) (Or.inl ⟨by rfl, ?_⟩) ?_ ?_
                      rotate_left
                      ·intro w'
                       go_simp
                       with_reducible rfl
                      rotate_left
                      ·simp only [Act.put, List.setIfInBounds_toArray, List.set_cons_zero, List.set_cons_succ, i64_w, i32_w]
                       rfl
                      refine pure_ (i := 4) (N := some 103) (v := ?_) (a' := ?_) #[true, true, true, false, true, false, false, false, false] rfl rfl (any_of HT_.out (by kernel_rfl)) (fun _ _ _ h => h) (Or.inl ⟨by rfl, ?_⟩) ?_ ?_
                      rotate_left
                      ·intro w'
                       go_simp
                       with_reducible rfl
                      rotate_left
                      ·simp only [Act.put, List.setIfInBounds_toArray, List.set_cons_zero, List.set_cons_succ, i64_w, i32_w]
                       rfl
                      refine pure_ (i := 5) (N := some 104) (v := ?_) (a' := ?_) #[true, true, true, false, true, true, false, false, false] rfl rfl (any_of HT_.out (by kernel_rfl)) (fun _ _ _ h => h) (Or.inl ⟨by rfl, ?_⟩) ?_ ?_
                      rotate_left
                      ·intro w'
                       go_simp
                       with_reducible rfl
                      rotate_left
                      ·simp only [Act.put, List.setIfInBounds_toArray, List.set_cons_zero, List.set_cons_succ, i64_w, i32_w]
                       rfl
                      refine pure_ (i := 6) (N := some 105) (v := ?_) (a' := ?_) #[true, true, true, false, true, true, true, false, false] rfl rfl (any_of HT_.out (by kernel_rfl)) (fun _ _ _ h => h) (Or.inl ⟨by rfl, ?_⟩) ?_ ?_
                      rotate_left
                      ·intro w'
                       go_simp
                       with_reducible rfl
                      rotate_left
                      ·simp only [Act.put, List.setIfInBounds_toArray, List.set_cons_zero, List.set_cons_succ, i64_w, i32_w]
                       rfl
                      refine take_ (i := 3) (N := some 102) (v := ?_) (a' := ?_) #[true, true, true, true, true, true, true, false, false] rfl rfl (take_ofW HT_.out HW_.out (by kernel_rfl)) (fun _ _ _ h => h) (Or.inl ⟨by rfl, ?_⟩) hHeld ?_ ?_
                      rotate_left
                      ·rintro w' ⟨s0, s1⟩
                       go_simp
                       with_reducible rfl
                      rotate_left
                      ·simp only [Act.put, List.setIfInBounds_toArray, List.set_cons_zero, List.set_cons_succ, i64_w, i32_w]
                       rfl
                      refine take_ (i := 7) (N := some 106) (v := ?_) (a' := ?_) #[true, true, true, true, true, true, true, true, false] rfl rfl (take_ofW HT_.out HW_.out (by kernel_rfl)) (fun _ _ _ h => h) (Or.inl ⟨by rfl, ?_⟩) hHeld ?_ ?_
                      rotate_left
                      ·rintro w' ⟨s0, s1⟩
                       go_simp
                       with_reducible rfl
                      rotate_left
                      ·simp only [Act.put, List.setIfInBounds_toArray, List.set_cons_zero, List.set_cons_succ, i64_w, i32_w]
                       rfl
                      refine pure_ (i := 8) (N := some 107) (v := ?_) (a' := ?_) #[true, true, true, true, true, true, true, true, true] rfl rfl (any_of HT_.out (by kernel_rfl)) (fun _ _ _ h => h) (Or.inl ⟨by rfl, ?_⟩) ?_ ?_
                      rotate_left
                      ·intro w'
                       go_simp
                       with_reducible rfl
                      rotate_left
                      ·simp only [Act.put, List.setIfInBounds_toArray, List.set_cons_zero, List.set_cons_succ, i64_w, i32_w]
                       rfl
                      refine done_ (done_of HT_.out (by kernel_rfl)) ?_
                      try go_wp2
                      go_roundg k4
                      case measure => have := HJ3.out; have := HJ7.out; have := HJ20.out; have := HK4.out; omega
                      case rel => exact ⟨(false), (wrap64 (x17_4 + 1)), (by first | rfl | (simp; done) | (simp [*]; done)), (by first | rfl | (simp; done) | (simp [*]; done)), H', ⟨by have := HJ3.out; have := HJ7.out; have := HJ20.out; have := HK4.out; omega⟩, ⟨by repeat (first | (with_reducible first | exact HB.out | apply below_alloc | apply pw_below_drewN | apply below_drew1) | exact HB.out)⟩⟩
                    ·rw [if_neg c47] at H
                     exact absurd H (by simp)
                   ·rw [if_neg c46] at H
                    exact absurd H (by simp)
                  ·rw [if_neg c45] at H
                   have c45b0 : decide (x17_4 < (l1.length : Int)) = false := decide_eq_false c45
                   clear c45
                   by_cases c51 : t733 = true
                   ·subst c51
                    have H1 : (if t742 = true then (some ((t732 == t741) == x16_4)) else (some false)) = some r := by rw [if_pos rfl] at H; exact H
                    clear H
                    have H := H1
                    clear H1
                    by_cases c52 : t742 = true
                    ·subst c52
                     have H1 : (some ((t732 == t741) == x16_4)) = some r := by rw [if_pos rfl] at H; exact H
                     clear H
                     have H := H1
                     clear H1
                     obtain rfl := Option.some.inj H
                     go_wp2
                     go_ret
                     exact ⟨by first | rfl | (simp [errW_none, errW_some] <;> rfl) | (simp [*, errW_none, errW_some] <;> rfl), by repeat (first | (with_reducible first | exact HB.out | apply below_alloc | apply pw_below_drewN | apply below_drew1) | exact HB.out)⟩
                    ·replace c52 := Bool.eq_false_iff.mpr c52
                     subst c52
                     have H1 : (some false) = some r := by rw [if_neg (show ¬ (false = true) by decide)] at H; exact H
                     clear H
                     have H := H1
                     clear H1
                     obtain rfl := Option.some.inj H
                     go_wp2
                     go_ret
                     exact ⟨by first | rfl | (simp [errW_none, errW_some] <;> rfl) | (simp [*, errW_none, errW_some] <;> rfl), by repeat (first | (with_reducible first | exact HB.out | apply below_alloc | apply pw_below_drewN | apply below_drew1) | exact HB.out)⟩
                   ·replace c51 := Bool.eq_false_iff.mpr c51
                    subst c51
                    have H1 : (some false) = some r := by rw [if_neg (show ¬ (false = true) by decide)] at H; exact H
                    clear H
                    have H := H1
                    clear H1
                    obtain rfl := Option.some.inj H
                    go_wp2
                    go_ret
                    exact ⟨by first | rfl | (simp [errW_none, errW_some] <;> rfl) | (simp [*, errW_none, errW_some] <;> rfl), by repeat (first | (with_reducible first | exact HB.out | apply below_alloc | apply pw_below_drewN | apply below_drew1) | exact HB.out)⟩
               ·rw [if_neg c31] at H
                exact absurd H (by simp)
              ·rw [if_neg c29] at H
               exact absurd H (by simp)
             ·rw [if_neg c28] at H
              exact absurd H (by simp)
            ·rw [if_neg c27] at H
             exact absurd H (by simp)
        ·rw [if_neg c18] at H
         exact absurd H (by simp)
       ·rw [if_neg c17] at H
        exact absurd H (by simp)

/-- THE ONE PURE STATEMENT of laws_FnApart: yours. -/
def laws_FnApart.Pure : Prop := ∀ (a0 : Int) (l1 : List Int) (l2 : List Int), (Lit.int .i64 a0).wf = true → l1.length ≤ maxLen → l1.length * 8 ≤ 140737488351232 → (∀ x ∈ l1, (Lit.int .i64 x).wf = true) → l2.length ≤ maxLen → l2.length * 8 ≤ 140737488351232 → (∀ x ∈ l2, (Lit.int .i64 x).wf = true) → ∃ k, laws_FnApart.f k a0 l1 l2 = some true
theorem laws_FnApart.walk (P : laws_FnApart.Pure) (a0 : Int) (a1 : Option Addr) (len1 cap1 : Nat) (z1 : List Int) (a2 : Option Addr) (len2 cap2 : Nat) (z2 : List Int) (w : World) (w0 : (Lit.int .i64 a0).wf = true) (w1 : (a1 = none ∧ len1 = 0 ∧ cap1 = 0 ∧ z1 = []) ∨ ∃ x, a1 = some x ∧ len1 ≤ cap1 ∧ cap1 ≤ maxLen ∧ z1.length = cap1 ∧ (∀ i, i < z1.length → w.cell? (x.add i) = some (.int .i64 (z1.getD i 0))) ∧ ∀ n ∈ z1, (Lit.int .i64 n).wf = true) (y1 : len1 * 8 ≤ 140737488351232) (w2 : (a2 = none ∧ len2 = 0 ∧ cap2 = 0 ∧ z2 = []) ∨ ∃ x, a2 = some x ∧ len2 ≤ cap2 ∧ cap2 ≤ maxLen ∧ z2.length = cap2 ∧ (∀ i, i < z2.length → w.cell? (x.add i) = some (.int .i64 (z2.getD i 0))) ∧ ∀ n ∈ z2, (Lit.int .i64 n).wf = true) (y2 : len2 * 8 ≤ 140737488351232) :
  Calls Try.prog 3 #[.int .i64 a0, .slice a1 len1 cap1, .slice a2 len2 cap2] w fun e w' => e = .returned (.bool true) ∧ Below w.heap.size w w' := by
 obtain ⟨l1, rfl, hr1, hm1, hw1, hc1⟩ := ReadsInt.ofRowC w1
 obtain ⟨l2, rfl, hr2, hm2, hw2, hc2⟩ := ReadsInt.ofRowC w2
 obtain ⟨k, h⟩ := P a0 l1 l2 w0 hm1 y1 hw1 hm2 y2 hw2
 refine (laws_FnApart.calls k a0 _ _ l1 _ _ l2 true w (Kd.C_of_reads (d := (0 : Int)) (h1 := fun _ => rfl) hr1) hc1 (Kd.C_of_reads (d := (0 : Int)) (h1 := fun _ => rfl) hr2) hc2 h).mono ?_
 rintro e w' ⟨rfl, hd⟩
 exact ⟨rfl, hd⟩

end Go.Proofs.Ytnfkdmoblncclaa.X
