/- The walk of the law FnCodes. -/
import Derived.Test.YtnfkdmoblncclaaXEncode
import Derived.Test.YtnfkdmoblncclaaXCodes
namespace Go.Proofs.Ytnfkdmoblncclaa.X
open Go.RowKit Go.Proofs.YtnfkdmoblncclaaW.PrintWords Go.Proofs.YtnfkdmoblncclaaW.PrintLast Go.Proofs.YtnfkdmoblncclaaW.PrintMore
attribute [local go_sem] max2_int min2_int max_two min_two max_three min_three max_four min_four   -- for this text's walks alone
set_option linter.unusedVariables false
set_option linter.unusedSimpArgs false

/-! ### laws_FnCodes: function 6 -/
def laws_FnCodes.j0 : Nat → Int → List Int → List (S39) → Bool → Option (Bool)
  | 0, _, _, _, _ => none
  | k + 1, x0, x1, x5, x26 => if x26 = true then (some true) else (if 0 ≤ x0 then (if x0 < (x5.length : Int) then ((spec_CodeOf.f k ((rd_T39 x5 x0).f0) ((rd_T39 x5 x0).f1) ((rd_T39 x5 x0).f2) x1).bind fun bt668 => (if bt668.2 = true then ((impl_Encode.f k ((rd_T39 x5 x0).f0) x1).bind fun bt671 => (if bt671.2 = true then (some (bt671.1 == bt668.1)) else (some false))) else (some true))) else (none)) else (none))
def laws_FnCodes.f (k : Nat) (a0 : Int) (l1 : List Int) : Option (Bool) := if (l1.length : Int) > 2147483647 then (some true) else ((spec_Codes.f).bind fun t664 => (if a0 < 0 then (laws_FnCodes.j0 k a0 l1 t664 true) else (if a0 ≥ (t664.length : Int) then (laws_FnCodes.j0 k a0 l1 t664 true) else (laws_FnCodes.j0 k a0 l1 t664 (decide ((l1.length : Int) > 20))))))
theorem laws_FnCodes.mono_l : ∀ k, (∀ y0 y1 y2 y3, LeO (laws_FnCodes.j0 k y0 y1 y2 y3) (laws_FnCodes.j0 (k + 1) y0 y1 y2 y3))
  | 0 => fun _ _ _ _ r h => by simp [laws_FnCodes.j0] at h
  | k + 1 => by
    have ih0 := laws_FnCodes.mono_l k
    · intro y0 y1 y2 y3
      unfold laws_FnCodes.j0
      repeat' first
      | (with_reducible exact ih0 _ _ _ _)
      | (with_reducible exact impl_Encode.mono _ _ _)
      | (with_reducible exact spec_CodeOf.mono _ _ _ _ _)
      | (with_reducible exact LeO.refl _)
      | (with_reducible exact LeO.none _)
      | (with_reducible refine LeO.ite ?_ ?_)
      | (with_reducible refine LeO.bind ?_ (fun _ => ?_))
      | exact ih0 _ _ _ _
      | exact impl_Encode.mono _ _ _
      | exact spec_CodeOf.mono _ _ _ _ _
      | exact LeO.none _
      | refine LeO.ite ?_ ?_
      | refine LeO.bind ?_ (fun _ => ?_)
theorem laws_FnCodes.mono : ∀ a0 a1 k, LeO (laws_FnCodes.f k a0 a1) (laws_FnCodes.f (k + 1) a0 a1) := by
  intro a0 a1 k
  have ih0 := laws_FnCodes.mono_l k
  unfold laws_FnCodes.f
  repeat' first
      | (with_reducible exact ih0 _ _ _ _)
      | (with_reducible exact impl_Encode.mono _ _ _)
      | (with_reducible exact spec_CodeOf.mono _ _ _ _ _)
      | (with_reducible exact LeO.refl _)
      | (with_reducible exact LeO.none _)
      | (with_reducible refine LeO.ite ?_ ?_)
      | (with_reducible refine LeO.bind ?_ (fun _ => ?_))
      | exact ih0 _ _ _ _
      | exact impl_Encode.mono _ _ _
      | exact spec_CodeOf.mono _ _ _ _ _
      | exact LeO.none _
      | refine LeO.ite ?_ ?_
      | refine LeO.bind ?_ (fun _ => ?_)
set_option maxHeartbeats 8000000 in
set_option maxRecDepth 100000 in
theorem laws_FnCodes.calls (k : Nat) (a0 : Int) (A1 : Option Addr) (c1 : Nat) (l1 : List Int) (r : Bool) (w : World) (hr1 : Kd.C (Kd.int .i64) w A1 l1.length l1) (hc1 : l1.length ≤ c1) (h : laws_FnCodes.f k a0 l1 = some r) :
    Calls Try.prog 6 #[.int .i64 a0, .slice A1 l1.length c1] w fun e w' => e = .returned (.bool r) ∧ Below w.heap.size w w' := by
  have hu39 := Try.underlying39
  have HR1 := Aside0.mk hr1
  have HC1 := Aside0.mk hc1
  clear hr1 hc1
  have HB := Aside0.mk (Below.refl w.heap.size w)
  have H : (if (l1.length : Int) > 2147483647 then (some true) else ((spec_Codes.f).bind fun t664 => (if a0 < 0 then (laws_FnCodes.j0 k a0 l1 t664 true) else (if a0 ≥ (t664.length : Int) then (laws_FnCodes.j0 k a0 l1 t664 true) else (laws_FnCodes.j0 k a0 l1 t664 (decide ((l1.length : Int) > 20))))))) = some r := h
  clear h
  by_cases c3 : (l1.length : Int) > 2147483647
  · rw [if_pos c3] at H
    have c3b0 : decide (2147483647 < (l1.length : Int)) = true := decide_eq_true c3
    have c3b1 : decide (2147483647 < l1.length) = true := decide_eq_true (by omega)
    clear c3
    obtain rfl := Option.some.inj H
    go_enter Try.func6, Try.ntmps6
    go_wp2
    go_ret
    exact ⟨by first | rfl | (simp [errW_none, errW_some] <;> rfl) | (simp [*, errW_none, errW_some] <;> rfl), by repeat (first | (with_reducible first | exact HB.out | apply below_alloc | apply pw_below_drewN | apply below_drew1) | exact HB.out)⟩
  · rw [if_neg c3] at H
    have c3b0 : decide (2147483647 < (l1.length : Int)) = false := decide_eq_false c3
    have c3b1 : decide (2147483647 < l1.length) = false := decide_eq_false (by omega)
    clear c3
    replace H := Option.bind_eq_some_iff.mp H
    obtain ⟨t664, A40, H⟩ := H
    replace H : (if a0 < 0 then (laws_FnCodes.j0 k a0 l1 t664 true) else (if a0 ≥ (t664.length : Int) then (laws_FnCodes.j0 k a0 l1 t664 true) else (laws_FnCodes.j0 k a0 l1 t664 (decide ((l1.length : Int) > 20))))) = some r := H
    have A4 := Aside0.mk A40
    clear A40
    have HC5 := Aside0.mk H
    clear H
    go_enter Try.func6, Try.ntmps6
    go_upto_region 4 with (first | ((with_reducible refine gate_callee (f := 14) rfl ?_); refine goesL_ (some 13) rfl rfl Try.func14 (by kernel_rfl) rfl #[] rfl (by (try simp only [List.map_toArray, List.map_cons, List.map_nil]); first | done | rfl | (simp only [List.length_drop, List.length_take]; rfl)) ?_; (with_reducible refine (spec_Codes.calls  t664 _ A4.out).mono ?_); rintro e w6 ⟨v665, rfl, ho0, hb⟩; refine ⟨_, rfl, ?_⟩; have n0_ := Aside0.mk (Kd.N_lower (Kd.N_mono (ok' := fun k_ => True) ho0 (fun k_ hk_ => trivial)) (below_size (by repeat (first | (with_reducible first | exact HB.out | apply below_alloc | apply pw_below_drewN | apply below_drew1) | exact HB.out)))); have n1_ := Aside0.mk (below_step (by repeat (first | (with_reducible first | exact HB.out | apply below_alloc | apply pw_below_drewN | apply below_drew1) | exact HB.out)) hb); clear HB; have HO666 := n0_; have HB := n1_; clear n0_ n1_; (try clear hb); (try clear hb2); (try clear hk); (try clear hi); (try clear ho0)))
    (try simp only [Act.put, List.setIfInBounds_toArray, List.set_cons_zero, List.set_cons_succ])
    go_cut [26] (fun v26 wc => ∃ (kq : Nat) (x26_4 : Bool), v26 = .bool x26_4 ∧ Aside0 (laws_FnCodes.j0 kq a0 l1 t664 x26_4 = some r) ∧ Aside0 (kq ≤ k) ∧ Aside0 (Kd.N k39 39 wc w.heap.size (fun _ => True) v665 t664) ∧ Aside0 (Below w.heap.size w wc))
    case first =>
      have H := HC5.out
      clear HC5
      by_cases c7 : a0 < 0
      · rw [if_pos c7] at H
        have c7b0 : decide (a0 < 0) = true := decide_eq_true c7
        clear c7
        (first | rw [c7b0] | (simp only [i64_w, i32_w]; rw [c7b0]) | skip)
        have H' := Aside0.mk H
        clear H
        go_wp2
        go_meet
        case rel => exact ⟨_, (true), (by first | rfl | (simp; done) | (simp [*]; done)), H', ⟨by first | omega | exact Nat.le_refl _⟩, ⟨by (with_reducible repeat (first | apply Kd.N_alloc | apply Kd.N_drewN | apply Kd.N_drew)); exact HO666.out⟩, ⟨by repeat (first | (with_reducible first | exact HB.out | apply below_alloc | apply pw_below_drewN | apply below_drew1) | exact HB.out)⟩⟩
      · rw [if_neg c7] at H
        have c7b0 : decide (a0 < 0) = false := decide_eq_false c7
        clear c7
        (first | rw [c7b0] | (simp only [i64_w, i32_w]; rw [c7b0]) | skip)
        by_cases c8 : a0 ≥ (t664.length : Int)
        · rw [if_pos c8] at H
          have c8b0 : decide ((t664.length : Int) ≤ a0) = true := decide_eq_true c8
          clear c8
          have H' := Aside0.mk H
          clear H
          obtain ⟨Ao9, co9, eo9⟩ := Kd.N_slice HO666.out
          subst eo9
          go_wp2
          go_meet
          case rel => exact ⟨_, (true), (by first | rfl | (simp; done) | (simp [*]; done)), H', ⟨by first | omega | exact Nat.le_refl _⟩, ⟨by (with_reducible repeat (first | apply Kd.N_alloc | apply Kd.N_drewN | apply Kd.N_drew)); exact HO666.out⟩, ⟨by repeat (first | (with_reducible first | exact HB.out | apply below_alloc | apply pw_below_drewN | apply below_drew1) | exact HB.out)⟩⟩
        · rw [if_neg c8] at H
          have c8b0 : decide ((t664.length : Int) ≤ a0) = false := decide_eq_false c8
          clear c8
          have H' := Aside0.mk H
          clear H
          obtain ⟨Ao10, co10, eo10⟩ := Kd.N_slice HO666.out
          subst eo10
          go_wp2
          go_meet
          case rel => exact ⟨_, (decide ((l1.length : Int) > 20)), (by first | rfl | (simp; done) | (simp [*]; done)), H', ⟨by first | omega | exact Nat.le_refl _⟩, ⟨by (with_reducible repeat (first | apply Kd.N_alloc | apply Kd.N_drewN | apply Kd.N_drew)); exact HO666.out⟩, ⟨by repeat (first | (with_reducible first | exact HB.out | apply below_alloc | apply pw_below_drewN | apply below_drew1) | exact HB.out)⟩⟩
    case rest =>
      clear HC5
      try clear c1
      try clear p2
      try clear c3
      try clear c3b0
      try clear c3b1
      try clear c6
      try clear c7
      try clear c7b0
      try clear c8
      try clear c8b0
      obtain ⟨kq, x26_4, rfl, HA, HJ4, HO_5, HB⟩ := hcut
      cases kq with
      | zero => exact absurd HA.out (by simp [laws_FnCodes.j0])
      | succ kj4 =>
        have H := HA.out
        clear HA
        simp only [laws_FnCodes.j0] at H
        by_cases c11 : x26_4 = true
        · subst c11
          have H1 : (some true) = some r := by rw [if_pos rfl] at H; exact H
          clear H
          have H := H1
          clear H1
          obtain rfl := Option.some.inj H
          go_wp2
          go_ret
          exact ⟨by first | rfl | (simp [errW_none, errW_some] <;> rfl) | (simp [*, errW_none, errW_some] <;> rfl), by repeat (first | (with_reducible first | exact HB.out | apply below_alloc | apply pw_below_drewN | apply below_drew1) | exact HB.out)⟩
        · replace c11 := Bool.eq_false_iff.mpr c11
          subst c11
          have H1 : (if 0 ≤ a0 then (if a0 < (t664.length : Int) then ((spec_CodeOf.f kj4 ((rd_T39 t664 a0).f0) ((rd_T39 t664 a0).f1) ((rd_T39 t664 a0).f2) l1).bind fun bt668 => (if bt668.2 = true then ((impl_Encode.f kj4 ((rd_T39 t664 a0).f0) l1).bind fun bt671 => (if bt671.2 = true then (some (bt671.1 == bt668.1)) else (some false))) else (some true))) else (none)) else (none)) = some r := by rw [if_neg (show ¬ (false = true) by decide)] at H; exact H
          clear H
          have H := H1
          clear H1
          by_cases c12 : 0 ≤ a0
          · rw [if_pos c12] at H
            have c12b0 : decide (0 ≤ a0) = true := decide_eq_true c12
            clear c12
            by_cases c13 : a0 < (t664.length : Int)
            · rw [if_pos c13] at H
              have c13b0 : decide (a0 < (t664.length : Int)) = true := decide_eq_true c13
              clear c13
              replace H := Option.bind_eq_some_iff.mp H
              obtain ⟨⟨t668, t669⟩, A140, H⟩ := H
              replace H : (if t669 = true then ((impl_Encode.f kj4 ((rd_T39 t664 a0).f0) l1).bind fun bt671 => (if bt671.2 = true then (some (bt671.1 == t668)) else (some false))) else (some true)) = some r := H
              have A14 := Aside0.mk A140
              clear A140
              by_cases c15 : t669 = true
              · subst c15
                have H1 : ((impl_Encode.f kj4 ((rd_T39 t664 a0).f0) l1).bind fun bt671 => (if bt671.2 = true then (some (bt671.1 == t668)) else (some false))) = some r := by rw [if_pos rfl] at H; exact H
                clear H
                have H := H1
                clear H1
                replace H := Option.bind_eq_some_iff.mp H
                obtain ⟨⟨t671, t672⟩, A160, H⟩ := H
                replace H : (if t672 = true then (some (t671 == t668)) else (some false)) = some r := H
                have A16 := Aside0.mk A160
                clear A160
                by_cases c17 : t672 = true
                · subst c17
                  have H1 : (some (t671 == t668)) = some r := by rw [if_pos rfl] at H; exact H
                  clear H
                  have H := H1
                  clear H1
                  obtain rfl := Option.some.inj H
                  obtain ⟨Ao18, co18, eo18⟩ := Kd.N_slice HO_5.out
                  subst eo18
                  have p667 : 0 ≤ (a0 : Int) := of_decide_eq_true (by first | (with_reducible assumption) | assumption)
                  have q667 : a0 < (t664.length : Int) := of_decide_eq_true (by first | (with_reducible assumption) | assumption)
                  obtain ⟨ad667, A667_1, c667_1, A667_2, c667_2, e667, hx667_0, hx667_1, hx667_2, hl667_1, hi667_1, hl667_2, hi667_2⟩ := at_T39 (Kd.N_reads' HO_5.out).2.2 a0 p667 q667
                  cases e667
                  obtain ⟨ce667, hce667, hMe667, hcc667⟩ := Kd.N_get HO_5.out z39 a0 p667 (by first | exact q667 | exact of_decide_eq_true (by first | (with_reducible assumption) | assumption) | (have e_ := (Kd.N_reads' HO_5.out).1; omega))
                  obtain ⟨ua667_1, uc667_1, ua667_2, uc667_2, rfl, ul667_1, ge667_1, ul667_2, ge667_2⟩ := k39_openF hMe667
                  have hv667_1 := hcc667 1 _ rfl
                  rw [add_field _ _ 1 (by omega)] at hv667_1
                  replace hv667_1 := Option.some.inj (hv667_1.symm.trans hx667_1)
                  injection hv667_1 with hva_ hvn_ hvc_
                  rw [hva_] at ge667_1
                  rw [hvc_] at ul667_1
                  have HL667_1 := Aside0.mk (show Kd.V (Kd.int .i64) 3 _ w.heap.size _ _ ((rd_T39 t664 a0).f1) from Kd.V_mk ul667_1 ge667_1)
                  clear hva_ hvn_ hvc_ ge667_1 ul667_1
                  have hv667_2 := hcc667 2 _ rfl
                  rw [add_field _ _ 2 (by omega)] at hv667_2
                  replace hv667_2 := Option.some.inj (hv667_2.symm.trans hx667_2)
                  injection hv667_2 with hva_ hvn_ hvc_
                  rw [hva_] at ge667_2
                  rw [hvc_] at ul667_2
                  have HL667_2 := Aside0.mk (show Kd.V (Kd.int .i64) 3 _ w.heap.size _ _ ((rd_T39 t664 a0).f2) from Kd.V_mk ul667_2 ge667_2)
                  clear hva_ hvn_ hvc_ ge667_2 ul667_2
                  clear hcc667 hce667
                  have HR667_1 := Aside0.mk hi667_1
                  have HC667_1 := Aside0.mk hl667_1
                  clear hi667_1 hl667_1
                  have HR667_2 := Aside0.mk hi667_2
                  have HC667_2 := Aside0.mk hl667_2
                  clear hi667_2 hl667_2
                  replace p667 := eq_true p667
                  replace q667 := eq_true q667
                  go_wp2_with (first | ((with_reducible refine gate_callee (f := 15) rfl ?_); refine goesL_ (some 33) rfl rfl Try.func15 (by kernel_rfl) rfl #[.agg #[.string ((rd_T39 t664 a0).f0), .slice A667_1 ((rd_T39 t664 a0).f1).length c667_1, .slice A667_2 ((rd_T39 t664 a0).f2).length c667_2], .slice A1 l1.length c1] rfl (by (try simp only [List.map_toArray, List.map_cons, List.map_nil]); first | done | rfl | (simp only [List.length_drop, List.length_take]; rfl)) ?_; (with_reducible refine (spec_CodeOf.calls kj4 ((rd_T39 t664 a0).f0) _ _ ((rd_T39 t664 a0).f1) _ _ ((rd_T39 t664 a0).f2) _ _ l1 t668 true _ ?side1 ?side2 ?side3 ?side4 ?side5 ?side6 A14.out).mono ?_); (case side1 => repeat (first | exact (by repeat (first | (with_reducible exact HR667_1.out) | (with_reducible refine Kd.C_alloc ?_ _) | (with_reducible refine Kd.C_drewN ?_ _) | (with_reducible refine Kd.C_drew ?_) | exact HR667_1.out)) | (with_reducible refine Kd.C_alloc ?_ _) | (with_reducible refine Kd.C_drewN ?_ _) | (with_reducible refine Kd.C_drew ?_))); (case side2 => exact HC667_1.out); (case side3 => repeat (first | exact (by repeat (first | (with_reducible exact HR667_2.out) | (with_reducible refine Kd.C_alloc ?_ _) | (with_reducible refine Kd.C_drewN ?_ _) | (with_reducible refine Kd.C_drew ?_) | exact HR667_2.out)) | (with_reducible refine Kd.C_alloc ?_ _) | (with_reducible refine Kd.C_drewN ?_ _) | (with_reducible refine Kd.C_drew ?_))); (case side4 => exact HC667_2.out); (case side5 => repeat (first | exact (Kd.C_below HR1.out HB.out) | (with_reducible refine Kd.C_alloc ?_ _) | (with_reducible refine Kd.C_drewN ?_ _) | (with_reducible refine Kd.C_drew ?_))); (case side6 => exact HC1.out); rintro e w19 ⟨rfl, hb⟩; refine ⟨_, rfl, ?_⟩; have n0_ := Aside0.mk (Kd.N_below (by (with_reducible repeat (first | apply Kd.N_alloc | apply Kd.N_drewN | apply Kd.N_drew)); exact HO_5.out) hb); have n1_ := Aside0.mk (Kd.V_below (by (with_reducible repeat (first | apply Kd.V_alloc | apply Kd.V_drewN | apply Kd.V_drew)); exact HL667_1.out) hb); have n2_ := Aside0.mk (Kd.V_below (by (with_reducible repeat (first | apply Kd.V_alloc | apply Kd.V_drewN | apply Kd.V_drew)); exact HL667_2.out) hb); have n3_ := Aside0.mk (Kd.C_below (by repeat (first | (with_reducible exact HR667_1.out) | (with_reducible refine Kd.C_alloc ?_ _) | (with_reducible refine Kd.C_drewN ?_ _) | (with_reducible refine Kd.C_drew ?_) | exact HR667_1.out)) hb); have n4_ := Aside0.mk (Kd.C_below (by repeat (first | (with_reducible exact HR667_2.out) | (with_reducible refine Kd.C_alloc ?_ _) | (with_reducible refine Kd.C_drewN ?_ _) | (with_reducible refine Kd.C_drew ?_) | exact HR667_2.out)) hb); have n5_ := Aside0.mk (below_step (by repeat (first | (with_reducible first | exact HB.out | apply below_alloc | apply pw_below_drewN | apply below_drew1) | exact HB.out)) hb); clear HO_5; clear HL667_1; clear HL667_2; clear HR667_1; clear HR667_2; clear HB; have HO_5 := n0_; have HL667_1 := n1_; have HL667_2 := n2_; have HR667_1 := n3_; have HR667_2 := n4_; have HB := n5_; clear n0_ n1_ n2_ n3_ n4_ n5_; (try clear hb); (try clear hb2); (try clear hk); (try clear hi); have p670 : 0 ≤ (a0 : Int) := of_decide_eq_true (by first | (with_reducible assumption) | assumption); have q670 : a0 < (t664.length : Int) := of_decide_eq_true (by first | (with_reducible assumption) | assumption); obtain ⟨ad670, A670_1, c670_1, A670_2, c670_2, e670, hx670_0, hx670_1, hx670_2, hl670_1, hi670_1, hl670_2, hi670_2⟩ := at_T39 (Kd.N_reads' HO_5.out).2.2 a0 p670 q670; obtain rfl : ad667 = ad670 := (by injection e670); obtain ⟨ce670, hce670, hMe670, hcc670⟩ := Kd.N_get HO_5.out z39 a0 p670 (by first | exact q670 | exact of_decide_eq_true (by first | (with_reducible assumption) | assumption) | (have e_ := (Kd.N_reads' HO_5.out).1; omega)); obtain ⟨ua670_1, uc670_1, ua670_2, uc670_2, rfl, ul670_1, ge670_1, ul670_2, ge670_2⟩ := k39_openF hMe670; have hv670_1 := hcc670 1 _ rfl; rw [add_field _ _ 1 (by omega)] at hv670_1; replace hv670_1 := Option.some.inj (hv670_1.symm.trans hx670_1); injection hv670_1 with hva_ hvn_ hvc_; rw [hva_] at ge670_1; rw [hvc_] at ul670_1; have HL670_1 := Aside0.mk (show Kd.V (Kd.int .i64) 3 _ w.heap.size _ _ ((rd_T39 t664 a0).f1) from Kd.V_mk ul670_1 ge670_1); clear hva_ hvn_ hvc_ ge670_1 ul670_1; have hv670_2 := hcc670 2 _ rfl; rw [add_field _ _ 2 (by omega)] at hv670_2; replace hv670_2 := Option.some.inj (hv670_2.symm.trans hx670_2); injection hv670_2 with hva_ hvn_ hvc_; rw [hva_] at ge670_2; rw [hvc_] at ul670_2; have HL670_2 := Aside0.mk (show Kd.V (Kd.int .i64) 3 _ w.heap.size _ _ ((rd_T39 t664 a0).f2) from Kd.V_mk ul670_2 ge670_2); clear hva_ hvn_ hvc_ ge670_2 ul670_2; clear hcc670 hce670; have HR670_1 := Aside0.mk hi670_1; have HC670_1 := Aside0.mk hl670_1; clear hi670_1 hl670_1; have HR670_2 := Aside0.mk hi670_2; have HC670_2 := Aside0.mk hl670_2; clear hi670_2 hl670_2; replace p670 := eq_true p670; replace q670 := eq_true q670) | ((with_reducible refine gate_callee (f := 13) rfl ?_); refine goesL_ (some 45) rfl rfl Try.func13 (by kernel_rfl) rfl #[.string ((rd_T39 t664 a0).f0), .slice A1 l1.length c1] rfl (by (try simp only [List.map_toArray, List.map_cons, List.map_nil]); first | done | rfl | (simp only [List.length_drop, List.length_take]; rfl)) ?_; (with_reducible refine (impl_Encode.calls kj4 ((rd_T39 t664 a0).f0) _ _ l1 t671 true _ ?side1 ?side2 A16.out).mono ?_); (case side1 => repeat (first | exact (Kd.C_below HR1.out HB.out) | (with_reducible refine Kd.C_alloc ?_ _) | (with_reducible refine Kd.C_drewN ?_ _) | (with_reducible refine Kd.C_drew ?_))); (case side2 => exact HC1.out); rintro e w20 ⟨rfl, hb⟩; refine ⟨_, rfl, ?_⟩; have n0_ := Aside0.mk (Kd.N_below (by (with_reducible repeat (first | apply Kd.N_alloc | apply Kd.N_drewN | apply Kd.N_drew)); exact HO_5.out) hb); have n1_ := Aside0.mk (Kd.V_below (by (with_reducible repeat (first | apply Kd.V_alloc | apply Kd.V_drewN | apply Kd.V_drew)); exact HL667_1.out) hb); have n2_ := Aside0.mk (Kd.V_below (by (with_reducible repeat (first | apply Kd.V_alloc | apply Kd.V_drewN | apply Kd.V_drew)); exact HL667_2.out) hb); have n3_ := Aside0.mk (Kd.V_below (by (with_reducible repeat (first | apply Kd.V_alloc | apply Kd.V_drewN | apply Kd.V_drew)); exact HL670_1.out) hb); have n4_ := Aside0.mk (Kd.V_below (by (with_reducible repeat (first | apply Kd.V_alloc | apply Kd.V_drewN | apply Kd.V_drew)); exact HL670_2.out) hb); have n5_ := Aside0.mk (Kd.C_below (by repeat (first | (with_reducible exact HR667_1.out) | (with_reducible refine Kd.C_alloc ?_ _) | (with_reducible refine Kd.C_drewN ?_ _) | (with_reducible refine Kd.C_drew ?_) | exact HR667_1.out)) hb); have n6_ := Aside0.mk (Kd.C_below (by repeat (first | (with_reducible exact HR667_2.out) | (with_reducible refine Kd.C_alloc ?_ _) | (with_reducible refine Kd.C_drewN ?_ _) | (with_reducible refine Kd.C_drew ?_) | exact HR667_2.out)) hb); have n7_ := Aside0.mk (Kd.C_below (by repeat (first | (with_reducible exact HR670_1.out) | (with_reducible refine Kd.C_alloc ?_ _) | (with_reducible refine Kd.C_drewN ?_ _) | (with_reducible refine Kd.C_drew ?_) | exact HR670_1.out)) hb); have n8_ := Aside0.mk (Kd.C_below (by repeat (first | (with_reducible exact HR670_2.out) | (with_reducible refine Kd.C_alloc ?_ _) | (with_reducible refine Kd.C_drewN ?_ _) | (with_reducible refine Kd.C_drew ?_) | exact HR670_2.out)) hb); have n9_ := Aside0.mk (below_step (by repeat (first | (with_reducible first | exact HB.out | apply below_alloc | apply pw_below_drewN | apply below_drew1) | exact HB.out)) hb); clear HO_5; clear HL667_1; clear HL667_2; clear HL670_1; clear HL670_2; clear HR667_1; clear HR667_2; clear HR670_1; clear HR670_2; clear HB; have HO_5 := n0_; have HL667_1 := n1_; have HL667_2 := n2_; have HL670_1 := n3_; have HL670_2 := n4_; have HR667_1 := n5_; have HR667_2 := n6_; have HR670_1 := n7_; have HR670_2 := n8_; have HB := n9_; clear n0_ n1_ n2_ n3_ n4_ n5_ n6_ n7_ n8_ n9_; (try clear hb); (try clear hb2); (try clear hk); (try clear hi)))
                  go_ret
                  exact ⟨by first | rfl | (simp [errW_none, errW_some] <;> rfl) | (simp [*, errW_none, errW_some] <;> rfl), by repeat (first | (with_reducible first | exact HB.out | apply below_alloc | apply pw_below_drewN | apply below_drew1) | exact HB.out)⟩
                · replace c17 := Bool.eq_false_iff.mpr c17
                  subst c17
                  have H1 : (some false) = some r := by rw [if_neg (show ¬ (false = true) by decide)] at H; exact H
                  clear H
                  have H := H1
                  clear H1
                  obtain rfl := Option.some.inj H
                  obtain ⟨Ao21, co21, eo21⟩ := Kd.N_slice HO_5.out
                  subst eo21
                  have p667 : 0 ≤ (a0 : Int) := of_decide_eq_true (by first | (with_reducible assumption) | assumption)
                  have q667 : a0 < (t664.length : Int) := of_decide_eq_true (by first | (with_reducible assumption) | assumption)
                  obtain ⟨ad667, A667_1, c667_1, A667_2, c667_2, e667, hx667_0, hx667_1, hx667_2, hl667_1, hi667_1, hl667_2, hi667_2⟩ := at_T39 (Kd.N_reads' HO_5.out).2.2 a0 p667 q667
                  cases e667
                  obtain ⟨ce667, hce667, hMe667, hcc667⟩ := Kd.N_get HO_5.out z39 a0 p667 (by first | exact q667 | exact of_decide_eq_true (by first | (with_reducible assumption) | assumption) | (have e_ := (Kd.N_reads' HO_5.out).1; omega))
                  obtain ⟨ua667_1, uc667_1, ua667_2, uc667_2, rfl, ul667_1, ge667_1, ul667_2, ge667_2⟩ := k39_openF hMe667
                  have hv667_1 := hcc667 1 _ rfl
                  rw [add_field _ _ 1 (by omega)] at hv667_1
                  replace hv667_1 := Option.some.inj (hv667_1.symm.trans hx667_1)
                  injection hv667_1 with hva_ hvn_ hvc_
                  rw [hva_] at ge667_1
                  rw [hvc_] at ul667_1
                  have HL667_1 := Aside0.mk (show Kd.V (Kd.int .i64) 3 _ w.heap.size _ _ ((rd_T39 t664 a0).f1) from Kd.V_mk ul667_1 ge667_1)
                  clear hva_ hvn_ hvc_ ge667_1 ul667_1
                  have hv667_2 := hcc667 2 _ rfl
                  rw [add_field _ _ 2 (by omega)] at hv667_2
                  replace hv667_2 := Option.some.inj (hv667_2.symm.trans hx667_2)
                  injection hv667_2 with hva_ hvn_ hvc_
                  rw [hva_] at ge667_2
                  rw [hvc_] at ul667_2
                  have HL667_2 := Aside0.mk (show Kd.V (Kd.int .i64) 3 _ w.heap.size _ _ ((rd_T39 t664 a0).f2) from Kd.V_mk ul667_2 ge667_2)
                  clear hva_ hvn_ hvc_ ge667_2 ul667_2
                  clear hcc667 hce667
                  have HR667_1 := Aside0.mk hi667_1
                  have HC667_1 := Aside0.mk hl667_1
                  clear hi667_1 hl667_1
                  have HR667_2 := Aside0.mk hi667_2
                  have HC667_2 := Aside0.mk hl667_2
                  clear hi667_2 hl667_2
                  replace p667 := eq_true p667
                  replace q667 := eq_true q667
                  go_wp2_with (first | ((with_reducible refine gate_callee (f := 15) rfl ?_); refine goesL_ (some 33) rfl rfl Try.func15 (by kernel_rfl) rfl #[.agg #[.string ((rd_T39 t664 a0).f0), .slice A667_1 ((rd_T39 t664 a0).f1).length c667_1, .slice A667_2 ((rd_T39 t664 a0).f2).length c667_2], .slice A1 l1.length c1] rfl (by (try simp only [List.map_toArray, List.map_cons, List.map_nil]); first | done | rfl | (simp only [List.length_drop, List.length_take]; rfl)) ?_; (with_reducible refine (spec_CodeOf.calls kj4 ((rd_T39 t664 a0).f0) _ _ ((rd_T39 t664 a0).f1) _ _ ((rd_T39 t664 a0).f2) _ _ l1 t668 true _ ?side1 ?side2 ?side3 ?side4 ?side5 ?side6 A14.out).mono ?_); (case side1 => repeat (first | exact (by repeat (first | (with_reducible exact HR667_1.out) | (with_reducible refine Kd.C_alloc ?_ _) | (with_reducible refine Kd.C_drewN ?_ _) | (with_reducible refine Kd.C_drew ?_) | exact HR667_1.out)) | (with_reducible refine Kd.C_alloc ?_ _) | (with_reducible refine Kd.C_drewN ?_ _) | (with_reducible refine Kd.C_drew ?_))); (case side2 => exact HC667_1.out); (case side3 => repeat (first | exact (by repeat (first | (with_reducible exact HR667_2.out) | (with_reducible refine Kd.C_alloc ?_ _) | (with_reducible refine Kd.C_drewN ?_ _) | (with_reducible refine Kd.C_drew ?_) | exact HR667_2.out)) | (with_reducible refine Kd.C_alloc ?_ _) | (with_reducible refine Kd.C_drewN ?_ _) | (with_reducible refine Kd.C_drew ?_))); (case side4 => exact HC667_2.out); (case side5 => repeat (first | exact (Kd.C_below HR1.out HB.out) | (with_reducible refine Kd.C_alloc ?_ _) | (with_reducible refine Kd.C_drewN ?_ _) | (with_reducible refine Kd.C_drew ?_))); (case side6 => exact HC1.out); rintro e w22 ⟨rfl, hb⟩; refine ⟨_, rfl, ?_⟩; have n0_ := Aside0.mk (Kd.N_below (by (with_reducible repeat (first | apply Kd.N_alloc | apply Kd.N_drewN | apply Kd.N_drew)); exact HO_5.out) hb); have n1_ := Aside0.mk (Kd.V_below (by (with_reducible repeat (first | apply Kd.V_alloc | apply Kd.V_drewN | apply Kd.V_drew)); exact HL667_1.out) hb); have n2_ := Aside0.mk (Kd.V_below (by (with_reducible repeat (first | apply Kd.V_alloc | apply Kd.V_drewN | apply Kd.V_drew)); exact HL667_2.out) hb); have n3_ := Aside0.mk (Kd.C_below (by repeat (first | (with_reducible exact HR667_1.out) | (with_reducible refine Kd.C_alloc ?_ _) | (with_reducible refine Kd.C_drewN ?_ _) | (with_reducible refine Kd.C_drew ?_) | exact HR667_1.out)) hb); have n4_ := Aside0.mk (Kd.C_below (by repeat (first | (with_reducible exact HR667_2.out) | (with_reducible refine Kd.C_alloc ?_ _) | (with_reducible refine Kd.C_drewN ?_ _) | (with_reducible refine Kd.C_drew ?_) | exact HR667_2.out)) hb); have n5_ := Aside0.mk (below_step (by repeat (first | (with_reducible first | exact HB.out | apply below_alloc | apply pw_below_drewN | apply below_drew1) | exact HB.out)) hb); clear HO_5; clear HL667_1; clear HL667_2; clear HR667_1; clear HR667_2; clear HB; have HO_5 := n0_; have HL667_1 := n1_; have HL667_2 := n2_; have HR667_1 := n3_; have HR667_2 := n4_; have HB := n5_; clear n0_ n1_ n2_ n3_ n4_ n5_; (try clear hb); (try clear hb2); (try clear hk); (try clear hi); have p670 : 0 ≤ (a0 : Int) := of_decide_eq_true (by first | (with_reducible assumption) | assumption); have q670 : a0 < (t664.length : Int) := of_decide_eq_true (by first | (with_reducible assumption) | assumption); obtain ⟨ad670, A670_1, c670_1, A670_2, c670_2, e670, hx670_0, hx670_1, hx670_2, hl670_1, hi670_1, hl670_2, hi670_2⟩ := at_T39 (Kd.N_reads' HO_5.out).2.2 a0 p670 q670; obtain rfl : ad667 = ad670 := (by injection e670); obtain ⟨ce670, hce670, hMe670, hcc670⟩ := Kd.N_get HO_5.out z39 a0 p670 (by first | exact q670 | exact of_decide_eq_true (by first | (with_reducible assumption) | assumption) | (have e_ := (Kd.N_reads' HO_5.out).1; omega)); obtain ⟨ua670_1, uc670_1, ua670_2, uc670_2, rfl, ul670_1, ge670_1, ul670_2, ge670_2⟩ := k39_openF hMe670; have hv670_1 := hcc670 1 _ rfl; rw [add_field _ _ 1 (by omega)] at hv670_1; replace hv670_1 := Option.some.inj (hv670_1.symm.trans hx670_1); injection hv670_1 with hva_ hvn_ hvc_; rw [hva_] at ge670_1; rw [hvc_] at ul670_1; have HL670_1 := Aside0.mk (show Kd.V (Kd.int .i64) 3 _ w.heap.size _ _ ((rd_T39 t664 a0).f1) from Kd.V_mk ul670_1 ge670_1); clear hva_ hvn_ hvc_ ge670_1 ul670_1; have hv670_2 := hcc670 2 _ rfl; rw [add_field _ _ 2 (by omega)] at hv670_2; replace hv670_2 := Option.some.inj (hv670_2.symm.trans hx670_2); injection hv670_2 with hva_ hvn_ hvc_; rw [hva_] at ge670_2; rw [hvc_] at ul670_2; have HL670_2 := Aside0.mk (show Kd.V (Kd.int .i64) 3 _ w.heap.size _ _ ((rd_T39 t664 a0).f2) from Kd.V_mk ul670_2 ge670_2); clear hva_ hvn_ hvc_ ge670_2 ul670_2; clear hcc670 hce670; have HR670_1 := Aside0.mk hi670_1; have HC670_1 := Aside0.mk hl670_1; clear hi670_1 hl670_1; have HR670_2 := Aside0.mk hi670_2; have HC670_2 := Aside0.mk hl670_2; clear hi670_2 hl670_2; replace p670 := eq_true p670; replace q670 := eq_true q670) | ((with_reducible refine gate_callee (f := 13) rfl ?_); refine goesL_ (some 45) rfl rfl Try.func13 (by kernel_rfl) rfl #[.string ((rd_T39 t664 a0).f0), .slice A1 l1.length c1] rfl (by (try simp only [List.map_toArray, List.map_cons, List.map_nil]); first | done | rfl | (simp only [List.length_drop, List.length_take]; rfl)) ?_; (with_reducible refine (impl_Encode.calls kj4 ((rd_T39 t664 a0).f0) _ _ l1 t671 false _ ?side1 ?side2 A16.out).mono ?_); (case side1 => repeat (first | exact (Kd.C_below HR1.out HB.out) | (with_reducible refine Kd.C_alloc ?_ _) | (with_reducible refine Kd.C_drewN ?_ _) | (with_reducible refine Kd.C_drew ?_))); (case side2 => exact HC1.out); rintro e w23 ⟨rfl, hb⟩; refine ⟨_, rfl, ?_⟩; have n0_ := Aside0.mk (Kd.N_below (by (with_reducible repeat (first | apply Kd.N_alloc | apply Kd.N_drewN | apply Kd.N_drew)); exact HO_5.out) hb); have n1_ := Aside0.mk (Kd.V_below (by (with_reducible repeat (first | apply Kd.V_alloc | apply Kd.V_drewN | apply Kd.V_drew)); exact HL667_1.out) hb); have n2_ := Aside0.mk (Kd.V_below (by (with_reducible repeat (first | apply Kd.V_alloc | apply Kd.V_drewN | apply Kd.V_drew)); exact HL667_2.out) hb); have n3_ := Aside0.mk (Kd.V_below (by (with_reducible repeat (first | apply Kd.V_alloc | apply Kd.V_drewN | apply Kd.V_drew)); exact HL670_1.out) hb); have n4_ := Aside0.mk (Kd.V_below (by (with_reducible repeat (first | apply Kd.V_alloc | apply Kd.V_drewN | apply Kd.V_drew)); exact HL670_2.out) hb); have n5_ := Aside0.mk (Kd.C_below (by repeat (first | (with_reducible exact HR667_1.out) | (with_reducible refine Kd.C_alloc ?_ _) | (with_reducible refine Kd.C_drewN ?_ _) | (with_reducible refine Kd.C_drew ?_) | exact HR667_1.out)) hb); have n6_ := Aside0.mk (Kd.C_below (by repeat (first | (with_reducible exact HR667_2.out) | (with_reducible refine Kd.C_alloc ?_ _) | (with_reducible refine Kd.C_drewN ?_ _) | (with_reducible refine Kd.C_drew ?_) | exact HR667_2.out)) hb); have n7_ := Aside0.mk (Kd.C_below (by repeat (first | (with_reducible exact HR670_1.out) | (with_reducible refine Kd.C_alloc ?_ _) | (with_reducible refine Kd.C_drewN ?_ _) | (with_reducible refine Kd.C_drew ?_) | exact HR670_1.out)) hb); have n8_ := Aside0.mk (Kd.C_below (by repeat (first | (with_reducible exact HR670_2.out) | (with_reducible refine Kd.C_alloc ?_ _) | (with_reducible refine Kd.C_drewN ?_ _) | (with_reducible refine Kd.C_drew ?_) | exact HR670_2.out)) hb); have n9_ := Aside0.mk (below_step (by repeat (first | (with_reducible first | exact HB.out | apply below_alloc | apply pw_below_drewN | apply below_drew1) | exact HB.out)) hb); clear HO_5; clear HL667_1; clear HL667_2; clear HL670_1; clear HL670_2; clear HR667_1; clear HR667_2; clear HR670_1; clear HR670_2; clear HB; have HO_5 := n0_; have HL667_1 := n1_; have HL667_2 := n2_; have HL670_1 := n3_; have HL670_2 := n4_; have HR667_1 := n5_; have HR667_2 := n6_; have HR670_1 := n7_; have HR670_2 := n8_; have HB := n9_; clear n0_ n1_ n2_ n3_ n4_ n5_ n6_ n7_ n8_ n9_; (try clear hb); (try clear hb2); (try clear hk); (try clear hi)))
                  go_ret
                  exact ⟨by first | rfl | (simp [errW_none, errW_some] <;> rfl) | (simp [*, errW_none, errW_some] <;> rfl), by repeat (first | (with_reducible first | exact HB.out | apply below_alloc | apply pw_below_drewN | apply below_drew1) | exact HB.out)⟩
              · replace c15 := Bool.eq_false_iff.mpr c15
                subst c15
                have H1 : (some true) = some r := by rw [if_neg (show ¬ (false = true) by decide)] at H; exact H
                clear H
                have H := H1
                clear H1
                obtain rfl := Option.some.inj H
                obtain ⟨Ao24, co24, eo24⟩ := Kd.N_slice HO_5.out
                subst eo24
                have p667 : 0 ≤ (a0 : Int) := of_decide_eq_true (by first | (with_reducible assumption) | assumption)
                have q667 : a0 < (t664.length : Int) := of_decide_eq_true (by first | (with_reducible assumption) | assumption)
                obtain ⟨ad667, A667_1, c667_1, A667_2, c667_2, e667, hx667_0, hx667_1, hx667_2, hl667_1, hi667_1, hl667_2, hi667_2⟩ := at_T39 (Kd.N_reads' HO_5.out).2.2 a0 p667 q667
                cases e667
                obtain ⟨ce667, hce667, hMe667, hcc667⟩ := Kd.N_get HO_5.out z39 a0 p667 (by first | exact q667 | exact of_decide_eq_true (by first | (with_reducible assumption) | assumption) | (have e_ := (Kd.N_reads' HO_5.out).1; omega))
                obtain ⟨ua667_1, uc667_1, ua667_2, uc667_2, rfl, ul667_1, ge667_1, ul667_2, ge667_2⟩ := k39_openF hMe667
                have hv667_1 := hcc667 1 _ rfl
                rw [add_field _ _ 1 (by omega)] at hv667_1
                replace hv667_1 := Option.some.inj (hv667_1.symm.trans hx667_1)
                injection hv667_1 with hva_ hvn_ hvc_
                rw [hva_] at ge667_1
                rw [hvc_] at ul667_1
                have HL667_1 := Aside0.mk (show Kd.V (Kd.int .i64) 3 _ w.heap.size _ _ ((rd_T39 t664 a0).f1) from Kd.V_mk ul667_1 ge667_1)
                clear hva_ hvn_ hvc_ ge667_1 ul667_1
                have hv667_2 := hcc667 2 _ rfl
                rw [add_field _ _ 2 (by omega)] at hv667_2
                replace hv667_2 := Option.some.inj (hv667_2.symm.trans hx667_2)
                injection hv667_2 with hva_ hvn_ hvc_
                rw [hva_] at ge667_2
                rw [hvc_] at ul667_2
                have HL667_2 := Aside0.mk (show Kd.V (Kd.int .i64) 3 _ w.heap.size _ _ ((rd_T39 t664 a0).f2) from Kd.V_mk ul667_2 ge667_2)
                clear hva_ hvn_ hvc_ ge667_2 ul667_2
                clear hcc667 hce667
                have HR667_1 := Aside0.mk hi667_1
                have HC667_1 := Aside0.mk hl667_1
                clear hi667_1 hl667_1
                have HR667_2 := Aside0.mk hi667_2
                have HC667_2 := Aside0.mk hl667_2
                clear hi667_2 hl667_2
                replace p667 := eq_true p667
                replace q667 := eq_true q667
                go_wp2_with (first | ((with_reducible refine gate_callee (f := 15) rfl ?_); refine goesL_ (some 33) rfl rfl Try.func15 (by kernel_rfl) rfl #[.agg #[.string ((rd_T39 t664 a0).f0), .slice A667_1 ((rd_T39 t664 a0).f1).length c667_1, .slice A667_2 ((rd_T39 t664 a0).f2).length c667_2], .slice A1 l1.length c1] rfl (by (try simp only [List.map_toArray, List.map_cons, List.map_nil]); first | done | rfl | (simp only [List.length_drop, List.length_take]; rfl)) ?_; (with_reducible refine (spec_CodeOf.calls kj4 ((rd_T39 t664 a0).f0) _ _ ((rd_T39 t664 a0).f1) _ _ ((rd_T39 t664 a0).f2) _ _ l1 t668 false _ ?side1 ?side2 ?side3 ?side4 ?side5 ?side6 A14.out).mono ?_); (case side1 => repeat (first | exact (by repeat (first | (with_reducible exact HR667_1.out) | (with_reducible refine Kd.C_alloc ?_ _) | (with_reducible refine Kd.C_drewN ?_ _) | (with_reducible refine Kd.C_drew ?_) | exact HR667_1.out)) | (with_reducible refine Kd.C_alloc ?_ _) | (with_reducible refine Kd.C_drewN ?_ _) | (with_reducible refine Kd.C_drew ?_))); (case side2 => exact HC667_1.out); (case side3 => repeat (first | exact (by repeat (first | (with_reducible exact HR667_2.out) | (with_reducible refine Kd.C_alloc ?_ _) | (with_reducible refine Kd.C_drewN ?_ _) | (with_reducible refine Kd.C_drew ?_) | exact HR667_2.out)) | (with_reducible refine Kd.C_alloc ?_ _) | (with_reducible refine Kd.C_drewN ?_ _) | (with_reducible refine Kd.C_drew ?_))); (case side4 => exact HC667_2.out); (case side5 => repeat (first | exact (Kd.C_below HR1.out HB.out) | (with_reducible refine Kd.C_alloc ?_ _) | (with_reducible refine Kd.C_drewN ?_ _) | (with_reducible refine Kd.C_drew ?_))); (case side6 => exact HC1.out); rintro e w25 ⟨rfl, hb⟩; refine ⟨_, rfl, ?_⟩; have n0_ := Aside0.mk (Kd.N_below (by (with_reducible repeat (first | apply Kd.N_alloc | apply Kd.N_drewN | apply Kd.N_drew)); exact HO_5.out) hb); have n1_ := Aside0.mk (Kd.V_below (by (with_reducible repeat (first | apply Kd.V_alloc | apply Kd.V_drewN | apply Kd.V_drew)); exact HL667_1.out) hb); have n2_ := Aside0.mk (Kd.V_below (by (with_reducible repeat (first | apply Kd.V_alloc | apply Kd.V_drewN | apply Kd.V_drew)); exact HL667_2.out) hb); have n3_ := Aside0.mk (Kd.C_below (by repeat (first | (with_reducible exact HR667_1.out) | (with_reducible refine Kd.C_alloc ?_ _) | (with_reducible refine Kd.C_drewN ?_ _) | (with_reducible refine Kd.C_drew ?_) | exact HR667_1.out)) hb); have n4_ := Aside0.mk (Kd.C_below (by repeat (first | (with_reducible exact HR667_2.out) | (with_reducible refine Kd.C_alloc ?_ _) | (with_reducible refine Kd.C_drewN ?_ _) | (with_reducible refine Kd.C_drew ?_) | exact HR667_2.out)) hb); have n5_ := Aside0.mk (below_step (by repeat (first | (with_reducible first | exact HB.out | apply below_alloc | apply pw_below_drewN | apply below_drew1) | exact HB.out)) hb); clear HO_5; clear HL667_1; clear HL667_2; clear HR667_1; clear HR667_2; clear HB; have HO_5 := n0_; have HL667_1 := n1_; have HL667_2 := n2_; have HR667_1 := n3_; have HR667_2 := n4_; have HB := n5_; clear n0_ n1_ n2_ n3_ n4_ n5_; (try clear hb); (try clear hb2); (try clear hk); (try clear hi)))
                go_ret
                exact ⟨by first | rfl | (simp [errW_none, errW_some] <;> rfl) | (simp [*, errW_none, errW_some] <;> rfl), by repeat (first | (with_reducible first | exact HB.out | apply below_alloc | apply pw_below_drewN | apply below_drew1) | exact HB.out)⟩
            · rw [if_neg c13] at H
              exact absurd H (by simp)
          · rw [if_neg c12] at H
            exact absurd H (by simp)

/-- THE ONE PURE STATEMENT of laws_FnCodes: yours. -/
def laws_FnCodes.Pure : Prop := ∀ (a0 : Int) (l1 : List Int), (Lit.int .i64 a0).wf = true → l1.length ≤ maxLen → l1.length * 8 ≤ 140737488351232 → (∀ x ∈ l1, (Lit.int .i64 x).wf = true) → ∃ k, laws_FnCodes.f k a0 l1 = some true
theorem laws_FnCodes.walk (P : laws_FnCodes.Pure) (a0 : Int) (a1 : Option Addr) (len1 cap1 : Nat) (z1 : List Int) (w : World) (w0 : (Lit.int .i64 a0).wf = true) (w1 : (a1 = none ∧ len1 = 0 ∧ cap1 = 0 ∧ z1 = []) ∨ ∃ x, a1 = some x ∧ len1 ≤ cap1 ∧ cap1 ≤ maxLen ∧ z1.length = cap1 ∧ (∀ i, i < z1.length → w.cell? (x.add i) = some (.int .i64 (z1.getD i 0))) ∧ ∀ n ∈ z1, (Lit.int .i64 n).wf = true) (y1 : len1 * 8 ≤ 140737488351232) :
    Calls Try.prog 6 #[.int .i64 a0, .slice a1 len1 cap1] w fun e w' => e = .returned (.bool true) ∧ Below w.heap.size w w' := by
  obtain ⟨l1, rfl, hr1, hm1, hw1, hc1⟩ := ReadsInt.ofRowC w1
  obtain ⟨k, h⟩ := P a0 l1 w0 hm1 y1 hw1
  refine (laws_FnCodes.calls k a0 _ _ l1 true w (Kd.C_of_reads (d := (0 : Int)) (h1 := fun _ => rfl) hr1) hc1 h).mono ?_
  rintro e w' ⟨rfl, hd⟩
  exact ⟨rfl, hd⟩

end Go.Proofs.Ytnfkdmoblncclaa.X
