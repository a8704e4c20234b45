/- Whether numbers might be told with a sign, or a field is wider than what stands in it. -/
import Derived.Test.YtnfkdmoblncclaaXPut
namespace Go.Proofs.Ytnfkdmoblncclaa.X
open Go.RowKit Go.Proofs.YtnfkdmoblncclaaW.PrintWords Go.Proofs.YtnfkdmoblncclaaW.PrintLast Go.Proofs.YtnfkdmoblncclaaW.PrintMore
attribute [local go_sem] max2_int min2_int max_two min_two max_three min_three max_four min_four   -- for this text's walks alone
set_option linter.unusedVariables false
set_option linter.unusedSimpArgs false

/-! ### laws_fits: function 16 -/
def laws_fits.l0 : Nat → ByteArray → List Int → Int → Option (Bool)
  | 0, _, _, _ => none
  | k + 1, x0, x1, x5 => if x5 < (x1.length : Int) then (if 0 ≤ x5 then (if (rd x1 x5) < 0 then (some true) else (if x5 < (x0.size : Int) then ((spec_Size.f k (bt x0 x5)).bind fun t578 => (if 0 ≤ t578 then (if (rd x1 x5) ≥ (shl .i64 1 t578) then (if (bt x0 x5) = 84 then (laws_fits.l0 k x0 x1 (wrap64 (x5 + 1))) else (if (bt x0 x5) = 65 then (laws_fits.l0 k x0 x1 (wrap64 (x5 + 1))) else (if (bt x0 x5) = 66 then (laws_fits.l0 k x0 x1 (wrap64 (x5 + 1))) else (if (bt x0 x5) = 105 then (laws_fits.l0 k x0 x1 (wrap64 (x5 + 1))) else (if (bt x0 x5) = 106 then (laws_fits.l0 k x0 x1 (wrap64 (x5 + 1))) else (if (bt x0 x5) = 107 then (laws_fits.l0 k x0 x1 (wrap64 (x5 + 1))) else (if (bt x0 x5) = 113 then (laws_fits.l0 k x0 x1 (wrap64 (x5 + 1))) else (some true)))))))) else (laws_fits.l0 k x0 x1 (wrap64 (x5 + 1)))) else (none))) else (none))) else (none)) else (some false)
def laws_fits.f (k : Nat) (a0 : ByteArray) (l1 : List Int) : Option (Bool) := if (l1.length : Int) = (a0.size : Int) then (laws_fits.l0 k a0 l1 0) else (some false)
theorem laws_fits.mono_l : ∀ k, (∀ y0 y1 y2, LeO (laws_fits.l0 k y0 y1 y2) (laws_fits.l0 (k + 1) y0 y1 y2))
  | 0 => fun _ _ _ r h => by simp [laws_fits.l0] at h
  | k + 1 => by
    have ih0 := laws_fits.mono_l k
    · intro y0 y1 y2
      unfold laws_fits.l0
      repeat' first
      | (with_reducible exact ih0 _ _ _)
      | (with_reducible exact spec_Size.mono _ _)
      | (with_reducible exact LeO.refl _)
      | (with_reducible exact LeO.none _)
      | (with_reducible refine LeO.ite ?_ ?_)
      | (with_reducible refine LeO.bind ?_ (fun _ => ?_))
      | exact ih0 _ _ _
      | exact spec_Size.mono _ _
      | exact LeO.none _
      | refine LeO.ite ?_ ?_
      | refine LeO.bind ?_ (fun _ => ?_)
theorem laws_fits.mono : ∀ a0 a1 k, LeO (laws_fits.f k a0 a1) (laws_fits.f (k + 1) a0 a1) := by
  intro a0 a1 k
  have ih0 := laws_fits.mono_l k
  unfold laws_fits.f
  repeat' first
      | (with_reducible exact ih0 _ _ _)
      | (with_reducible exact spec_Size.mono _ _)
      | (with_reducible exact LeO.refl _)
      | (with_reducible exact LeO.none _)
      | (with_reducible refine LeO.ite ?_ ?_)
      | (with_reducible refine LeO.bind ?_ (fun _ => ?_))
      | exact ih0 _ _ _
      | exact spec_Size.mono _ _
      | exact LeO.none _
      | refine LeO.ite ?_ ?_
      | refine LeO.bind ?_ (fun _ => ?_)
set_option maxHeartbeats 8000000 in
set_option maxRecDepth 100000 in
theorem laws_fits.calls (k : Nat) (a0 : ByteArray) (A1 : Option Addr) (c1 : Nat) (l1 : List Int) (r : Bool) (w : World) (hr1 : Kd.C (Kd.int .i64) w A1 l1.length l1) (hc1 : l1.length ≤ c1) (h : laws_fits.f k a0 l1 = some r) :
    Calls Try.prog 16 #[.string a0, .slice A1 l1.length c1] w fun e w' => e = .returned (.bool r) ∧ Drawn0 w w' := by
  have HR1 := Aside0.mk hr1
  have HC1 := Aside0.mk hc1
  clear hr1 hc1
  have H : (if (l1.length : Int) = (a0.size : Int) then (laws_fits.l0 k a0 l1 0) else (some false)) = some r := h
  clear h
  by_cases c3 : (l1.length : Int) = (a0.size : Int)
  · rw [if_pos c3] at H
    have c3b0 : ((l1.length : Int) == (a0.size : Int)) = true := beq_iff_eq.mpr c3
    have c3b1 : ((l1.length : Int) != (a0.size : Int)) = false := bne_eq_false_iff_eq.mpr c3
    have c3b2 : (l1.length == a0.size) = true := by first | simpa using c3 | (simp at c3 ⊢; omega)
    clear c3
    have H' := Aside0.mk H
    clear H
    go_enter Try.func16, Try.ntmps16
    go_wp2
    repeat (go_quiet (fail); try go_wp2)
    go_loopg [5] k (fun kq v5 w' => ∃ (x5_1 : Int), v5 = .int .i64 x5_1 ∧ Aside0 (laws_fits.l0 kq a0 l1 x5_1 = some r) ∧ Aside0 (kq ≤ k) ∧ Drawn0 w w')
    case atStart => exact ⟨(0), (by first | rfl | (simp; done) | (simp [*]; done)), H', ⟨Nat.le_refl _⟩, by repeat (first | exact Drawn0.refl _ | apply Drawn0.step)⟩
    case round =>
      clear H'
      try clear c1
      try clear p2
      try clear c3
      try clear c3b0
      try clear c3b1
      try clear c3b2
      obtain ⟨x5_1, rfl, HA, HK1, ⟨m1, rfl⟩⟩ := hrel
      cases gk with
      | zero => exact absurd HA.out (by simp [laws_fits.l0])
      | succ k1 =>
        have H := HA.out
        clear HA
        simp only [laws_fits.l0] at H
        by_cases c4 : x5_1 < (l1.length : Int)
        · rw [if_pos c4] at H
          have c4b0 : decide (x5_1 < (l1.length : Int)) = true := decide_eq_true c4
          clear c4
          by_cases c5 : 0 ≤ x5_1
          · rw [if_pos c5] at H
            have c5b0 : decide (0 ≤ x5_1) = true := decide_eq_true c5
            clear c5
            by_cases c6 : (rd l1 x5_1) < 0
            · rw [if_pos c6] at H
              have c6b0 : decide ((rd l1 x5_1) < 0) = true := decide_eq_true c6
              clear c6
              obtain rfl := Option.some.inj H
              have p576 : 0 ≤ (x5_1 : Int) := of_decide_eq_true (by first | (with_reducible assumption) | assumption)
              have q576 : x5_1 < (l1.length : Int) := of_decide_eq_true (by first | (with_reducible assumption) | assumption)
              obtain ⟨ad576, e576, hx576_0⟩ := Kd.at_int HR1.out x5_1 p576 q576
              cases e576
              replace p576 := eq_true p576
              replace q576 := eq_true q576
              go_wp2
              repeat (go_quiet (fail); try go_wp2)
              go_ret
              exact ⟨by first | rfl | (simp; done) | (simp [*]; done), by repeat (first | exact Drawn0.refl _ | apply Drawn0.step)⟩
            · rw [if_neg c6] at H
              have c6b0 : decide ((rd l1 x5_1) < 0) = false := decide_eq_false c6
              clear c6
              by_cases c7 : x5_1 < (a0.size : Int)
              · rw [if_pos c7] at H
                have c7b0 : decide (x5_1 < (a0.size : Int)) = true := decide_eq_true c7
                clear c7
                replace H := Option.bind_eq_some_iff.mp H
                obtain ⟨t578, A90, H⟩ := H
                replace H : (if 0 ≤ t578 then (if (rd l1 x5_1) ≥ (shl .i64 1 t578) then (if (bt a0 x5_1) = 84 then (laws_fits.l0 k1 a0 l1 (wrap64 (x5_1 + 1))) else (if (bt a0 x5_1) = 65 then (laws_fits.l0 k1 a0 l1 (wrap64 (x5_1 + 1))) else (if (bt a0 x5_1) = 66 then (laws_fits.l0 k1 a0 l1 (wrap64 (x5_1 + 1))) else (if (bt a0 x5_1) = 105 then (laws_fits.l0 k1 a0 l1 (wrap64 (x5_1 + 1))) else (if (bt a0 x5_1) = 106 then (laws_fits.l0 k1 a0 l1 (wrap64 (x5_1 + 1))) else (if (bt a0 x5_1) = 107 then (laws_fits.l0 k1 a0 l1 (wrap64 (x5_1 + 1))) else (if (bt a0 x5_1) = 113 then (laws_fits.l0 k1 a0 l1 (wrap64 (x5_1 + 1))) else (some true)))))))) else (laws_fits.l0 k1 a0 l1 (wrap64 (x5_1 + 1)))) else (none)) = some r := H
                have A9 := Aside0.mk A90
                clear A90
                by_cases c10 : 0 ≤ t578
                · rw [if_pos c10] at H
                  have c10b0 := eq_true c10
                  have c10b1 : decide (0 ≤ t578) = true := decide_eq_true c10
                  clear c10
                  obtain ⟨ji11, hji11⟩ : ∃ j_ : Int, (shl .i64 1 t578) = j_ := ⟨_, rfl⟩
                  replace H : (if (rd l1 x5_1) ≥ (ji11) then (if (bt a0 x5_1) = 84 then (laws_fits.l0 k1 a0 l1 (wrap64 (x5_1 + 1))) else (if (bt a0 x5_1) = 65 then (laws_fits.l0 k1 a0 l1 (wrap64 (x5_1 + 1))) else (if (bt a0 x5_1) = 66 then (laws_fits.l0 k1 a0 l1 (wrap64 (x5_1 + 1))) else (if (bt a0 x5_1) = 105 then (laws_fits.l0 k1 a0 l1 (wrap64 (x5_1 + 1))) else (if (bt a0 x5_1) = 106 then (laws_fits.l0 k1 a0 l1 (wrap64 (x5_1 + 1))) else (if (bt a0 x5_1) = 107 then (laws_fits.l0 k1 a0 l1 (wrap64 (x5_1 + 1))) else (if (bt a0 x5_1) = 113 then (laws_fits.l0 k1 a0 l1 (wrap64 (x5_1 + 1))) else (some true)))))))) else (laws_fits.l0 k1 a0 l1 (wrap64 (x5_1 + 1)))) = some r := by first | (rw [hji11] at H; exact H) | (simp only [hji11] at H ⊢; exact H)
                  (try rw [hji11] at A9)
                  have hji11_ : (IntKind.i64.wrap (1 * 2 ^ min t578.toNat 64)) = ji11 := hji11
                  have hji11z : t578 ≤ 64 → (IntKind.i64.wrap (1 * 2 ^ t578.toNat)) = ji11 := shl_small hji11
                  have hji11u : (IntKind.i64.wrap (2 ^ min t578.toNat 64)) = ji11 := by have h_ := hji11_; rw [Int.one_mul] at h_; exact h_
                  have hji11v : t578 ≤ 64 → (IntKind.i64.wrap (2 ^ t578.toNat)) = ji11 := fun hle_ => by have h_ := hji11z hle_; rw [Int.one_mul] at h_; exact h_
                  have hji11y : (wrap64 (1 * 2 ^ min t578.toNat 64)) = ji11 := (i64_w _).symm.trans hji11_
                  have hji11x : t578 ≤ 64 → (wrap64 (1 * 2 ^ t578.toNat)) = ji11 := fun h_ => (i64_w _).symm.trans (hji11z h_)
                  by_cases c12 : (rd l1 x5_1) ≥ (ji11)
                  · rw [if_pos c12] at H
                    have c12b0 : decide ((ji11) ≤ (rd l1 x5_1)) = true := decide_eq_true c12
                    clear c12
                    by_cases c14 : (bt a0 x5_1) = 84
                    · rw [if_pos c14] at H
                      have c14b0 : ((bt a0 x5_1) == 84) = true := beq_iff_eq.mpr c14
                      have c14b1 : ((bt a0 x5_1) != 84) = false := bne_eq_false_iff_eq.mpr c14
                      clear c14
                      have H' := Aside0.mk H
                      clear H
                      have p576 : 0 ≤ (x5_1 : Int) := of_decide_eq_true (by first | (with_reducible assumption) | assumption)
                      have q576 : x5_1 < (l1.length : Int) := of_decide_eq_true (by first | (with_reducible assumption) | assumption)
                      obtain ⟨ad576, e576, hx576_0⟩ := Kd.at_int HR1.out x5_1 p576 q576
                      cases e576
                      replace p576 := eq_true p576
                      replace q576 := eq_true q576
                      have p577 : 0 ≤ (x5_1 : Int) := of_decide_eq_true (by first | (with_reducible assumption) | assumption)
                      have q577 : x5_1 < (l1.length : Int) := of_decide_eq_true (by first | (with_reducible assumption) | assumption)
                      obtain ⟨ad577, e577, hx577_0⟩ := Kd.at_int HR1.out x5_1 p577 q577
                      obtain rfl : ad576 = ad577 := (by injection e577)
                      replace p577 := eq_true p577
                      replace q577 := eq_true q577
                      have p8 : 0 ≤ (x5_1 : Int) := of_decide_eq_true (by first | (with_reducible assumption) | assumption)
                      have q8 : x5_1 < (a0.size : Int) := of_decide_eq_true (by first | (with_reducible assumption) | assumption)
                      have hx8 := bt_at a0 x5_1
                      replace p8 := eq_true p8
                      replace q8 := eq_true q8
                      go_wp2_with (first | (go_at_call 19; (with_reducible refine (spec_Size.calls k1 (bt a0 x5_1) t578 _ A9.out).mono ?_); rintro e w' ⟨rfl, ⟨nd, rfl⟩⟩; (try first | exact ⟨rfl, _, World.drewN_drewN _ _ _⟩ | exact ⟨rfl, _, Eq.trans (World.drewN_drewN _ _ _) (congrArg (World.drewN _) (Nat.add_assoc _ _ _))⟩); have p13 : 0 ≤ (x5_1 : Int) := of_decide_eq_true (by first | (with_reducible assumption) | assumption); have q13 : x5_1 < (a0.size : Int) := of_decide_eq_true (by first | (with_reducible assumption) | assumption); have hx13 := bt_at a0 x5_1; replace p13 := eq_true p13; replace q13 := eq_true q13))
                      repeat (go_quiet (first | (go_at_call 19; (with_reducible refine (spec_Size.calls k1 (bt a0 x5_1) t578 _ A9.out).mono ?_); rintro e w' ⟨rfl, ⟨nd, rfl⟩⟩; (try first | exact ⟨rfl, _, World.drewN_drewN _ _ _⟩ | exact ⟨rfl, _, Eq.trans (World.drewN_drewN _ _ _) (congrArg (World.drewN _) (Nat.add_assoc _ _ _))⟩); have p13 : 0 ≤ (x5_1 : Int) := of_decide_eq_true (by first | (with_reducible assumption) | assumption); have q13 : x5_1 < (a0.size : Int) := of_decide_eq_true (by first | (with_reducible assumption) | assumption); have hx13 := bt_at a0 x5_1; replace p13 := eq_true p13; replace q13 := eq_true q13)); try go_wp2_with (first | (go_at_call 19; (with_reducible refine (spec_Size.calls k1 (bt a0 x5_1) t578 _ A9.out).mono ?_); rintro e w' ⟨rfl, ⟨nd, rfl⟩⟩; (try first | exact ⟨rfl, _, World.drewN_drewN _ _ _⟩ | exact ⟨rfl, _, Eq.trans (World.drewN_drewN _ _ _) (congrArg (World.drewN _) (Nat.add_assoc _ _ _))⟩); have p13 : 0 ≤ (x5_1 : Int) := of_decide_eq_true (by first | (with_reducible assumption) | assumption); have q13 : x5_1 < (a0.size : Int) := of_decide_eq_true (by first | (with_reducible assumption) | assumption); have hx13 := bt_at a0 x5_1; replace p13 := eq_true p13; replace q13 := eq_true q13)))
                      go_roundg k1
                      case measure => have := HK1.out; omega
                      case rel => exact ⟨(wrap64 (x5_1 + 1)), (by first | rfl | (simp; done) | (simp [*]; done)), H', ⟨by have := HK1.out; omega⟩, by repeat (first | exact Drawn0.refl _ | apply Drawn0.step)⟩
                    · rw [if_neg c14] at H
                      have c14b0 : ((bt a0 x5_1) == 84) = false := beq_eq_false_iff_ne.mpr c14
                      have c14b1 : ((bt a0 x5_1) != 84) = true := bne_iff_ne.mpr c14
                      by_cases c16 : (bt a0 x5_1) = 65
                      · rw [if_pos c16] at H
                        have c16b0 : ((bt a0 x5_1) == 65) = true := beq_iff_eq.mpr c16
                        have c16b1 : ((bt a0 x5_1) != 65) = false := bne_eq_false_iff_eq.mpr c16
                        clear c16
                        have H' := Aside0.mk H
                        clear H
                        have p576 : 0 ≤ (x5_1 : Int) := of_decide_eq_true (by first | (with_reducible assumption) | assumption)
                        have q576 : x5_1 < (l1.length : Int) := of_decide_eq_true (by first | (with_reducible assumption) | assumption)
                        obtain ⟨ad576, e576, hx576_0⟩ := Kd.at_int HR1.out x5_1 p576 q576
                        cases e576
                        replace p576 := eq_true p576
                        replace q576 := eq_true q576
                        have p577 : 0 ≤ (x5_1 : Int) := of_decide_eq_true (by first | (with_reducible assumption) | assumption)
                        have q577 : x5_1 < (l1.length : Int) := of_decide_eq_true (by first | (with_reducible assumption) | assumption)
                        obtain ⟨ad577, e577, hx577_0⟩ := Kd.at_int HR1.out x5_1 p577 q577
                        obtain rfl : ad576 = ad577 := (by injection e577)
                        replace p577 := eq_true p577
                        replace q577 := eq_true q577
                        have p8 : 0 ≤ (x5_1 : Int) := of_decide_eq_true (by first | (with_reducible assumption) | assumption)
                        have q8 : x5_1 < (a0.size : Int) := of_decide_eq_true (by first | (with_reducible assumption) | assumption)
                        have hx8 := bt_at a0 x5_1
                        replace p8 := eq_true p8
                        replace q8 := eq_true q8
                        go_wp2_with (first | (go_at_call 19; (with_reducible refine (spec_Size.calls k1 (bt a0 x5_1) t578 _ A9.out).mono ?_); rintro e w' ⟨rfl, ⟨nd, rfl⟩⟩; (try first | exact ⟨rfl, _, World.drewN_drewN _ _ _⟩ | exact ⟨rfl, _, Eq.trans (World.drewN_drewN _ _ _) (congrArg (World.drewN _) (Nat.add_assoc _ _ _))⟩); have p13 : 0 ≤ (x5_1 : Int) := of_decide_eq_true (by first | (with_reducible assumption) | assumption); have q13 : x5_1 < (a0.size : Int) := of_decide_eq_true (by first | (with_reducible assumption) | assumption); have hx13 := bt_at a0 x5_1; replace p13 := eq_true p13; replace q13 := eq_true q13; have p15 : 0 ≤ (x5_1 : Int) := of_decide_eq_true (by first | (with_reducible assumption) | assumption); have q15 : x5_1 < (a0.size : Int) := of_decide_eq_true (by first | (with_reducible assumption) | assumption); have hx15 := bt_at a0 x5_1; replace p15 := eq_true p15; replace q15 := eq_true q15))
                        repeat (go_quiet (first | (go_at_call 19; (with_reducible refine (spec_Size.calls k1 (bt a0 x5_1) t578 _ A9.out).mono ?_); rintro e w' ⟨rfl, ⟨nd, rfl⟩⟩; (try first | exact ⟨rfl, _, World.drewN_drewN _ _ _⟩ | exact ⟨rfl, _, Eq.trans (World.drewN_drewN _ _ _) (congrArg (World.drewN _) (Nat.add_assoc _ _ _))⟩); have p13 : 0 ≤ (x5_1 : Int) := of_decide_eq_true (by first | (with_reducible assumption) | assumption); have q13 : x5_1 < (a0.size : Int) := of_decide_eq_true (by first | (with_reducible assumption) | assumption); have hx13 := bt_at a0 x5_1; replace p13 := eq_true p13; replace q13 := eq_true q13; have p15 : 0 ≤ (x5_1 : Int) := of_decide_eq_true (by first | (with_reducible assumption) | assumption); have q15 : x5_1 < (a0.size : Int) := of_decide_eq_true (by first | (with_reducible assumption) | assumption); have hx15 := bt_at a0 x5_1; replace p15 := eq_true p15; replace q15 := eq_true q15)); try go_wp2_with (first | (go_at_call 19; (with_reducible refine (spec_Size.calls k1 (bt a0 x5_1) t578 _ A9.out).mono ?_); rintro e w' ⟨rfl, ⟨nd, rfl⟩⟩; (try first | exact ⟨rfl, _, World.drewN_drewN _ _ _⟩ | exact ⟨rfl, _, Eq.trans (World.drewN_drewN _ _ _) (congrArg (World.drewN _) (Nat.add_assoc _ _ _))⟩); have p13 : 0 ≤ (x5_1 : Int) := of_decide_eq_true (by first | (with_reducible assumption) | assumption); have q13 : x5_1 < (a0.size : Int) := of_decide_eq_true (by first | (with_reducible assumption) | assumption); have hx13 := bt_at a0 x5_1; replace p13 := eq_true p13; replace q13 := eq_true q13; have p15 : 0 ≤ (x5_1 : Int) := of_decide_eq_true (by first | (with_reducible assumption) | assumption); have q15 : x5_1 < (a0.size : Int) := of_decide_eq_true (by first | (with_reducible assumption) | assumption); have hx15 := bt_at a0 x5_1; replace p15 := eq_true p15; replace q15 := eq_true q15)))
                        go_roundg k1
                        case measure => have := HK1.out; omega
                        case rel => exact ⟨(wrap64 (x5_1 + 1)), (by first | rfl | (simp; done) | (simp [*]; done)), H', ⟨by have := HK1.out; omega⟩, by repeat (first | exact Drawn0.refl _ | apply Drawn0.step)⟩
                      · rw [if_neg c16] at H
                        have c16b0 : ((bt a0 x5_1) == 65) = false := beq_eq_false_iff_ne.mpr c16
                        have c16b1 : ((bt a0 x5_1) != 65) = true := bne_iff_ne.mpr c16
                        by_cases c18 : (bt a0 x5_1) = 66
                        · rw [if_pos c18] at H
                          have c18b0 : ((bt a0 x5_1) == 66) = true := beq_iff_eq.mpr c18
                          have c18b1 : ((bt a0 x5_1) != 66) = false := bne_eq_false_iff_eq.mpr c18
                          clear c18
                          have H' := Aside0.mk H
                          clear H
                          have p576 : 0 ≤ (x5_1 : Int) := of_decide_eq_true (by first | (with_reducible assumption) | assumption)
                          have q576 : x5_1 < (l1.length : Int) := of_decide_eq_true (by first | (with_reducible assumption) | assumption)
                          obtain ⟨ad576, e576, hx576_0⟩ := Kd.at_int HR1.out x5_1 p576 q576
                          cases e576
                          replace p576 := eq_true p576
                          replace q576 := eq_true q576
                          have p577 : 0 ≤ (x5_1 : Int) := of_decide_eq_true (by first | (with_reducible assumption) | assumption)
                          have q577 : x5_1 < (l1.length : Int) := of_decide_eq_true (by first | (with_reducible assumption) | assumption)
                          obtain ⟨ad577, e577, hx577_0⟩ := Kd.at_int HR1.out x5_1 p577 q577
                          obtain rfl : ad576 = ad577 := (by injection e577)
                          replace p577 := eq_true p577
                          replace q577 := eq_true q577
                          have p8 : 0 ≤ (x5_1 : Int) := of_decide_eq_true (by first | (with_reducible assumption) | assumption)
                          have q8 : x5_1 < (a0.size : Int) := of_decide_eq_true (by first | (with_reducible assumption) | assumption)
                          have hx8 := bt_at a0 x5_1
                          replace p8 := eq_true p8
                          replace q8 := eq_true q8
                          go_wp2_with (first | (go_at_call 19; (with_reducible refine (spec_Size.calls k1 (bt a0 x5_1) t578 _ A9.out).mono ?_); rintro e w' ⟨rfl, ⟨nd, rfl⟩⟩; (try first | exact ⟨rfl, _, World.drewN_drewN _ _ _⟩ | exact ⟨rfl, _, Eq.trans (World.drewN_drewN _ _ _) (congrArg (World.drewN _) (Nat.add_assoc _ _ _))⟩); have p13 : 0 ≤ (x5_1 : Int) := of_decide_eq_true (by first | (with_reducible assumption) | assumption); have q13 : x5_1 < (a0.size : Int) := of_decide_eq_true (by first | (with_reducible assumption) | assumption); have hx13 := bt_at a0 x5_1; replace p13 := eq_true p13; replace q13 := eq_true q13; have p15 : 0 ≤ (x5_1 : Int) := of_decide_eq_true (by first | (with_reducible assumption) | assumption); have q15 : x5_1 < (a0.size : Int) := of_decide_eq_true (by first | (with_reducible assumption) | assumption); have hx15 := bt_at a0 x5_1; replace p15 := eq_true p15; replace q15 := eq_true q15; have p17 : 0 ≤ (x5_1 : Int) := of_decide_eq_true (by first | (with_reducible assumption) | assumption); have q17 : x5_1 < (a0.size : Int) := of_decide_eq_true (by first | (with_reducible assumption) | assumption); have hx17 := bt_at a0 x5_1; replace p17 := eq_true p17; replace q17 := eq_true q17))
                          repeat (go_quiet (first | (go_at_call 19; (with_reducible refine (spec_Size.calls k1 (bt a0 x5_1) t578 _ A9.out).mono ?_); rintro e w' ⟨rfl, ⟨nd, rfl⟩⟩; (try first | exact ⟨rfl, _, World.drewN_drewN _ _ _⟩ | exact ⟨rfl, _, Eq.trans (World.drewN_drewN _ _ _) (congrArg (World.drewN _) (Nat.add_assoc _ _ _))⟩); have p13 : 0 ≤ (x5_1 : Int) := of_decide_eq_true (by first | (with_reducible assumption) | assumption); have q13 : x5_1 < (a0.size : Int) := of_decide_eq_true (by first | (with_reducible assumption) | assumption); have hx13 := bt_at a0 x5_1; replace p13 := eq_true p13; replace q13 := eq_true q13; have p15 : 0 ≤ (x5_1 : Int) := of_decide_eq_true (by first | (with_reducible assumption) | assumption); have q15 : x5_1 < (a0.size : Int) := of_decide_eq_true (by first | (with_reducible assumption) | assumption); have hx15 := bt_at a0 x5_1; replace p15 := eq_true p15; replace q15 := eq_true q15; have p17 : 0 ≤ (x5_1 : Int) := of_decide_eq_true (by first | (with_reducible assumption) | assumption); have q17 : x5_1 < (a0.size : Int) := of_decide_eq_true (by first | (with_reducible assumption) | assumption); have hx17 := bt_at a0 x5_1; replace p17 := eq_true p17; replace q17 := eq_true q17)); try go_wp2_with (first | (go_at_call 19; (with_reducible refine (spec_Size.calls k1 (bt a0 x5_1) t578 _ A9.out).mono ?_); rintro e w' ⟨rfl, ⟨nd, rfl⟩⟩; (try first | exact ⟨rfl, _, World.drewN_drewN _ _ _⟩ | exact ⟨rfl, _, Eq.trans (World.drewN_drewN _ _ _) (congrArg (World.drewN _) (Nat.add_assoc _ _ _))⟩); have p13 : 0 ≤ (x5_1 : Int) := of_decide_eq_true (by first | (with_reducible assumption) | assumption); have q13 : x5_1 < (a0.size : Int) := of_decide_eq_true (by first | (with_reducible assumption) | assumption); have hx13 := bt_at a0 x5_1; replace p13 := eq_true p13; replace q13 := eq_true q13; have p15 : 0 ≤ (x5_1 : Int) := of_decide_eq_true (by first | (with_reducible assumption) | assumption); have q15 : x5_1 < (a0.size : Int) := of_decide_eq_true (by first | (with_reducible assumption) | assumption); have hx15 := bt_at a0 x5_1; replace p15 := eq_true p15; replace q15 := eq_true q15; have p17 : 0 ≤ (x5_1 : Int) := of_decide_eq_true (by first | (with_reducible assumption) | assumption); have q17 : x5_1 < (a0.size : Int) := of_decide_eq_true (by first | (with_reducible assumption) | assumption); have hx17 := bt_at a0 x5_1; replace p17 := eq_true p17; replace q17 := eq_true q17)))
                          go_roundg k1
                          case measure => have := HK1.out; omega
                          case rel => exact ⟨(wrap64 (x5_1 + 1)), (by first | rfl | (simp; done) | (simp [*]; done)), H', ⟨by have := HK1.out; omega⟩, by repeat (first | exact Drawn0.refl _ | apply Drawn0.step)⟩
                        · rw [if_neg c18] at H
                          have c18b0 : ((bt a0 x5_1) == 66) = false := beq_eq_false_iff_ne.mpr c18
                          have c18b1 : ((bt a0 x5_1) != 66) = true := bne_iff_ne.mpr c18
                          by_cases c20 : (bt a0 x5_1) = 105
                          · rw [if_pos c20] at H
                            have c20b0 : ((bt a0 x5_1) == 105) = true := beq_iff_eq.mpr c20
                            have c20b1 : ((bt a0 x5_1) != 105) = false := bne_eq_false_iff_eq.mpr c20
                            clear c20
                            have H' := Aside0.mk H
                            clear H
                            have p576 : 0 ≤ (x5_1 : Int) := of_decide_eq_true (by first | (with_reducible assumption) | assumption)
                            have q576 : x5_1 < (l1.length : Int) := of_decide_eq_true (by first | (with_reducible assumption) | assumption)
                            obtain ⟨ad576, e576, hx576_0⟩ := Kd.at_int HR1.out x5_1 p576 q576
                            cases e576
                            replace p576 := eq_true p576
                            replace q576 := eq_true q576
                            have p577 : 0 ≤ (x5_1 : Int) := of_decide_eq_true (by first | (with_reducible assumption) | assumption)
                            have q577 : x5_1 < (l1.length : Int) := of_decide_eq_true (by first | (with_reducible assumption) | assumption)
                            obtain ⟨ad577, e577, hx577_0⟩ := Kd.at_int HR1.out x5_1 p577 q577
                            obtain rfl : ad576 = ad577 := (by injection e577)
                            replace p577 := eq_true p577
                            replace q577 := eq_true q577
                            have p8 : 0 ≤ (x5_1 : Int) := of_decide_eq_true (by first | (with_reducible assumption) | assumption)
                            have q8 : x5_1 < (a0.size : Int) := of_decide_eq_true (by first | (with_reducible assumption) | assumption)
                            have hx8 := bt_at a0 x5_1
                            replace p8 := eq_true p8
                            replace q8 := eq_true q8
                            go_wp2_with (first | (go_at_call 19; (with_reducible refine (spec_Size.calls k1 (bt a0 x5_1) t578 _ A9.out).mono ?_); rintro e w' ⟨rfl, ⟨nd, rfl⟩⟩; (try first | exact ⟨rfl, _, World.drewN_drewN _ _ _⟩ | exact ⟨rfl, _, Eq.trans (World.drewN_drewN _ _ _) (congrArg (World.drewN _) (Nat.add_assoc _ _ _))⟩); have p13 : 0 ≤ (x5_1 : Int) := of_decide_eq_true (by first | (with_reducible assumption) | assumption); have q13 : x5_1 < (a0.size : Int) := of_decide_eq_true (by first | (with_reducible assumption) | assumption); have hx13 := bt_at a0 x5_1; replace p13 := eq_true p13; replace q13 := eq_true q13; have p15 : 0 ≤ (x5_1 : Int) := of_decide_eq_true (by first | (with_reducible assumption) | assumption); have q15 : x5_1 < (a0.size : Int) := of_decide_eq_true (by first | (with_reducible assumption) | assumption); have hx15 := bt_at a0 x5_1; replace p15 := eq_true p15; replace q15 := eq_true q15; have p17 : 0 ≤ (x5_1 : Int) := of_decide_eq_true (by first | (with_reducible assumption) | assumption); have q17 : x5_1 < (a0.size : Int) := of_decide_eq_true (by first | (with_reducible assumption) | assumption); have hx17 := bt_at a0 x5_1; replace p17 := eq_true p17; replace q17 := eq_true q17; have p19 : 0 ≤ (x5_1 : Int) := of_decide_eq_true (by first | (with_reducible assumption) | assumption); have q19 : x5_1 < (a0.size : Int) := of_decide_eq_true (by first | (with_reducible assumption) | assumption); have hx19 := bt_at a0 x5_1; replace p19 := eq_true p19; replace q19 := eq_true q19))
                            repeat (go_quiet (first | (go_at_call 19; (with_reducible refine (spec_Size.calls k1 (bt a0 x5_1) t578 _ A9.out).mono ?_); rintro e w' ⟨rfl, ⟨nd, rfl⟩⟩; (try first | exact ⟨rfl, _, World.drewN_drewN _ _ _⟩ | exact ⟨rfl, _, Eq.trans (World.drewN_drewN _ _ _) (congrArg (World.drewN _) (Nat.add_assoc _ _ _))⟩); have p13 : 0 ≤ (x5_1 : Int) := of_decide_eq_true (by first | (with_reducible assumption) | assumption); have q13 : x5_1 < (a0.size : Int) := of_decide_eq_true (by first | (with_reducible assumption) | assumption); have hx13 := bt_at a0 x5_1; replace p13 := eq_true p13; replace q13 := eq_true q13; have p15 : 0 ≤ (x5_1 : Int) := of_decide_eq_true (by first | (with_reducible assumption) | assumption); have q15 : x5_1 < (a0.size : Int) := of_decide_eq_true (by first | (with_reducible assumption) | assumption); have hx15 := bt_at a0 x5_1; replace p15 := eq_true p15; replace q15 := eq_true q15; have p17 : 0 ≤ (x5_1 : Int) := of_decide_eq_true (by first | (with_reducible assumption) | assumption); have q17 : x5_1 < (a0.size : Int) := of_decide_eq_true (by first | (with_reducible assumption) | assumption); have hx17 := bt_at a0 x5_1; replace p17 := eq_true p17; replace q17 := eq_true q17; have p19 : 0 ≤ (x5_1 : Int) := of_decide_eq_true (by first | (with_reducible assumption) | assumption); have q19 : x5_1 < (a0.size : Int) := of_decide_eq_true (by first | (with_reducible assumption) | assumption); have hx19 := bt_at a0 x5_1; replace p19 := eq_true p19; replace q19 := eq_true q19)); try go_wp2_with (first | (go_at_call 19; (with_reducible refine (spec_Size.calls k1 (bt a0 x5_1) t578 _ A9.out).mono ?_); rintro e w' ⟨rfl, ⟨nd, rfl⟩⟩; (try first | exact ⟨rfl, _, World.drewN_drewN _ _ _⟩ | exact ⟨rfl, _, Eq.trans (World.drewN_drewN _ _ _) (congrArg (World.drewN _) (Nat.add_assoc _ _ _))⟩); have p13 : 0 ≤ (x5_1 : Int) := of_decide_eq_true (by first | (with_reducible assumption) | assumption); have q13 : x5_1 < (a0.size : Int) := of_decide_eq_true (by first | (with_reducible assumption) | assumption); have hx13 := bt_at a0 x5_1; replace p13 := eq_true p13; replace q13 := eq_true q13; have p15 : 0 ≤ (x5_1 : Int) := of_decide_eq_true (by first | (with_reducible assumption) | assumption); have q15 : x5_1 < (a0.size : Int) := of_decide_eq_true (by first | (with_reducible assumption) | assumption); have hx15 := bt_at a0 x5_1; replace p15 := eq_true p15; replace q15 := eq_true q15; have p17 : 0 ≤ (x5_1 : Int) := of_decide_eq_true (by first | (with_reducible assumption) | assumption); have q17 : x5_1 < (a0.size : Int) := of_decide_eq_true (by first | (with_reducible assumption) | assumption); have hx17 := bt_at a0 x5_1; replace p17 := eq_true p17; replace q17 := eq_true q17; have p19 : 0 ≤ (x5_1 : Int) := of_decide_eq_true (by first | (with_reducible assumption) | assumption); have q19 : x5_1 < (a0.size : Int) := of_decide_eq_true (by first | (with_reducible assumption) | assumption); have hx19 := bt_at a0 x5_1; replace p19 := eq_true p19; replace q19 := eq_true q19)))
                            go_roundg k1
                            case measure => have := HK1.out; omega
                            case rel => exact ⟨(wrap64 (x5_1 + 1)), (by first | rfl | (simp; done) | (simp [*]; done)), H', ⟨by have := HK1.out; omega⟩, by repeat (first | exact Drawn0.refl _ | apply Drawn0.step)⟩
                          · rw [if_neg c20] at H
                            have c20b0 : ((bt a0 x5_1) == 105) = false := beq_eq_false_iff_ne.mpr c20
                            have c20b1 : ((bt a0 x5_1) != 105) = true := bne_iff_ne.mpr c20
                            by_cases c22 : (bt a0 x5_1) = 106
                            · rw [if_pos c22] at H
                              have c22b0 : ((bt a0 x5_1) == 106) = true := beq_iff_eq.mpr c22
                              have c22b1 : ((bt a0 x5_1) != 106) = false := bne_eq_false_iff_eq.mpr c22
                              clear c22
                              have H' := Aside0.mk H
                              clear H
                              have p576 : 0 ≤ (x5_1 : Int) := of_decide_eq_true (by first | (with_reducible assumption) | assumption)
                              have q576 : x5_1 < (l1.length : Int) := of_decide_eq_true (by first | (with_reducible assumption) | assumption)
                              obtain ⟨ad576, e576, hx576_0⟩ := Kd.at_int HR1.out x5_1 p576 q576
                              cases e576
                              replace p576 := eq_true p576
                              replace q576 := eq_true q576
                              have p577 : 0 ≤ (x5_1 : Int) := of_decide_eq_true (by first | (with_reducible assumption) | assumption)
                              have q577 : x5_1 < (l1.length : Int) := of_decide_eq_true (by first | (with_reducible assumption) | assumption)
                              obtain ⟨ad577, e577, hx577_0⟩ := Kd.at_int HR1.out x5_1 p577 q577
                              obtain rfl : ad576 = ad577 := (by injection e577)
                              replace p577 := eq_true p577
                              replace q577 := eq_true q577
                              have p8 : 0 ≤ (x5_1 : Int) := of_decide_eq_true (by first | (with_reducible assumption) | assumption)
                              have q8 : x5_1 < (a0.size : Int) := of_decide_eq_true (by first | (with_reducible assumption) | assumption)
                              have hx8 := bt_at a0 x5_1
                              replace p8 := eq_true p8
                              replace q8 := eq_true q8
                              go_wp2_with (first | (go_at_call 19; (with_reducible refine (spec_Size.calls k1 (bt a0 x5_1) t578 _ A9.out).mono ?_); rintro e w' ⟨rfl, ⟨nd, rfl⟩⟩; (try first | exact ⟨rfl, _, World.drewN_drewN _ _ _⟩ | exact ⟨rfl, _, Eq.trans (World.drewN_drewN _ _ _) (congrArg (World.drewN _) (Nat.add_assoc _ _ _))⟩); have p13 : 0 ≤ (x5_1 : Int) := of_decide_eq_true (by first | (with_reducible assumption) | assumption); have q13 : x5_1 < (a0.size : Int) := of_decide_eq_true (by first | (with_reducible assumption) | assumption); have hx13 := bt_at a0 x5_1; replace p13 := eq_true p13; replace q13 := eq_true q13; have p15 : 0 ≤ (x5_1 : Int) := of_decide_eq_true (by first | (with_reducible assumption) | assumption); have q15 : x5_1 < (a0.size : Int) := of_decide_eq_true (by first | (with_reducible assumption) | assumption); have hx15 := bt_at a0 x5_1; replace p15 := eq_true p15; replace q15 := eq_true q15; have p17 : 0 ≤ (x5_1 : Int) := of_decide_eq_true (by first | (with_reducible assumption) | assumption); have q17 : x5_1 < (a0.size : Int) := of_decide_eq_true (by first | (with_reducible assumption) | assumption); have hx17 := bt_at a0 x5_1; replace p17 := eq_true p17; replace q17 := eq_true q17; have p19 : 0 ≤ (x5_1 : Int) := of_decide_eq_true (by first | (with_reducible assumption) | assumption); have q19 : x5_1 < (a0.size : Int) := of_decide_eq_true (by first | (with_reducible assumption) | assumption); have hx19 := bt_at a0 x5_1; replace p19 := eq_true p19; replace q19 := eq_true q19; have p21 : 0 ≤ (x5_1 : Int) := of_decide_eq_true (by first | (with_reducible assumption) | assumption); have q21 : x5_1 < (a0.size : Int) := of_decide_eq_true (by first | (with_reducible assumption) | assumption); have hx21 := bt_at a0 x5_1; replace p21 := eq_true p21; replace q21 := eq_true q21))
                              repeat (go_quiet (first | (go_at_call 19; (with_reducible refine (spec_Size.calls k1 (bt a0 x5_1) t578 _ A9.out).mono ?_); rintro e w' ⟨rfl, ⟨nd, rfl⟩⟩; (try first | exact ⟨rfl, _, World.drewN_drewN _ _ _⟩ | exact ⟨rfl, _, Eq.trans (World.drewN_drewN _ _ _) (congrArg (World.drewN _) (Nat.add_assoc _ _ _))⟩); have p13 : 0 ≤ (x5_1 : Int) := of_decide_eq_true (by first | (with_reducible assumption) | assumption); have q13 : x5_1 < (a0.size : Int) := of_decide_eq_true (by first | (with_reducible assumption) | assumption); have hx13 := bt_at a0 x5_1; replace p13 := eq_true p13; replace q13 := eq_true q13; have p15 : 0 ≤ (x5_1 : Int) := of_decide_eq_true (by first | (with_reducible assumption) | assumption); have q15 : x5_1 < (a0.size : Int) := of_decide_eq_true (by first | (with_reducible assumption) | assumption); have hx15 := bt_at a0 x5_1; replace p15 := eq_true p15; replace q15 := eq_true q15; have p17 : 0 ≤ (x5_1 : Int) := of_decide_eq_true (by first | (with_reducible assumption) | assumption); have q17 : x5_1 < (a0.size : Int) := of_decide_eq_true (by first | (with_reducible assumption) | assumption); have hx17 := bt_at a0 x5_1; replace p17 := eq_true p17; replace q17 := eq_true q17; have p19 : 0 ≤ (x5_1 : Int) := of_decide_eq_true (by first | (with_reducible assumption) | assumption); have q19 : x5_1 < (a0.size : Int) := of_decide_eq_true (by first | (with_reducible assumption) | assumption); have hx19 := bt_at a0 x5_1; replace p19 := eq_true p19; replace q19 := eq_true q19; have p21 : 0 ≤ (x5_1 : Int) := of_decide_eq_true (by first | (with_reducible assumption) | assumption); have q21 : x5_1 < (a0.size : Int) := of_decide_eq_true (by first | (with_reducible assumption) | assumption); have hx21 := bt_at a0 x5_1; replace p21 := eq_true p21; replace q21 := eq_true q21)); try go_wp2_with (first | (go_at_call 19; (with_reducible refine (spec_Size.calls k1 (bt a0 x5_1) t578 _ A9.out).mono ?_); rintro e w' ⟨rfl, ⟨nd, rfl⟩⟩; (try first | exact ⟨rfl, _, World.drewN_drewN _ _ _⟩ | exact ⟨rfl, _, Eq.trans (World.drewN_drewN _ _ _) (congrArg (World.drewN _) (Nat.add_assoc _ _ _))⟩); have p13 : 0 ≤ (x5_1 : Int) := of_decide_eq_true (by first | (with_reducible assumption) | assumption); have q13 : x5_1 < (a0.size : Int) := of_decide_eq_true (by first | (with_reducible assumption) | assumption); have hx13 := bt_at a0 x5_1; replace p13 := eq_true p13; replace q13 := eq_true q13; have p15 : 0 ≤ (x5_1 : Int) := of_decide_eq_true (by first | (with_reducible assumption) | assumption); have q15 : x5_1 < (a0.size : Int) := of_decide_eq_true (by first | (with_reducible assumption) | assumption); have hx15 := bt_at a0 x5_1; replace p15 := eq_true p15; replace q15 := eq_true q15; have p17 : 0 ≤ (x5_1 : Int) := of_decide_eq_true (by first | (with_reducible assumption) | assumption); have q17 : x5_1 < (a0.size : Int) := of_decide_eq_true (by first | (with_reducible assumption) | assumption); have hx17 := bt_at a0 x5_1; replace p17 := eq_true p17; replace q17 := eq_true q17; have p19 : 0 ≤ (x5_1 : Int) := of_decide_eq_true (by first | (with_reducible assumption) | assumption); have q19 : x5_1 < (a0.size : Int) := of_decide_eq_true (by first | (with_reducible assumption) | assumption); have hx19 := bt_at a0 x5_1; replace p19 := eq_true p19; replace q19 := eq_true q19; have p21 : 0 ≤ (x5_1 : Int) := of_decide_eq_true (by first | (with_reducible assumption) | assumption); have q21 : x5_1 < (a0.size : Int) := of_decide_eq_true (by first | (with_reducible assumption) | assumption); have hx21 := bt_at a0 x5_1; replace p21 := eq_true p21; replace q21 := eq_true q21)))
                              go_roundg k1
                              case measure => have := HK1.out; omega
                              case rel => exact ⟨(wrap64 (x5_1 + 1)), (by first | rfl | (simp; done) | (simp [*]; done)), H', ⟨by have := HK1.out; omega⟩, by repeat (first | exact Drawn0.refl _ | apply Drawn0.step)⟩
                            · rw [if_neg c22] at H
                              have c22b0 : ((bt a0 x5_1) == 106) = false := beq_eq_false_iff_ne.mpr c22
                              have c22b1 : ((bt a0 x5_1) != 106) = true := bne_iff_ne.mpr c22
                              by_cases c24 : (bt a0 x5_1) = 107
                              · rw [if_pos c24] at H
                                have c24b0 : ((bt a0 x5_1) == 107) = true := beq_iff_eq.mpr c24
                                have c24b1 : ((bt a0 x5_1) != 107) = false := bne_eq_false_iff_eq.mpr c24
                                clear c24
                                have H' := Aside0.mk H
                                clear H
                                have p576 : 0 ≤ (x5_1 : Int) := of_decide_eq_true (by first | (with_reducible assumption) | assumption)
                                have q576 : x5_1 < (l1.length : Int) := of_decide_eq_true (by first | (with_reducible assumption) | assumption)
                                obtain ⟨ad576, e576, hx576_0⟩ := Kd.at_int HR1.out x5_1 p576 q576
                                cases e576
                                replace p576 := eq_true p576
                                replace q576 := eq_true q576
                                have p577 : 0 ≤ (x5_1 : Int) := of_decide_eq_true (by first | (with_reducible assumption) | assumption)
                                have q577 : x5_1 < (l1.length : Int) := of_decide_eq_true (by first | (with_reducible assumption) | assumption)
                                obtain ⟨ad577, e577, hx577_0⟩ := Kd.at_int HR1.out x5_1 p577 q577
                                obtain rfl : ad576 = ad577 := (by injection e577)
                                replace p577 := eq_true p577
                                replace q577 := eq_true q577
                                have p8 : 0 ≤ (x5_1 : Int) := of_decide_eq_true (by first | (with_reducible assumption) | assumption)
                                have q8 : x5_1 < (a0.size : Int) := of_decide_eq_true (by first | (with_reducible assumption) | assumption)
                                have hx8 := bt_at a0 x5_1
                                replace p8 := eq_true p8
                                replace q8 := eq_true q8
                                go_wp2_with (first | (go_at_call 19; (with_reducible refine (spec_Size.calls k1 (bt a0 x5_1) t578 _ A9.out).mono ?_); rintro e w' ⟨rfl, ⟨nd, rfl⟩⟩; (try first | exact ⟨rfl, _, World.drewN_drewN _ _ _⟩ | exact ⟨rfl, _, Eq.trans (World.drewN_drewN _ _ _) (congrArg (World.drewN _) (Nat.add_assoc _ _ _))⟩); have p13 : 0 ≤ (x5_1 : Int) := of_decide_eq_true (by first | (with_reducible assumption) | assumption); have q13 : x5_1 < (a0.size : Int) := of_decide_eq_true (by first | (with_reducible assumption) | assumption); have hx13 := bt_at a0 x5_1; replace p13 := eq_true p13; replace q13 := eq_true q13; have p15 : 0 ≤ (x5_1 : Int) := of_decide_eq_true (by first | (with_reducible assumption) | assumption); have q15 : x5_1 < (a0.size : Int) := of_decide_eq_true (by first | (with_reducible assumption) | assumption); have hx15 := bt_at a0 x5_1; replace p15 := eq_true p15; replace q15 := eq_true q15; have p17 : 0 ≤ (x5_1 : Int) := of_decide_eq_true (by first | (with_reducible assumption) | assumption); have q17 : x5_1 < (a0.size : Int) := of_decide_eq_true (by first | (with_reducible assumption) | assumption); have hx17 := bt_at a0 x5_1; replace p17 := eq_true p17; replace q17 := eq_true q17; have p19 : 0 ≤ (x5_1 : Int) := of_decide_eq_true (by first | (with_reducible assumption) | assumption); have q19 : x5_1 < (a0.size : Int) := of_decide_eq_true (by first | (with_reducible assumption) | assumption); have hx19 := bt_at a0 x5_1; replace p19 := eq_true p19; replace q19 := eq_true q19; have p21 : 0 ≤ (x5_1 : Int) := of_decide_eq_true (by first | (with_reducible assumption) | assumption); have q21 : x5_1 < (a0.size : Int) := of_decide_eq_true (by first | (with_reducible assumption) | assumption); have hx21 := bt_at a0 x5_1; replace p21 := eq_true p21; replace q21 := eq_true q21; have p23 : 0 ≤ (x5_1 : Int) := of_decide_eq_true (by first | (with_reducible assumption) | assumption); have q23 : x5_1 < (a0.size : Int) := of_decide_eq_true (by first | (with_reducible assumption) | assumption); have hx23 := bt_at a0 x5_1; replace p23 := eq_true p23; replace q23 := eq_true q23))
                                repeat (go_quiet (first | (go_at_call 19; (with_reducible refine (spec_Size.calls k1 (bt a0 x5_1) t578 _ A9.out).mono ?_); rintro e w' ⟨rfl, ⟨nd, rfl⟩⟩; (try first | exact ⟨rfl, _, World.drewN_drewN _ _ _⟩ | exact ⟨rfl, _, Eq.trans (World.drewN_drewN _ _ _) (congrArg (World.drewN _) (Nat.add_assoc _ _ _))⟩); have p13 : 0 ≤ (x5_1 : Int) := of_decide_eq_true (by first | (with_reducible assumption) | assumption); have q13 : x5_1 < (a0.size : Int) := of_decide_eq_true (by first | (with_reducible assumption) | assumption); have hx13 := bt_at a0 x5_1; replace p13 := eq_true p13; replace q13 := eq_true q13; have p15 : 0 ≤ (x5_1 : Int) := of_decide_eq_true (by first | (with_reducible assumption) | assumption); have q15 : x5_1 < (a0.size : Int) := of_decide_eq_true (by first | (with_reducible assumption) | assumption); have hx15 := bt_at a0 x5_1; replace p15 := eq_true p15; replace q15 := eq_true q15; have p17 : 0 ≤ (x5_1 : Int) := of_decide_eq_true (by first | (with_reducible assumption) | assumption); have q17 : x5_1 < (a0.size : Int) := of_decide_eq_true (by first | (with_reducible assumption) | assumption); have hx17 := bt_at a0 x5_1; replace p17 := eq_true p17; replace q17 := eq_true q17; have p19 : 0 ≤ (x5_1 : Int) := of_decide_eq_true (by first | (with_reducible assumption) | assumption); have q19 : x5_1 < (a0.size : Int) := of_decide_eq_true (by first | (with_reducible assumption) | assumption); have hx19 := bt_at a0 x5_1; replace p19 := eq_true p19; replace q19 := eq_true q19; have p21 : 0 ≤ (x5_1 : Int) := of_decide_eq_true (by first | (with_reducible assumption) | assumption); have q21 : x5_1 < (a0.size : Int) := of_decide_eq_true (by first | (with_reducible assumption) | assumption); have hx21 := bt_at a0 x5_1; replace p21 := eq_true p21; replace q21 := eq_true q21; have p23 : 0 ≤ (x5_1 : Int) := of_decide_eq_true (by first | (with_reducible assumption) | assumption); have q23 : x5_1 < (a0.size : Int) := of_decide_eq_true (by first | (with_reducible assumption) | assumption); have hx23 := bt_at a0 x5_1; replace p23 := eq_true p23; replace q23 := eq_true q23)); try go_wp2_with (first | (go_at_call 19; (with_reducible refine (spec_Size.calls k1 (bt a0 x5_1) t578 _ A9.out).mono ?_); rintro e w' ⟨rfl, ⟨nd, rfl⟩⟩; (try first | exact ⟨rfl, _, World.drewN_drewN _ _ _⟩ | exact ⟨rfl, _, Eq.trans (World.drewN_drewN _ _ _) (congrArg (World.drewN _) (Nat.add_assoc _ _ _))⟩); have p13 : 0 ≤ (x5_1 : Int) := of_decide_eq_true (by first | (with_reducible assumption) | assumption); have q13 : x5_1 < (a0.size : Int) := of_decide_eq_true (by first | (with_reducible assumption) | assumption); have hx13 := bt_at a0 x5_1; replace p13 := eq_true p13; replace q13 := eq_true q13; have p15 : 0 ≤ (x5_1 : Int) := of_decide_eq_true (by first | (with_reducible assumption) | assumption); have q15 : x5_1 < (a0.size : Int) := of_decide_eq_true (by first | (with_reducible assumption) | assumption); have hx15 := bt_at a0 x5_1; replace p15 := eq_true p15; replace q15 := eq_true q15; have p17 : 0 ≤ (x5_1 : Int) := of_decide_eq_true (by first | (with_reducible assumption) | assumption); have q17 : x5_1 < (a0.size : Int) := of_decide_eq_true (by first | (with_reducible assumption) | assumption); have hx17 := bt_at a0 x5_1; replace p17 := eq_true p17; replace q17 := eq_true q17; have p19 : 0 ≤ (x5_1 : Int) := of_decide_eq_true (by first | (with_reducible assumption) | assumption); have q19 : x5_1 < (a0.size : Int) := of_decide_eq_true (by first | (with_reducible assumption) | assumption); have hx19 := bt_at a0 x5_1; replace p19 := eq_true p19; replace q19 := eq_true q19; have p21 : 0 ≤ (x5_1 : Int) := of_decide_eq_true (by first | (with_reducible assumption) | assumption); have q21 : x5_1 < (a0.size : Int) := of_decide_eq_true (by first | (with_reducible assumption) | assumption); have hx21 := bt_at a0 x5_1; replace p21 := eq_true p21; replace q21 := eq_true q21; have p23 : 0 ≤ (x5_1 : Int) := of_decide_eq_true (by first | (with_reducible assumption) | assumption); have q23 : x5_1 < (a0.size : Int) := of_decide_eq_true (by first | (with_reducible assumption) | assumption); have hx23 := bt_at a0 x5_1; replace p23 := eq_true p23; replace q23 := eq_true q23)))
                                go_roundg k1
                                case measure => have := HK1.out; omega
                                case rel => exact ⟨(wrap64 (x5_1 + 1)), (by first | rfl | (simp; done) | (simp [*]; done)), H', ⟨by have := HK1.out; omega⟩, by repeat (first | exact Drawn0.refl _ | apply Drawn0.step)⟩
                              · rw [if_neg c24] at H
                                have c24b0 : ((bt a0 x5_1) == 107) = false := beq_eq_false_iff_ne.mpr c24
                                have c24b1 : ((bt a0 x5_1) != 107) = true := bne_iff_ne.mpr c24
                                by_cases c26 : (bt a0 x5_1) = 113
                                · rw [if_pos c26] at H
                                  have c26b0 : ((bt a0 x5_1) == 113) = true := beq_iff_eq.mpr c26
                                  have c26b1 : ((bt a0 x5_1) != 113) = false := bne_eq_false_iff_eq.mpr c26
                                  clear c26
                                  have H' := Aside0.mk H
                                  clear H
                                  have p576 : 0 ≤ (x5_1 : Int) := of_decide_eq_true (by first | (with_reducible assumption) | assumption)
                                  have q576 : x5_1 < (l1.length : Int) := of_decide_eq_true (by first | (with_reducible assumption) | assumption)
                                  obtain ⟨ad576, e576, hx576_0⟩ := Kd.at_int HR1.out x5_1 p576 q576
                                  cases e576
                                  replace p576 := eq_true p576
                                  replace q576 := eq_true q576
                                  have p577 : 0 ≤ (x5_1 : Int) := of_decide_eq_true (by first | (with_reducible assumption) | assumption)
                                  have q577 : x5_1 < (l1.length : Int) := of_decide_eq_true (by first | (with_reducible assumption) | assumption)
                                  obtain ⟨ad577, e577, hx577_0⟩ := Kd.at_int HR1.out x5_1 p577 q577
                                  obtain rfl : ad576 = ad577 := (by injection e577)
                                  replace p577 := eq_true p577
                                  replace q577 := eq_true q577
                                  have p8 : 0 ≤ (x5_1 : Int) := of_decide_eq_true (by first | (with_reducible assumption) | assumption)
                                  have q8 : x5_1 < (a0.size : Int) := of_decide_eq_true (by first | (with_reducible assumption) | assumption)
                                  have hx8 := bt_at a0 x5_1
                                  replace p8 := eq_true p8
                                  replace q8 := eq_true q8
                                  go_wp2_with (first | (go_at_call 19; (with_reducible refine (spec_Size.calls k1 (bt a0 x5_1) t578 _ A9.out).mono ?_); rintro e w' ⟨rfl, ⟨nd, rfl⟩⟩; (try first | exact ⟨rfl, _, World.drewN_drewN _ _ _⟩ | exact ⟨rfl, _, Eq.trans (World.drewN_drewN _ _ _) (congrArg (World.drewN _) (Nat.add_assoc _ _ _))⟩); have p13 : 0 ≤ (x5_1 : Int) := of_decide_eq_true (by first | (with_reducible assumption) | assumption); have q13 : x5_1 < (a0.size : Int) := of_decide_eq_true (by first | (with_reducible assumption) | assumption); have hx13 := bt_at a0 x5_1; replace p13 := eq_true p13; replace q13 := eq_true q13; have p15 : 0 ≤ (x5_1 : Int) := of_decide_eq_true (by first | (with_reducible assumption) | assumption); have q15 : x5_1 < (a0.size : Int) := of_decide_eq_true (by first | (with_reducible assumption) | assumption); have hx15 := bt_at a0 x5_1; replace p15 := eq_true p15; replace q15 := eq_true q15; have p17 : 0 ≤ (x5_1 : Int) := of_decide_eq_true (by first | (with_reducible assumption) | assumption); have q17 : x5_1 < (a0.size : Int) := of_decide_eq_true (by first | (with_reducible assumption) | assumption); have hx17 := bt_at a0 x5_1; replace p17 := eq_true p17; replace q17 := eq_true q17; have p19 : 0 ≤ (x5_1 : Int) := of_decide_eq_true (by first | (with_reducible assumption) | assumption); have q19 : x5_1 < (a0.size : Int) := of_decide_eq_true (by first | (with_reducible assumption) | assumption); have hx19 := bt_at a0 x5_1; replace p19 := eq_true p19; replace q19 := eq_true q19; have p21 : 0 ≤ (x5_1 : Int) := of_decide_eq_true (by first | (with_reducible assumption) | assumption); have q21 : x5_1 < (a0.size : Int) := of_decide_eq_true (by first | (with_reducible assumption) | assumption); have hx21 := bt_at a0 x5_1; replace p21 := eq_true p21; replace q21 := eq_true q21; have p23 : 0 ≤ (x5_1 : Int) := of_decide_eq_true (by first | (with_reducible assumption) | assumption); have q23 : x5_1 < (a0.size : Int) := of_decide_eq_true (by first | (with_reducible assumption) | assumption); have hx23 := bt_at a0 x5_1; replace p23 := eq_true p23; replace q23 := eq_true q23; have p25 : 0 ≤ (x5_1 : Int) := of_decide_eq_true (by first | (with_reducible assumption) | assumption); have q25 : x5_1 < (a0.size : Int) := of_decide_eq_true (by first | (with_reducible assumption) | assumption); have hx25 := bt_at a0 x5_1; replace p25 := eq_true p25; replace q25 := eq_true q25))
                                  repeat (go_quiet (first | (go_at_call 19; (with_reducible refine (spec_Size.calls k1 (bt a0 x5_1) t578 _ A9.out).mono ?_); rintro e w' ⟨rfl, ⟨nd, rfl⟩⟩; (try first | exact ⟨rfl, _, World.drewN_drewN _ _ _⟩ | exact ⟨rfl, _, Eq.trans (World.drewN_drewN _ _ _) (congrArg (World.drewN _) (Nat.add_assoc _ _ _))⟩); have p13 : 0 ≤ (x5_1 : Int) := of_decide_eq_true (by first | (with_reducible assumption) | assumption); have q13 : x5_1 < (a0.size : Int) := of_decide_eq_true (by first | (with_reducible assumption) | assumption); have hx13 := bt_at a0 x5_1; replace p13 := eq_true p13; replace q13 := eq_true q13; have p15 : 0 ≤ (x5_1 : Int) := of_decide_eq_true (by first | (with_reducible assumption) | assumption); have q15 : x5_1 < (a0.size : Int) := of_decide_eq_true (by first | (with_reducible assumption) | assumption); have hx15 := bt_at a0 x5_1; replace p15 := eq_true p15; replace q15 := eq_true q15; have p17 : 0 ≤ (x5_1 : Int) := of_decide_eq_true (by first | (with_reducible assumption) | assumption); have q17 : x5_1 < (a0.size : Int) := of_decide_eq_true (by first | (with_reducible assumption) | assumption); have hx17 := bt_at a0 x5_1; replace p17 := eq_true p17; replace q17 := eq_true q17; have p19 : 0 ≤ (x5_1 : Int) := of_decide_eq_true (by first | (with_reducible assumption) | assumption); have q19 : x5_1 < (a0.size : Int) := of_decide_eq_true (by first | (with_reducible assumption) | assumption); have hx19 := bt_at a0 x5_1; replace p19 := eq_true p19; replace q19 := eq_true q19; have p21 : 0 ≤ (x5_1 : Int) := of_decide_eq_true (by first | (with_reducible assumption) | assumption); have q21 : x5_1 < (a0.size : Int) := of_decide_eq_true (by first | (with_reducible assumption) | assumption); have hx21 := bt_at a0 x5_1; replace p21 := eq_true p21; replace q21 := eq_true q21; have p23 : 0 ≤ (x5_1 : Int) := of_decide_eq_true (by first | (with_reducible assumption) | assumption); have q23 : x5_1 < (a0.size : Int) := of_decide_eq_true (by first | (with_reducible assumption) | assumption); have hx23 := bt_at a0 x5_1; replace p23 := eq_true p23; replace q23 := eq_true q23; have p25 : 0 ≤ (x5_1 : Int) := of_decide_eq_true (by first | (with_reducible assumption) | assumption); have q25 : x5_1 < (a0.size : Int) := of_decide_eq_true (by first | (with_reducible assumption) | assumption); have hx25 := bt_at a0 x5_1; replace p25 := eq_true p25; replace q25 := eq_true q25)); try go_wp2_with (first | (go_at_call 19; (with_reducible refine (spec_Size.calls k1 (bt a0 x5_1) t578 _ A9.out).mono ?_); rintro e w' ⟨rfl, ⟨nd, rfl⟩⟩; (try first | exact ⟨rfl, _, World.drewN_drewN _ _ _⟩ | exact ⟨rfl, _, Eq.trans (World.drewN_drewN _ _ _) (congrArg (World.drewN _) (Nat.add_assoc _ _ _))⟩); have p13 : 0 ≤ (x5_1 : Int) := of_decide_eq_true (by first | (with_reducible assumption) | assumption); have q13 : x5_1 < (a0.size : Int) := of_decide_eq_true (by first | (with_reducible assumption) | assumption); have hx13 := bt_at a0 x5_1; replace p13 := eq_true p13; replace q13 := eq_true q13; have p15 : 0 ≤ (x5_1 : Int) := of_decide_eq_true (by first | (with_reducible assumption) | assumption); have q15 : x5_1 < (a0.size : Int) := of_decide_eq_true (by first | (with_reducible assumption) | assumption); have hx15 := bt_at a0 x5_1; replace p15 := eq_true p15; replace q15 := eq_true q15; have p17 : 0 ≤ (x5_1 : Int) := of_decide_eq_true (by first | (with_reducible assumption) | assumption); have q17 : x5_1 < (a0.size : Int) := of_decide_eq_true (by first | (with_reducible assumption) | assumption); have hx17 := bt_at a0 x5_1; replace p17 := eq_true p17; replace q17 := eq_true q17; have p19 : 0 ≤ (x5_1 : Int) := of_decide_eq_true (by first | (with_reducible assumption) | assumption); have q19 : x5_1 < (a0.size : Int) := of_decide_eq_true (by first | (with_reducible assumption) | assumption); have hx19 := bt_at a0 x5_1; replace p19 := eq_true p19; replace q19 := eq_true q19; have p21 : 0 ≤ (x5_1 : Int) := of_decide_eq_true (by first | (with_reducible assumption) | assumption); have q21 : x5_1 < (a0.size : Int) := of_decide_eq_true (by first | (with_reducible assumption) | assumption); have hx21 := bt_at a0 x5_1; replace p21 := eq_true p21; replace q21 := eq_true q21; have p23 : 0 ≤ (x5_1 : Int) := of_decide_eq_true (by first | (with_reducible assumption) | assumption); have q23 : x5_1 < (a0.size : Int) := of_decide_eq_true (by first | (with_reducible assumption) | assumption); have hx23 := bt_at a0 x5_1; replace p23 := eq_true p23; replace q23 := eq_true q23; have p25 : 0 ≤ (x5_1 : Int) := of_decide_eq_true (by first | (with_reducible assumption) | assumption); have q25 : x5_1 < (a0.size : Int) := of_decide_eq_true (by first | (with_reducible assumption) | assumption); have hx25 := bt_at a0 x5_1; replace p25 := eq_true p25; replace q25 := eq_true q25)))
                                  go_roundg k1
                                  case measure => have := HK1.out; omega
                                  case rel => exact ⟨(wrap64 (x5_1 + 1)), (by first | rfl | (simp; done) | (simp [*]; done)), H', ⟨by have := HK1.out; omega⟩, by repeat (first | exact Drawn0.refl _ | apply Drawn0.step)⟩
                                · rw [if_neg c26] at H
                                  have c26b0 : ((bt a0 x5_1) == 113) = false := beq_eq_false_iff_ne.mpr c26
                                  have c26b1 : ((bt a0 x5_1) != 113) = true := bne_iff_ne.mpr c26
                                  obtain rfl := Option.some.inj H
                                  have p576 : 0 ≤ (x5_1 : Int) := of_decide_eq_true (by first | (with_reducible assumption) | assumption)
                                  have q576 : x5_1 < (l1.length : Int) := of_decide_eq_true (by first | (with_reducible assumption) | assumption)
                                  obtain ⟨ad576, e576, hx576_0⟩ := Kd.at_int HR1.out x5_1 p576 q576
                                  cases e576
                                  replace p576 := eq_true p576
                                  replace q576 := eq_true q576
                                  have p577 : 0 ≤ (x5_1 : Int) := of_decide_eq_true (by first | (with_reducible assumption) | assumption)
                                  have q577 : x5_1 < (l1.length : Int) := of_decide_eq_true (by first | (with_reducible assumption) | assumption)
                                  obtain ⟨ad577, e577, hx577_0⟩ := Kd.at_int HR1.out x5_1 p577 q577
                                  obtain rfl : ad576 = ad577 := (by injection e577)
                                  replace p577 := eq_true p577
                                  replace q577 := eq_true q577
                                  have p8 : 0 ≤ (x5_1 : Int) := of_decide_eq_true (by first | (with_reducible assumption) | assumption)
                                  have q8 : x5_1 < (a0.size : Int) := of_decide_eq_true (by first | (with_reducible assumption) | assumption)
                                  have hx8 := bt_at a0 x5_1
                                  replace p8 := eq_true p8
                                  replace q8 := eq_true q8
                                  go_wp2_with (first | (go_at_call 19; (with_reducible refine (spec_Size.calls k1 (bt a0 x5_1) t578 _ A9.out).mono ?_); rintro e w' ⟨rfl, ⟨nd, rfl⟩⟩; (try first | exact ⟨rfl, _, World.drewN_drewN _ _ _⟩ | exact ⟨rfl, _, Eq.trans (World.drewN_drewN _ _ _) (congrArg (World.drewN _) (Nat.add_assoc _ _ _))⟩); have p13 : 0 ≤ (x5_1 : Int) := of_decide_eq_true (by first | (with_reducible assumption) | assumption); have q13 : x5_1 < (a0.size : Int) := of_decide_eq_true (by first | (with_reducible assumption) | assumption); have hx13 := bt_at a0 x5_1; replace p13 := eq_true p13; replace q13 := eq_true q13; have p15 : 0 ≤ (x5_1 : Int) := of_decide_eq_true (by first | (with_reducible assumption) | assumption); have q15 : x5_1 < (a0.size : Int) := of_decide_eq_true (by first | (with_reducible assumption) | assumption); have hx15 := bt_at a0 x5_1; replace p15 := eq_true p15; replace q15 := eq_true q15; have p17 : 0 ≤ (x5_1 : Int) := of_decide_eq_true (by first | (with_reducible assumption) | assumption); have q17 : x5_1 < (a0.size : Int) := of_decide_eq_true (by first | (with_reducible assumption) | assumption); have hx17 := bt_at a0 x5_1; replace p17 := eq_true p17; replace q17 := eq_true q17; have p19 : 0 ≤ (x5_1 : Int) := of_decide_eq_true (by first | (with_reducible assumption) | assumption); have q19 : x5_1 < (a0.size : Int) := of_decide_eq_true (by first | (with_reducible assumption) | assumption); have hx19 := bt_at a0 x5_1; replace p19 := eq_true p19; replace q19 := eq_true q19; have p21 : 0 ≤ (x5_1 : Int) := of_decide_eq_true (by first | (with_reducible assumption) | assumption); have q21 : x5_1 < (a0.size : Int) := of_decide_eq_true (by first | (with_reducible assumption) | assumption); have hx21 := bt_at a0 x5_1; replace p21 := eq_true p21; replace q21 := eq_true q21; have p23 : 0 ≤ (x5_1 : Int) := of_decide_eq_true (by first | (with_reducible assumption) | assumption); have q23 : x5_1 < (a0.size : Int) := of_decide_eq_true (by first | (with_reducible assumption) | assumption); have hx23 := bt_at a0 x5_1; replace p23 := eq_true p23; replace q23 := eq_true q23; have p25 : 0 ≤ (x5_1 : Int) := of_decide_eq_true (by first | (with_reducible assumption) | assumption); have q25 : x5_1 < (a0.size : Int) := of_decide_eq_true (by first | (with_reducible assumption) | assumption); have hx25 := bt_at a0 x5_1; replace p25 := eq_true p25; replace q25 := eq_true q25))
                                  repeat (go_quiet (first | (go_at_call 19; (with_reducible refine (spec_Size.calls k1 (bt a0 x5_1) t578 _ A9.out).mono ?_); rintro e w' ⟨rfl, ⟨nd, rfl⟩⟩; (try first | exact ⟨rfl, _, World.drewN_drewN _ _ _⟩ | exact ⟨rfl, _, Eq.trans (World.drewN_drewN _ _ _) (congrArg (World.drewN _) (Nat.add_assoc _ _ _))⟩); have p13 : 0 ≤ (x5_1 : Int) := of_decide_eq_true (by first | (with_reducible assumption) | assumption); have q13 : x5_1 < (a0.size : Int) := of_decide_eq_true (by first | (with_reducible assumption) | assumption); have hx13 := bt_at a0 x5_1; replace p13 := eq_true p13; replace q13 := eq_true q13; have p15 : 0 ≤ (x5_1 : Int) := of_decide_eq_true (by first | (with_reducible assumption) | assumption); have q15 : x5_1 < (a0.size : Int) := of_decide_eq_true (by first | (with_reducible assumption) | assumption); have hx15 := bt_at a0 x5_1; replace p15 := eq_true p15; replace q15 := eq_true q15; have p17 : 0 ≤ (x5_1 : Int) := of_decide_eq_true (by first | (with_reducible assumption) | assumption); have q17 : x5_1 < (a0.size : Int) := of_decide_eq_true (by first | (with_reducible assumption) | assumption); have hx17 := bt_at a0 x5_1; replace p17 := eq_true p17; replace q17 := eq_true q17; have p19 : 0 ≤ (x5_1 : Int) := of_decide_eq_true (by first | (with_reducible assumption) | assumption); have q19 : x5_1 < (a0.size : Int) := of_decide_eq_true (by first | (with_reducible assumption) | assumption); have hx19 := bt_at a0 x5_1; replace p19 := eq_true p19; replace q19 := eq_true q19; have p21 : 0 ≤ (x5_1 : Int) := of_decide_eq_true (by first | (with_reducible assumption) | assumption); have q21 : x5_1 < (a0.size : Int) := of_decide_eq_true (by first | (with_reducible assumption) | assumption); have hx21 := bt_at a0 x5_1; replace p21 := eq_true p21; replace q21 := eq_true q21; have p23 : 0 ≤ (x5_1 : Int) := of_decide_eq_true (by first | (with_reducible assumption) | assumption); have q23 : x5_1 < (a0.size : Int) := of_decide_eq_true (by first | (with_reducible assumption) | assumption); have hx23 := bt_at a0 x5_1; replace p23 := eq_true p23; replace q23 := eq_true q23; have p25 : 0 ≤ (x5_1 : Int) := of_decide_eq_true (by first | (with_reducible assumption) | assumption); have q25 : x5_1 < (a0.size : Int) := of_decide_eq_true (by first | (with_reducible assumption) | assumption); have hx25 := bt_at a0 x5_1; replace p25 := eq_true p25; replace q25 := eq_true q25)); try go_wp2_with (first | (go_at_call 19; (with_reducible refine (spec_Size.calls k1 (bt a0 x5_1) t578 _ A9.out).mono ?_); rintro e w' ⟨rfl, ⟨nd, rfl⟩⟩; (try first | exact ⟨rfl, _, World.drewN_drewN _ _ _⟩ | exact ⟨rfl, _, Eq.trans (World.drewN_drewN _ _ _) (congrArg (World.drewN _) (Nat.add_assoc _ _ _))⟩); have p13 : 0 ≤ (x5_1 : Int) := of_decide_eq_true (by first | (with_reducible assumption) | assumption); have q13 : x5_1 < (a0.size : Int) := of_decide_eq_true (by first | (with_reducible assumption) | assumption); have hx13 := bt_at a0 x5_1; replace p13 := eq_true p13; replace q13 := eq_true q13; have p15 : 0 ≤ (x5_1 : Int) := of_decide_eq_true (by first | (with_reducible assumption) | assumption); have q15 : x5_1 < (a0.size : Int) := of_decide_eq_true (by first | (with_reducible assumption) | assumption); have hx15 := bt_at a0 x5_1; replace p15 := eq_true p15; replace q15 := eq_true q15; have p17 : 0 ≤ (x5_1 : Int) := of_decide_eq_true (by first | (with_reducible assumption) | assumption); have q17 : x5_1 < (a0.size : Int) := of_decide_eq_true (by first | (with_reducible assumption) | assumption); have hx17 := bt_at a0 x5_1; replace p17 := eq_true p17; replace q17 := eq_true q17; have p19 : 0 ≤ (x5_1 : Int) := of_decide_eq_true (by first | (with_reducible assumption) | assumption); have q19 : x5_1 < (a0.size : Int) := of_decide_eq_true (by first | (with_reducible assumption) | assumption); have hx19 := bt_at a0 x5_1; replace p19 := eq_true p19; replace q19 := eq_true q19; have p21 : 0 ≤ (x5_1 : Int) := of_decide_eq_true (by first | (with_reducible assumption) | assumption); have q21 : x5_1 < (a0.size : Int) := of_decide_eq_true (by first | (with_reducible assumption) | assumption); have hx21 := bt_at a0 x5_1; replace p21 := eq_true p21; replace q21 := eq_true q21; have p23 : 0 ≤ (x5_1 : Int) := of_decide_eq_true (by first | (with_reducible assumption) | assumption); have q23 : x5_1 < (a0.size : Int) := of_decide_eq_true (by first | (with_reducible assumption) | assumption); have hx23 := bt_at a0 x5_1; replace p23 := eq_true p23; replace q23 := eq_true q23; have p25 : 0 ≤ (x5_1 : Int) := of_decide_eq_true (by first | (with_reducible assumption) | assumption); have q25 : x5_1 < (a0.size : Int) := of_decide_eq_true (by first | (with_reducible assumption) | assumption); have hx25 := bt_at a0 x5_1; replace p25 := eq_true p25; replace q25 := eq_true q25)))
                                  go_ret
                                  exact ⟨by first | rfl | (simp; done) | (simp only [← hji11] <;> (first | rfl | simp)) | (simp [*]; done), by repeat (first | exact Drawn0.refl _ | apply Drawn0.step)⟩
                  · rw [if_neg c12] at H
                    have c12b0 : decide ((ji11) ≤ (rd l1 x5_1)) = false := decide_eq_false c12
                    clear c12
                    have H' := Aside0.mk H
                    clear H
                    have p576 : 0 ≤ (x5_1 : Int) := of_decide_eq_true (by first | (with_reducible assumption) | assumption)
                    have q576 : x5_1 < (l1.length : Int) := of_decide_eq_true (by first | (with_reducible assumption) | assumption)
                    obtain ⟨ad576, e576, hx576_0⟩ := Kd.at_int HR1.out x5_1 p576 q576
                    cases e576
                    replace p576 := eq_true p576
                    replace q576 := eq_true q576
                    have p577 : 0 ≤ (x5_1 : Int) := of_decide_eq_true (by first | (with_reducible assumption) | assumption)
                    have q577 : x5_1 < (l1.length : Int) := of_decide_eq_true (by first | (with_reducible assumption) | assumption)
                    obtain ⟨ad577, e577, hx577_0⟩ := Kd.at_int HR1.out x5_1 p577 q577
                    obtain rfl : ad576 = ad577 := (by injection e577)
                    replace p577 := eq_true p577
                    replace q577 := eq_true q577
                    have p8 : 0 ≤ (x5_1 : Int) := of_decide_eq_true (by first | (with_reducible assumption) | assumption)
                    have q8 : x5_1 < (a0.size : Int) := of_decide_eq_true (by first | (with_reducible assumption) | assumption)
                    have hx8 := bt_at a0 x5_1
                    replace p8 := eq_true p8
                    replace q8 := eq_true q8
                    go_wp2_with (first | (go_at_call 19; (with_reducible refine (spec_Size.calls k1 (bt a0 x5_1) t578 _ A9.out).mono ?_); rintro e w' ⟨rfl, ⟨nd, rfl⟩⟩; (try first | exact ⟨rfl, _, World.drewN_drewN _ _ _⟩ | exact ⟨rfl, _, Eq.trans (World.drewN_drewN _ _ _) (congrArg (World.drewN _) (Nat.add_assoc _ _ _))⟩)))
                    repeat (go_quiet (first | (go_at_call 19; (with_reducible refine (spec_Size.calls k1 (bt a0 x5_1) t578 _ A9.out).mono ?_); rintro e w' ⟨rfl, ⟨nd, rfl⟩⟩; (try first | exact ⟨rfl, _, World.drewN_drewN _ _ _⟩ | exact ⟨rfl, _, Eq.trans (World.drewN_drewN _ _ _) (congrArg (World.drewN _) (Nat.add_assoc _ _ _))⟩))); try go_wp2_with (first | (go_at_call 19; (with_reducible refine (spec_Size.calls k1 (bt a0 x5_1) t578 _ A9.out).mono ?_); rintro e w' ⟨rfl, ⟨nd, rfl⟩⟩; (try first | exact ⟨rfl, _, World.drewN_drewN _ _ _⟩ | exact ⟨rfl, _, Eq.trans (World.drewN_drewN _ _ _) (congrArg (World.drewN _) (Nat.add_assoc _ _ _))⟩))))
                    go_roundg k1
                    case measure => have := HK1.out; omega
                    case rel => exact ⟨(wrap64 (x5_1 + 1)), (by first | rfl | (simp; done) | (simp [*]; done)), H', ⟨by have := HK1.out; omega⟩, by repeat (first | exact Drawn0.refl _ | apply Drawn0.step)⟩
                · rw [if_neg c10] at H
                  exact absurd H (by simp)
              · rw [if_neg c7] at H
                exact absurd H (by simp)
          · rw [if_neg c5] at H
            exact absurd H (by simp)
        · rw [if_neg c4] at H
          have c4b0 : decide (x5_1 < (l1.length : Int)) = false := decide_eq_false c4
          clear c4
          obtain rfl := Option.some.inj H
          go_wp2
          repeat (go_quiet (fail); try go_wp2)
          go_ret
          exact ⟨by first | rfl | (simp; done) | (simp [*]; done), by repeat (first | exact Drawn0.refl _ | apply Drawn0.step)⟩
  · rw [if_neg c3] at H
    have c3b0 : ((l1.length : Int) == (a0.size : Int)) = false := beq_eq_false_iff_ne.mpr c3
    have c3b1 : ((l1.length : Int) != (a0.size : Int)) = true := bne_iff_ne.mpr c3
    have c3b2 : (l1.length == a0.size) = false := by first | simpa using c3 | (simp at c3 ⊢; omega)
    obtain rfl := Option.some.inj H
    go_enter Try.func16, Try.ntmps16
    go_wp2
    repeat (go_quiet (fail); try go_wp2)
    go_ret
    exact ⟨by first | rfl | (simp; done) | (simp [*]; done), by repeat (first | exact Drawn0.refl _ | apply Drawn0.step)⟩


end Go.Proofs.Ytnfkdmoblncclaa.X
