/- The places of letters. -/
import Derived.Test.YtnfkdmoblncclaaXPre
namespace Go.Proofs.Ytnfkdmoblncclaa.X
open Go.RowKit Go.Proofs.YtnfkdmoblncclaaW.PrintWords Go.Proofs.YtnfkdmoblncclaaW.PrintLast Go.Proofs.YtnfkdmoblncclaaW.PrintMore
attribute [local go_sem] max2_int min2_int max_two min_two max_three min_three max_four min_four   -- for this text's walks alone
set_option linter.unusedVariables false
set_option linter.unusedSimpArgs false

/-! ### spec_place: function 23 -/
mutual
def spec_place.j0 : Nat → Int → Bool → Option (Int × Int × Int)
  | 0, _, _ => none
  | k + 1, x5, x6 => if x6 = true then (some (6, 10, (-1))) else (if x5 = 65 then (spec_place.j1 k x5 (x5 == 65)) else (if x5 = 87 then (spec_place.j1 k x5 (x5 == 87)) else (if x5 = 71 then (spec_place.j1 k x5 (x5 == 71)) else (if x5 = 97 then (spec_place.j1 k x5 (x5 == 97)) else (if x5 = 85 then (spec_place.j1 k x5 (x5 == 85)) else (spec_place.j1 k x5 (x5 == 83)))))))
def spec_place.j1 : Nat → Int → Bool → Option (Int × Int × Int)
  | 0, _, _ => none
  | k + 1, x5, x11 => if x11 = true then (some (11, 15, (-1))) else (if x5 = 66 then (spec_place.j2 k x5 (x5 == 66)) else (if x5 = 88 then (spec_place.j2 k x5 (x5 == 88)) else (if x5 = 72 then (spec_place.j2 k x5 (x5 == 72)) else (spec_place.j2 k x5 (x5 == 104)))))
def spec_place.j2 : Nat → Int → Bool → Option (Int × Int × Int)
  | 0, _, _ => none
  | k + 1, x5, x18 => if x18 = true then (some (16, 20, (-1))) else (if x5 = 89 then (spec_place.j3 k x5 (x5 == 89)) else (if x5 = 75 then (spec_place.j3 k x5 (x5 == 75)) else (if x5 = 109 then (spec_place.j3 k x5 (x5 == 109)) else (spec_place.j3 k x5 (x5 == 98)))))
def spec_place.j3 : Nat → Int → Bool → Option (Int × Int × Int)
  | 0, _, _ => none
  | k + 1, x5, x23 => if x23 = true then (some (21, 25, (-1))) else (if x5 = 101 then (some (26, 30, (-1))) else (if x5 = 67 then (some (6, 8, (-1))) else (if x5 = 117 then (spec_place.j4 k x5 (x5 == 117)) else (if x5 = 115 then (spec_place.j4 k x5 (x5 == 115)) else (spec_place.j4 k x5 (x5 == 111))))))
def spec_place.j4 : Nat → Int → Bool → Option (Int × Int × Int)
  | 0, _, _ => none
  | k + 1, x5, x32 => if x32 = true then (some (16, 31, (-1))) else (if x5 = 100 then (spec_place.j5 k x5 (x5 == 100)) else (if x5 = 114 then (spec_place.j5 k x5 (x5 == 114)) else (spec_place.j5 k x5 (x5 == 76))))
def spec_place.j5 : Nat → Int → Bool → Option (Int × Int × Int)
  | 0, _, _ => none
  | k + 1, x5, x36 => if x36 = true then (some (16, 29, (-1))) else (if x5 = 68 then (some (16, 27, (-1))) else (if x5 = 112 then (spec_place.j6 k x5 (x5 == 112)) else (spec_place.j6 k x5 (x5 == 108))))
def spec_place.j6 : Nat → Int → Bool → Option (Int × Int × Int)
  | 0, _, _ => none
  | k + 1, x5, x42 => if x42 = true then (some (6, 29, (-1))) else (if x5 = 110 then (some (22, 23, (-1))) else (if x5 = 78 then (some (14, 15, (-1))) else (if x5 = 90 then (some (22, 25, (-1))) else (if x5 = 82 then (some (16, 16, (-1))) else (if x5 = 81 then (some (17, 20, (-1))) else (if x5 = 122 then (some (21, 22, (-1))) else (if x5 = 118 then (some (31, 31, (-1))) else (if x5 = 50 then (some (19, 20, (-1))) else (if x5 = 105 then (some (6, 10, 31)) else (if x5 = 73 then (some (6, 10, 28)) else (if x5 = 106 then (some (11, 15, 29)) else (if x5 = 107 then (spec_place.j7 k x5 (x5 == 107)) else (spec_place.j7 k x5 (x5 == 103))))))))))))))
def spec_place.j7 : Nat → Int → Bool → Option (Int × Int × Int)
  | 0, _, _ => none
  | k + 1, x5, x67 => if x67 = true then (some (16, 20, 30)) else (if x5 = 113 then (some (21, 25, 28)) else (some (21, 25, 26)))
end
def spec_place.f (k : Nat) (a0 : Int) : Option (Int × Int × Int) := if a0 = 84 then (spec_place.j0 k a0 (a0 == 84)) else (if a0 = 70 then (spec_place.j0 k a0 (a0 == 70)) else (if a0 = 86 then (spec_place.j0 k a0 (a0 == 86)) else (spec_place.j0 k a0 (a0 == 79))))
theorem spec_place.mono_l : ∀ k, (∀ y0 y1, LeO (spec_place.j0 k y0 y1) (spec_place.j0 (k + 1) y0 y1)) ∧ (∀ y0 y1, LeO (spec_place.j1 k y0 y1) (spec_place.j1 (k + 1) y0 y1)) ∧ (∀ y0 y1, LeO (spec_place.j2 k y0 y1) (spec_place.j2 (k + 1) y0 y1)) ∧ (∀ y0 y1, LeO (spec_place.j3 k y0 y1) (spec_place.j3 (k + 1) y0 y1)) ∧ (∀ y0 y1, LeO (spec_place.j4 k y0 y1) (spec_place.j4 (k + 1) y0 y1)) ∧ (∀ y0 y1, LeO (spec_place.j5 k y0 y1) (spec_place.j5 (k + 1) y0 y1)) ∧ (∀ y0 y1, LeO (spec_place.j6 k y0 y1) (spec_place.j6 (k + 1) y0 y1)) ∧ (∀ y0 y1, LeO (spec_place.j7 k y0 y1) (spec_place.j7 (k + 1) y0 y1))
  | 0 => ⟨fun _ _ r h => by simp [spec_place.j0] at h, fun _ _ r h => by simp [spec_place.j1] at h, fun _ _ r h => by simp [spec_place.j2] at h, fun _ _ r h => by simp [spec_place.j3] at h, fun _ _ r h => by simp [spec_place.j4] at h, fun _ _ r h => by simp [spec_place.j5] at h, fun _ _ r h => by simp [spec_place.j6] at h, fun _ _ r h => by simp [spec_place.j7] at h⟩
  | k + 1 => by
    obtain ⟨ih0, ih1, ih2, ih3, ih4, ih5, ih6, ih7⟩ := spec_place.mono_l k
    refine ⟨?_, ?_, ?_, ?_, ?_, ?_, ?_, ?_⟩
    · intro y0 y1
      unfold spec_place.j0
      repeat' first
      | (with_reducible exact ih0 _ _)
      | (with_reducible exact ih1 _ _)
      | (with_reducible exact ih2 _ _)
      | (with_reducible exact ih3 _ _)
      | (with_reducible exact ih4 _ _)
      | (with_reducible exact ih5 _ _)
      | (with_reducible exact ih6 _ _)
      | (with_reducible exact ih7 _ _)
      | (with_reducible exact LeO.refl _)
      | (with_reducible exact LeO.none _)
      | (with_reducible refine LeO.ite ?_ ?_)
      | (with_reducible refine LeO.bind ?_ (fun _ => ?_))
      | exact ih0 _ _
      | exact ih1 _ _
      | exact ih2 _ _
      | exact ih3 _ _
      | exact ih4 _ _
      | exact ih5 _ _
      | exact ih6 _ _
      | exact ih7 _ _
      | exact LeO.none _
      | refine LeO.ite ?_ ?_
      | refine LeO.bind ?_ (fun _ => ?_)
    · intro y0 y1
      unfold spec_place.j1
      repeat' first
      | (with_reducible exact ih0 _ _)
      | (with_reducible exact ih1 _ _)
      | (with_reducible exact ih2 _ _)
      | (with_reducible exact ih3 _ _)
      | (with_reducible exact ih4 _ _)
      | (with_reducible exact ih5 _ _)
      | (with_reducible exact ih6 _ _)
      | (with_reducible exact ih7 _ _)
      | (with_reducible exact LeO.refl _)
      | (with_reducible exact LeO.none _)
      | (with_reducible refine LeO.ite ?_ ?_)
      | (with_reducible refine LeO.bind ?_ (fun _ => ?_))
      | exact ih0 _ _
      | exact ih1 _ _
      | exact ih2 _ _
      | exact ih3 _ _
      | exact ih4 _ _
      | exact ih5 _ _
      | exact ih6 _ _
      | exact ih7 _ _
      | exact LeO.none _
      | refine LeO.ite ?_ ?_
      | refine LeO.bind ?_ (fun _ => ?_)
    · intro y0 y1
      unfold spec_place.j2
      repeat' first
      | (with_reducible exact ih0 _ _)
      | (with_reducible exact ih1 _ _)
      | (with_reducible exact ih2 _ _)
      | (with_reducible exact ih3 _ _)
      | (with_reducible exact ih4 _ _)
      | (with_reducible exact ih5 _ _)
      | (with_reducible exact ih6 _ _)
      | (with_reducible exact ih7 _ _)
      | (with_reducible exact LeO.refl _)
      | (with_reducible exact LeO.none _)
      | (with_reducible refine LeO.ite ?_ ?_)
      | (with_reducible refine LeO.bind ?_ (fun _ => ?_))
      | exact ih0 _ _
      | exact ih1 _ _
      | exact ih2 _ _
      | exact ih3 _ _
      | exact ih4 _ _
      | exact ih5 _ _
      | exact ih6 _ _
      | exact ih7 _ _
      | exact LeO.none _
      | refine LeO.ite ?_ ?_
      | refine LeO.bind ?_ (fun _ => ?_)
    · intro y0 y1
      unfold spec_place.j3
      repeat' first
      | (with_reducible exact ih0 _ _)
      | (with_reducible exact ih1 _ _)
      | (with_reducible exact ih2 _ _)
      | (with_reducible exact ih3 _ _)
      | (with_reducible exact ih4 _ _)
      | (with_reducible exact ih5 _ _)
      | (with_reducible exact ih6 _ _)
      | (with_reducible exact ih7 _ _)
      | (with_reducible exact LeO.refl _)
      | (with_reducible exact LeO.none _)
      | (with_reducible refine LeO.ite ?_ ?_)
      | (with_reducible refine LeO.bind ?_ (fun _ => ?_))
      | exact ih0 _ _
      | exact ih1 _ _
      | exact ih2 _ _
      | exact ih3 _ _
      | exact ih4 _ _
      | exact ih5 _ _
      | exact ih6 _ _
      | exact ih7 _ _
      | exact LeO.none _
      | refine LeO.ite ?_ ?_
      | refine LeO.bind ?_ (fun _ => ?_)
    · intro y0 y1
      unfold spec_place.j4
      repeat' first
      | (with_reducible exact ih0 _ _)
      | (with_reducible exact ih1 _ _)
      | (with_reducible exact ih2 _ _)
      | (with_reducible exact ih3 _ _)
      | (with_reducible exact ih4 _ _)
      | (with_reducible exact ih5 _ _)
      | (with_reducible exact ih6 _ _)
      | (with_reducible exact ih7 _ _)
      | (with_reducible exact LeO.refl _)
      | (with_reducible exact LeO.none _)
      | (with_reducible refine LeO.ite ?_ ?_)
      | (with_reducible refine LeO.bind ?_ (fun _ => ?_))
      | exact ih0 _ _
      | exact ih1 _ _
      | exact ih2 _ _
      | exact ih3 _ _
      | exact ih4 _ _
      | exact ih5 _ _
      | exact ih6 _ _
      | exact ih7 _ _
      | exact LeO.none _
      | refine LeO.ite ?_ ?_
      | refine LeO.bind ?_ (fun _ => ?_)
    · intro y0 y1
      unfold spec_place.j5
      repeat' first
      | (with_reducible exact ih0 _ _)
      | (with_reducible exact ih1 _ _)
      | (with_reducible exact ih2 _ _)
      | (with_reducible exact ih3 _ _)
      | (with_reducible exact ih4 _ _)
      | (with_reducible exact ih5 _ _)
      | (with_reducible exact ih6 _ _)
      | (with_reducible exact ih7 _ _)
      | (with_reducible exact LeO.refl _)
      | (with_reducible exact LeO.none _)
      | (with_reducible refine LeO.ite ?_ ?_)
      | (with_reducible refine LeO.bind ?_ (fun _ => ?_))
      | exact ih0 _ _
      | exact ih1 _ _
      | exact ih2 _ _
      | exact ih3 _ _
      | exact ih4 _ _
      | exact ih5 _ _
      | exact ih6 _ _
      | exact ih7 _ _
      | exact LeO.none _
      | refine LeO.ite ?_ ?_
      | refine LeO.bind ?_ (fun _ => ?_)
    · intro y0 y1
      unfold spec_place.j6
      repeat' first
      | (with_reducible exact ih0 _ _)
      | (with_reducible exact ih1 _ _)
      | (with_reducible exact ih2 _ _)
      | (with_reducible exact ih3 _ _)
      | (with_reducible exact ih4 _ _)
      | (with_reducible exact ih5 _ _)
      | (with_reducible exact ih6 _ _)
      | (with_reducible exact ih7 _ _)
      | (with_reducible exact LeO.refl _)
      | (with_reducible exact LeO.none _)
      | (with_reducible refine LeO.ite ?_ ?_)
      | (with_reducible refine LeO.bind ?_ (fun _ => ?_))
      | exact ih0 _ _
      | exact ih1 _ _
      | exact ih2 _ _
      | exact ih3 _ _
      | exact ih4 _ _
      | exact ih5 _ _
      | exact ih6 _ _
      | exact ih7 _ _
      | exact LeO.none _
      | refine LeO.ite ?_ ?_
      | refine LeO.bind ?_ (fun _ => ?_)
    · intro y0 y1
      unfold spec_place.j7
      repeat' first
      | (with_reducible exact ih0 _ _)
      | (with_reducible exact ih1 _ _)
      | (with_reducible exact ih2 _ _)
      | (with_reducible exact ih3 _ _)
      | (with_reducible exact ih4 _ _)
      | (with_reducible exact ih5 _ _)
      | (with_reducible exact ih6 _ _)
      | (with_reducible exact ih7 _ _)
      | (with_reducible exact LeO.refl _)
      | (with_reducible exact LeO.none _)
      | (with_reducible refine LeO.ite ?_ ?_)
      | (with_reducible refine LeO.bind ?_ (fun _ => ?_))
      | exact ih0 _ _
      | exact ih1 _ _
      | exact ih2 _ _
      | exact ih3 _ _
      | exact ih4 _ _
      | exact ih5 _ _
      | exact ih6 _ _
      | exact ih7 _ _
      | exact LeO.none _
      | refine LeO.ite ?_ ?_
      | refine LeO.bind ?_ (fun _ => ?_)
theorem spec_place.mono : ∀ a0 k, LeO (spec_place.f k a0) (spec_place.f (k + 1) a0) := by
  intro a0 k
  obtain ⟨ih0, ih1, ih2, ih3, ih4, ih5, ih6, ih7⟩ := spec_place.mono_l k
  unfold spec_place.f
  repeat' first
      | (with_reducible exact ih0 _ _)
      | (with_reducible exact ih1 _ _)
      | (with_reducible exact ih2 _ _)
      | (with_reducible exact ih3 _ _)
      | (with_reducible exact ih4 _ _)
      | (with_reducible exact ih5 _ _)
      | (with_reducible exact ih6 _ _)
      | (with_reducible exact ih7 _ _)
      | (with_reducible exact LeO.refl _)
      | (with_reducible exact LeO.none _)
      | (with_reducible refine LeO.ite ?_ ?_)
      | (with_reducible refine LeO.bind ?_ (fun _ => ?_))
      | exact ih0 _ _
      | exact ih1 _ _
      | exact ih2 _ _
      | exact ih3 _ _
      | exact ih4 _ _
      | exact ih5 _ _
      | exact ih6 _ _
      | exact ih7 _ _
      | exact LeO.none _
      | refine LeO.ite ?_ ?_
      | refine LeO.bind ?_ (fun _ => ?_)
set_option maxHeartbeats 8000000 in
set_option maxRecDepth 100000 in
theorem spec_place.calls (k : Nat) (a0 : Int) (r1 : Int) (r2 : Int) (r3 : Int) (w : World) (h : spec_place.f k a0 = some (r1, r2, r3)) :
    Calls Try.prog 23 #[.int .u8 a0] w fun e w' => e = .returned (.tuple #[.int .i64 r1, .int .i64 r2, .int .i64 r3]) ∧ Drawn0 w w' := by
  have H : (if a0 = 84 then (spec_place.j0 k a0 (a0 == 84)) else (if a0 = 70 then (spec_place.j0 k a0 (a0 == 70)) else (if a0 = 86 then (spec_place.j0 k a0 (a0 == 86)) else (spec_place.j0 k a0 (a0 == 79))))) = some (r1, r2, r3) := h
  clear h
  have HC2 := Aside0.mk H
  clear H
  go_enter Try.func23, Try.ntmps23
  go_upto_if 6 with (fail)
  go_cut [6] (fun v6 wc => ∃ (kq : Nat) (x6_1 : Bool), v6 = .bool x6_1 ∧ Aside0 (spec_place.j0 kq a0 x6_1 = some (r1, r2, r3)) ∧ Aside0 (kq ≤ k) ∧ Drawn0 w wc)
  case first =>
    have H := HC2.out
    clear HC2
    by_cases c3 : a0 = 84
    · rw [if_pos c3] at H
      have c3b0 : (a0 == 84) = true := beq_iff_eq.mpr c3
      have c3b1 : (a0 != 84) = false := bne_eq_false_iff_eq.mpr c3
      clear c3
      (first | rw [c3b0] | (simp only [i64_w, i32_w]; rw [c3b0]) | skip)
      have H' := Aside0.mk H
      clear H
      go_wp2
      go_meet
      case rel => exact ⟨_, ((a0 == 84)), (by first | rfl | (simp; done) | (simp [*]; done)), H', ⟨by first | omega | exact Nat.le_refl _⟩, by repeat (first | exact Drawn0.refl _ | apply Drawn0.step)⟩
    · rw [if_neg c3] at H
      have c3b0 : (a0 == 84) = false := beq_eq_false_iff_ne.mpr c3
      have c3b1 : (a0 != 84) = true := bne_iff_ne.mpr c3
      (first | rw [c3b0] | (simp only [i64_w, i32_w]; rw [c3b0]) | skip)
      by_cases c4 : a0 = 70
      · rw [if_pos c4] at H
        have c4b0 : (a0 == 70) = true := beq_iff_eq.mpr c4
        have c4b1 : (a0 != 70) = false := bne_eq_false_iff_eq.mpr c4
        clear c4
        have H' := Aside0.mk H
        clear H
        go_wp2
        go_meet
        case rel => exact ⟨_, ((a0 == 70)), (by first | rfl | (simp; done) | (simp [*]; done)), H', ⟨by first | omega | exact Nat.le_refl _⟩, by repeat (first | exact Drawn0.refl _ | apply Drawn0.step)⟩
      · rw [if_neg c4] at H
        have c4b0 : (a0 == 70) = false := beq_eq_false_iff_ne.mpr c4
        have c4b1 : (a0 != 70) = true := bne_iff_ne.mpr c4
        by_cases c5 : a0 = 86
        · rw [if_pos c5] at H
          have c5b0 : (a0 == 86) = true := beq_iff_eq.mpr c5
          have c5b1 : (a0 != 86) = false := bne_eq_false_iff_eq.mpr c5
          clear c5
          have H' := Aside0.mk H
          clear H
          go_wp2
          go_meet
          case rel => exact ⟨_, ((a0 == 86)), (by first | rfl | (simp; done) | (simp [*]; done)), H', ⟨by first | omega | exact Nat.le_refl _⟩, by repeat (first | exact Drawn0.refl _ | apply Drawn0.step)⟩
        · rw [if_neg c5] at H
          have c5b0 : (a0 == 86) = false := beq_eq_false_iff_ne.mpr c5
          have c5b1 : (a0 != 86) = true := bne_iff_ne.mpr c5
          have H' := Aside0.mk H
          clear H
          go_wp2
          go_meet
          case rel => exact ⟨_, ((a0 == 79)), (by first | rfl | (simp; done) | (simp [*]; done)), H', ⟨by first | omega | exact Nat.le_refl _⟩, by repeat (first | exact Drawn0.refl _ | apply Drawn0.step)⟩
  case rest =>
    clear HC2
    try clear c2
    try clear p2
    try clear c3
    try clear c3b0
    try clear c3b1
    try clear c4
    try clear c4b0
    try clear c4b1
    try clear c5
    try clear c5b0
    try clear c5b1
    obtain ⟨kq, x6_1, rfl, HA, HJ1, ⟨mc1, rfl⟩⟩ := hcut
    cases kq with
    | zero => exact absurd HA.out (by simp [spec_place.j0])
    | succ kj1 =>
      have H := HA.out
      clear HA
      simp only [spec_place.j0] at H
      by_cases c6 : x6_1 = true
      · subst c6
        have H1 : (some (6, 10, (-1))) = some (r1, r2, r3) := by rw [if_pos rfl] at H; exact H
        clear H
        have H := H1
        clear H1
        simp only [Option.some.injEq, Prod.mk.injEq] at H
        obtain ⟨rfl, rfl, rfl⟩ := H
        go_wp2
        go_ret3
        exact ⟨by first | rfl | (simp; done) | (simp [*]; done), by repeat (first | exact Drawn0.refl _ | apply Drawn0.step)⟩
      · replace c6 := Bool.eq_false_iff.mpr c6
        subst c6
        have H1 : (if a0 = 65 then (spec_place.j1 kj1 a0 (a0 == 65)) else (if a0 = 87 then (spec_place.j1 kj1 a0 (a0 == 87)) else (if a0 = 71 then (spec_place.j1 kj1 a0 (a0 == 71)) else (if a0 = 97 then (spec_place.j1 kj1 a0 (a0 == 97)) else (if a0 = 85 then (spec_place.j1 kj1 a0 (a0 == 85)) else (spec_place.j1 kj1 a0 (a0 == 83))))))) = some (r1, r2, r3) := by rw [if_neg (show ¬ (false = true) by decide)] at H; exact H
        clear H
        have H := H1
        clear H1
        have HC7 := Aside0.mk H
        clear H
        go_upto_if 11 with (fail)
        go_cut [11] (fun v11 wc => ∃ (kq : Nat) (x11_6 : Bool), v11 = .bool x11_6 ∧ Aside0 (spec_place.j1 kq a0 x11_6 = some (r1, r2, r3)) ∧ Aside0 (kq ≤ kj1) ∧ Drawn0 w wc)
        case first =>
          have H := HC7.out
          clear HC7
          by_cases c8 : a0 = 65
          · rw [if_pos c8] at H
            have c8b0 : (a0 == 65) = true := beq_iff_eq.mpr c8
            have c8b1 : (a0 != 65) = false := bne_eq_false_iff_eq.mpr c8
            clear c8
            (first | rw [c8b0] | (simp only [i64_w, i32_w]; rw [c8b0]) | skip)
            have H' := Aside0.mk H
            clear H
            go_wp2
            go_meet
            case rel => exact ⟨_, ((a0 == 65)), (by first | rfl | (simp; done) | (simp [*]; done)), H', ⟨by have := HJ1.out; first | omega | exact Nat.le_refl _⟩, by repeat (first | exact Drawn0.refl _ | apply Drawn0.step)⟩
          · rw [if_neg c8] at H
            have c8b0 : (a0 == 65) = false := beq_eq_false_iff_ne.mpr c8
            have c8b1 : (a0 != 65) = true := bne_iff_ne.mpr c8
            (first | rw [c8b0] | (simp only [i64_w, i32_w]; rw [c8b0]) | skip)
            by_cases c9 : a0 = 87
            · rw [if_pos c9] at H
              have c9b0 : (a0 == 87) = true := beq_iff_eq.mpr c9
              have c9b1 : (a0 != 87) = false := bne_eq_false_iff_eq.mpr c9
              clear c9
              have H' := Aside0.mk H
              clear H
              go_wp2
              go_meet
              case rel => exact ⟨_, ((a0 == 87)), (by first | rfl | (simp; done) | (simp [*]; done)), H', ⟨by have := HJ1.out; first | omega | exact Nat.le_refl _⟩, by repeat (first | exact Drawn0.refl _ | apply Drawn0.step)⟩
            · rw [if_neg c9] at H
              have c9b0 : (a0 == 87) = false := beq_eq_false_iff_ne.mpr c9
              have c9b1 : (a0 != 87) = true := bne_iff_ne.mpr c9
              by_cases c10 : a0 = 71
              · rw [if_pos c10] at H
                have c10b0 : (a0 == 71) = true := beq_iff_eq.mpr c10
                have c10b1 : (a0 != 71) = false := bne_eq_false_iff_eq.mpr c10
                clear c10
                have H' := Aside0.mk H
                clear H
                go_wp2
                go_meet
                case rel => exact ⟨_, ((a0 == 71)), (by first | rfl | (simp; done) | (simp [*]; done)), H', ⟨by have := HJ1.out; first | omega | exact Nat.le_refl _⟩, by repeat (first | exact Drawn0.refl _ | apply Drawn0.step)⟩
              · rw [if_neg c10] at H
                have c10b0 : (a0 == 71) = false := beq_eq_false_iff_ne.mpr c10
                have c10b1 : (a0 != 71) = true := bne_iff_ne.mpr c10
                by_cases c11 : a0 = 97
                · rw [if_pos c11] at H
                  have c11b0 : (a0 == 97) = true := beq_iff_eq.mpr c11
                  have c11b1 : (a0 != 97) = false := bne_eq_false_iff_eq.mpr c11
                  clear c11
                  have H' := Aside0.mk H
                  clear H
                  go_wp2
                  go_meet
                  case rel => exact ⟨_, ((a0 == 97)), (by first | rfl | (simp; done) | (simp [*]; done)), H', ⟨by have := HJ1.out; first | omega | exact Nat.le_refl _⟩, by repeat (first | exact Drawn0.refl _ | apply Drawn0.step)⟩
                · rw [if_neg c11] at H
                  have c11b0 : (a0 == 97) = false := beq_eq_false_iff_ne.mpr c11
                  have c11b1 : (a0 != 97) = true := bne_iff_ne.mpr c11
                  by_cases c12 : a0 = 85
                  · rw [if_pos c12] at H
                    have c12b0 : (a0 == 85) = true := beq_iff_eq.mpr c12
                    have c12b1 : (a0 != 85) = false := bne_eq_false_iff_eq.mpr c12
                    clear c12
                    have H' := Aside0.mk H
                    clear H
                    go_wp2
                    go_meet
                    case rel => exact ⟨_, ((a0 == 85)), (by first | rfl | (simp; done) | (simp [*]; done)), H', ⟨by have := HJ1.out; first | omega | exact Nat.le_refl _⟩, by repeat (first | exact Drawn0.refl _ | apply Drawn0.step)⟩
                  · rw [if_neg c12] at H
                    have c12b0 : (a0 == 85) = false := beq_eq_false_iff_ne.mpr c12
                    have c12b1 : (a0 != 85) = true := bne_iff_ne.mpr c12
                    have H' := Aside0.mk H
                    clear H
                    go_wp2
                    go_meet
                    case rel => exact ⟨_, ((a0 == 83)), (by first | rfl | (simp; done) | (simp [*]; done)), H', ⟨by have := HJ1.out; first | omega | exact Nat.le_refl _⟩, by repeat (first | exact Drawn0.refl _ | apply Drawn0.step)⟩
        case rest =>
          clear HC7
          try clear c1
          try clear c2
          try clear p2
          try clear c3
          try clear c3b0
          try clear c3b1
          try clear c4
          try clear c4b0
          try clear c4b1
          try clear c5
          try clear c5b0
          try clear c5b1
          try clear c6
          try clear c8
          try clear c8b0
          try clear c8b1
          try clear c9
          try clear c9b0
          try clear c9b1
          try clear c10
          try clear c10b0
          try clear c10b1
          try clear c11
          try clear c11b0
          try clear c11b1
          try clear c12
          try clear c12b0
          try clear c12b1
          try clear p2
          obtain ⟨kq, x11_6, rfl, HA, HJ6, ⟨mc6, rfl⟩⟩ := hcut
          cases kq with
          | zero => exact absurd HA.out (by simp [spec_place.j1])
          | succ kj6 =>
            have H := HA.out
            clear HA
            simp only [spec_place.j1] at H
            by_cases c13 : x11_6 = true
            · subst c13
              have H1 : (some (11, 15, (-1))) = some (r1, r2, r3) := by rw [if_pos rfl] at H; exact H
              clear H
              have H := H1
              clear H1
              simp only [Option.some.injEq, Prod.mk.injEq] at H
              obtain ⟨rfl, rfl, rfl⟩ := H
              go_wp2
              go_ret3
              exact ⟨by first | rfl | (simp; done) | (simp [*]; done), by repeat (first | exact Drawn0.refl _ | apply Drawn0.step)⟩
            · replace c13 := Bool.eq_false_iff.mpr c13
              subst c13
              have H1 : (if a0 = 66 then (spec_place.j2 kj6 a0 (a0 == 66)) else (if a0 = 88 then (spec_place.j2 kj6 a0 (a0 == 88)) else (if a0 = 72 then (spec_place.j2 kj6 a0 (a0 == 72)) else (spec_place.j2 kj6 a0 (a0 == 104))))) = some (r1, r2, r3) := by rw [if_neg (show ¬ (false = true) by decide)] at H; exact H
              clear H
              have H := H1
              clear H1
              have HC14 := Aside0.mk H
              clear H
              go_upto_if 18 with (fail)
              go_cut [18] (fun v18 wc => ∃ (kq : Nat) (x18_13 : Bool), v18 = .bool x18_13 ∧ Aside0 (spec_place.j2 kq a0 x18_13 = some (r1, r2, r3)) ∧ Aside0 (kq ≤ kj6) ∧ Drawn0 w wc)
              case first =>
                have H := HC14.out
                clear HC14
                by_cases c15 : a0 = 66
                · rw [if_pos c15] at H
                  have c15b0 : (a0 == 66) = true := beq_iff_eq.mpr c15
                  have c15b1 : (a0 != 66) = false := bne_eq_false_iff_eq.mpr c15
                  clear c15
                  (first | rw [c15b0] | (simp only [i64_w, i32_w]; rw [c15b0]) | skip)
                  have H' := Aside0.mk H
                  clear H
                  go_wp2
                  go_meet
                  case rel => exact ⟨_, ((a0 == 66)), (by first | rfl | (simp; done) | (simp [*]; done)), H', ⟨by have := HJ1.out; have := HJ6.out; first | omega | exact Nat.le_refl _⟩, by repeat (first | exact Drawn0.refl _ | apply Drawn0.step)⟩
                · rw [if_neg c15] at H
                  have c15b0 : (a0 == 66) = false := beq_eq_false_iff_ne.mpr c15
                  have c15b1 : (a0 != 66) = true := bne_iff_ne.mpr c15
                  (first | rw [c15b0] | (simp only [i64_w, i32_w]; rw [c15b0]) | skip)
                  by_cases c16 : a0 = 88
                  · rw [if_pos c16] at H
                    have c16b0 : (a0 == 88) = true := beq_iff_eq.mpr c16
                    have c16b1 : (a0 != 88) = false := bne_eq_false_iff_eq.mpr c16
                    clear c16
                    have H' := Aside0.mk H
                    clear H
                    go_wp2
                    go_meet
                    case rel => exact ⟨_, ((a0 == 88)), (by first | rfl | (simp; done) | (simp [*]; done)), H', ⟨by have := HJ1.out; have := HJ6.out; first | omega | exact Nat.le_refl _⟩, by repeat (first | exact Drawn0.refl _ | apply Drawn0.step)⟩
                  · rw [if_neg c16] at H
                    have c16b0 : (a0 == 88) = false := beq_eq_false_iff_ne.mpr c16
                    have c16b1 : (a0 != 88) = true := bne_iff_ne.mpr c16
                    by_cases c17 : a0 = 72
                    · rw [if_pos c17] at H
                      have c17b0 : (a0 == 72) = true := beq_iff_eq.mpr c17
                      have c17b1 : (a0 != 72) = false := bne_eq_false_iff_eq.mpr c17
                      clear c17
                      have H' := Aside0.mk H
                      clear H
                      go_wp2
                      go_meet
                      case rel => exact ⟨_, ((a0 == 72)), (by first | rfl | (simp; done) | (simp [*]; done)), H', ⟨by have := HJ1.out; have := HJ6.out; first | omega | exact Nat.le_refl _⟩, by repeat (first | exact Drawn0.refl _ | apply Drawn0.step)⟩
                    · rw [if_neg c17] at H
                      have c17b0 : (a0 == 72) = false := beq_eq_false_iff_ne.mpr c17
                      have c17b1 : (a0 != 72) = true := bne_iff_ne.mpr c17
                      have H' := Aside0.mk H
                      clear H
                      go_wp2
                      go_meet
                      case rel => exact ⟨_, ((a0 == 104)), (by first | rfl | (simp; done) | (simp [*]; done)), H', ⟨by have := HJ1.out; have := HJ6.out; first | omega | exact Nat.le_refl _⟩, by repeat (first | exact Drawn0.refl _ | apply Drawn0.step)⟩
              case rest =>
                clear HC14
                try clear c1
                try clear c2
                try clear p2
                try clear c3
                try clear c3b0
                try clear c3b1
                try clear c4
                try clear c4b0
                try clear c4b1
                try clear c5
                try clear c5b0
                try clear c5b1
                try clear c6
                try clear c8
                try clear c8b0
                try clear c8b1
                try clear c9
                try clear c9b0
                try clear c9b1
                try clear c10
                try clear c10b0
                try clear c10b1
                try clear c11
                try clear c11b0
                try clear c11b1
                try clear c12
                try clear c12b0
                try clear c12b1
                try clear c13
                try clear c15
                try clear c15b0
                try clear c15b1
                try clear c16
                try clear c16b0
                try clear c16b1
                try clear c17
                try clear c17b0
                try clear c17b1
                try clear p2
                obtain ⟨kq, x18_13, rfl, HA, HJ13, ⟨mc13, rfl⟩⟩ := hcut
                cases kq with
                | zero => exact absurd HA.out (by simp [spec_place.j2])
                | succ kj13 =>
                  have H := HA.out
                  clear HA
                  simp only [spec_place.j2] at H
                  by_cases c18 : x18_13 = true
                  · subst c18
                    have H1 : (some (16, 20, (-1))) = some (r1, r2, r3) := by rw [if_pos rfl] at H; exact H
                    clear H
                    have H := H1
                    clear H1
                    simp only [Option.some.injEq, Prod.mk.injEq] at H
                    obtain ⟨rfl, rfl, rfl⟩ := H
                    go_wp2
                    go_ret3
                    exact ⟨by first | rfl | (simp; done) | (simp [*]; done), by repeat (first | exact Drawn0.refl _ | apply Drawn0.step)⟩
                  · replace c18 := Bool.eq_false_iff.mpr c18
                    subst c18
                    have H1 : (if a0 = 89 then (spec_place.j3 kj13 a0 (a0 == 89)) else (if a0 = 75 then (spec_place.j3 kj13 a0 (a0 == 75)) else (if a0 = 109 then (spec_place.j3 kj13 a0 (a0 == 109)) else (spec_place.j3 kj13 a0 (a0 == 98))))) = some (r1, r2, r3) := by rw [if_neg (show ¬ (false = true) by decide)] at H; exact H
                    clear H
                    have H := H1
                    clear H1
                    have HC19 := Aside0.mk H
                    clear H
                    go_upto_if 23 with (fail)
                    go_cut [23] (fun v23 wc => ∃ (kq : Nat) (x23_18 : Bool), v23 = .bool x23_18 ∧ Aside0 (spec_place.j3 kq a0 x23_18 = some (r1, r2, r3)) ∧ Aside0 (kq ≤ kj13) ∧ Drawn0 w wc)
                    case first =>
                      have H := HC19.out
                      clear HC19
                      by_cases c20 : a0 = 89
                      · rw [if_pos c20] at H
                        have c20b0 : (a0 == 89) = true := beq_iff_eq.mpr c20
                        have c20b1 : (a0 != 89) = false := bne_eq_false_iff_eq.mpr c20
                        clear c20
                        (first | rw [c20b0] | (simp only [i64_w, i32_w]; rw [c20b0]) | skip)
                        have H' := Aside0.mk H
                        clear H
                        go_wp2
                        go_meet
                        case rel => exact ⟨_, ((a0 == 89)), (by first | rfl | (simp; done) | (simp [*]; done)), H', ⟨by have := HJ1.out; have := HJ6.out; have := HJ13.out; first | omega | exact Nat.le_refl _⟩, by repeat (first | exact Drawn0.refl _ | apply Drawn0.step)⟩
                      · rw [if_neg c20] at H
                        have c20b0 : (a0 == 89) = false := beq_eq_false_iff_ne.mpr c20
                        have c20b1 : (a0 != 89) = true := bne_iff_ne.mpr c20
                        (first | rw [c20b0] | (simp only [i64_w, i32_w]; rw [c20b0]) | skip)
                        by_cases c21 : a0 = 75
                        · rw [if_pos c21] at H
                          have c21b0 : (a0 == 75) = true := beq_iff_eq.mpr c21
                          have c21b1 : (a0 != 75) = false := bne_eq_false_iff_eq.mpr c21
                          clear c21
                          have H' := Aside0.mk H
                          clear H
                          go_wp2
                          go_meet
                          case rel => exact ⟨_, ((a0 == 75)), (by first | rfl | (simp; done) | (simp [*]; done)), H', ⟨by have := HJ1.out; have := HJ6.out; have := HJ13.out; first | omega | exact Nat.le_refl _⟩, by repeat (first | exact Drawn0.refl _ | apply Drawn0.step)⟩
                        · rw [if_neg c21] at H
                          have c21b0 : (a0 == 75) = false := beq_eq_false_iff_ne.mpr c21
                          have c21b1 : (a0 != 75) = true := bne_iff_ne.mpr c21
                          by_cases c22 : a0 = 109
                          · rw [if_pos c22] at H
                            have c22b0 : (a0 == 109) = true := beq_iff_eq.mpr c22
                            have c22b1 : (a0 != 109) = false := bne_eq_false_iff_eq.mpr c22
                            clear c22
                            have H' := Aside0.mk H
                            clear H
                            go_wp2
                            go_meet
                            case rel => exact ⟨_, ((a0 == 109)), (by first | rfl | (simp; done) | (simp [*]; done)), H', ⟨by have := HJ1.out; have := HJ6.out; have := HJ13.out; first | omega | exact Nat.le_refl _⟩, by repeat (first | exact Drawn0.refl _ | apply Drawn0.step)⟩
                          · rw [if_neg c22] at H
                            have c22b0 : (a0 == 109) = false := beq_eq_false_iff_ne.mpr c22
                            have c22b1 : (a0 != 109) = true := bne_iff_ne.mpr c22
                            have H' := Aside0.mk H
                            clear H
                            go_wp2
                            go_meet
                            case rel => exact ⟨_, ((a0 == 98)), (by first | rfl | (simp; done) | (simp [*]; done)), H', ⟨by have := HJ1.out; have := HJ6.out; have := HJ13.out; first | omega | exact Nat.le_refl _⟩, by repeat (first | exact Drawn0.refl _ | apply Drawn0.step)⟩
                    case rest =>
                      clear HC19
                      try clear c1
                      try clear c2
                      try clear p2
                      try clear c3
                      try clear c3b0
                      try clear c3b1
                      try clear c4
                      try clear c4b0
                      try clear c4b1
                      try clear c5
                      try clear c5b0
                      try clear c5b1
                      try clear c6
                      try clear c8
                      try clear c8b0
                      try clear c8b1
                      try clear c9
                      try clear c9b0
                      try clear c9b1
                      try clear c10
                      try clear c10b0
                      try clear c10b1
                      try clear c11
                      try clear c11b0
                      try clear c11b1
                      try clear c12
                      try clear c12b0
                      try clear c12b1
                      try clear c13
                      try clear c15
                      try clear c15b0
                      try clear c15b1
                      try clear c16
                      try clear c16b0
                      try clear c16b1
                      try clear c17
                      try clear c17b0
                      try clear c17b1
                      try clear c18
                      try clear c20
                      try clear c20b0
                      try clear c20b1
                      try clear c21
                      try clear c21b0
                      try clear c21b1
                      try clear c22
                      try clear c22b0
                      try clear c22b1
                      try clear p2
                      obtain ⟨kq, x23_18, rfl, HA, HJ18, ⟨mc18, rfl⟩⟩ := hcut
                      cases kq with
                      | zero => exact absurd HA.out (by simp [spec_place.j3])
                      | succ kj18 =>
                        have H := HA.out
                        clear HA
                        simp only [spec_place.j3] at H
                        by_cases c23 : x23_18 = true
                        · subst c23
                          have H1 : (some (21, 25, (-1))) = some (r1, r2, r3) := by rw [if_pos rfl] at H; exact H
                          clear H
                          have H := H1
                          clear H1
                          simp only [Option.some.injEq, Prod.mk.injEq] at H
                          obtain ⟨rfl, rfl, rfl⟩ := H
                          go_wp2
                          go_ret3
                          exact ⟨by first | rfl | (simp; done) | (simp [*]; done), by repeat (first | exact Drawn0.refl _ | apply Drawn0.step)⟩
                        · replace c23 := Bool.eq_false_iff.mpr c23
                          subst c23
                          have H1 : (if a0 = 101 then (some (26, 30, (-1))) else (if a0 = 67 then (some (6, 8, (-1))) else (if a0 = 117 then (spec_place.j4 kj18 a0 (a0 == 117)) else (if a0 = 115 then (spec_place.j4 kj18 a0 (a0 == 115)) else (spec_place.j4 kj18 a0 (a0 == 111)))))) = some (r1, r2, r3) := by rw [if_neg (show ¬ (false = true) by decide)] at H; exact H
                          clear H
                          have H := H1
                          clear H1
                          by_cases c24 : a0 = 101
                          · rw [if_pos c24] at H
                            have c24b0 : (a0 == 101) = true := beq_iff_eq.mpr c24
                            have c24b1 : (a0 != 101) = false := bne_eq_false_iff_eq.mpr c24
                            clear c24
                            simp only [Option.some.injEq, Prod.mk.injEq] at H
                            obtain ⟨rfl, rfl, rfl⟩ := H
                            go_wp2
                            go_ret3
                            exact ⟨by first | rfl | (simp; done) | (simp [*]; done), by repeat (first | exact Drawn0.refl _ | apply Drawn0.step)⟩
                          · rw [if_neg c24] at H
                            have c24b0 : (a0 == 101) = false := beq_eq_false_iff_ne.mpr c24
                            have c24b1 : (a0 != 101) = true := bne_iff_ne.mpr c24
                            by_cases c25 : a0 = 67
                            · rw [if_pos c25] at H
                              have c25b0 : (a0 == 67) = true := beq_iff_eq.mpr c25
                              have c25b1 : (a0 != 67) = false := bne_eq_false_iff_eq.mpr c25
                              clear c25
                              simp only [Option.some.injEq, Prod.mk.injEq] at H
                              obtain ⟨rfl, rfl, rfl⟩ := H
                              go_wp2
                              go_ret3
                              exact ⟨by first | rfl | (simp; done) | (simp [*]; done), by repeat (first | exact Drawn0.refl _ | apply Drawn0.step)⟩
                            · rw [if_neg c25] at H
                              have c25b0 : (a0 == 67) = false := beq_eq_false_iff_ne.mpr c25
                              have c25b1 : (a0 != 67) = true := bne_iff_ne.mpr c25
                              have HC26 := Aside0.mk H
                              clear H
                              go_upto_if 32 with (fail)
                              go_cut [32] (fun v32 wc => ∃ (kq : Nat) (x32_25 : Bool), v32 = .bool x32_25 ∧ Aside0 (spec_place.j4 kq a0 x32_25 = some (r1, r2, r3)) ∧ Aside0 (kq ≤ kj18) ∧ Drawn0 w wc)
                              case first =>
                                have H := HC26.out
                                clear HC26
                                by_cases c27 : a0 = 117
                                · rw [if_pos c27] at H
                                  have c27b0 : (a0 == 117) = true := beq_iff_eq.mpr c27
                                  have c27b1 : (a0 != 117) = false := bne_eq_false_iff_eq.mpr c27
                                  clear c27
                                  (first | rw [c27b0] | (simp only [i64_w, i32_w]; rw [c27b0]) | skip)
                                  have H' := Aside0.mk H
                                  clear H
                                  go_wp2
                                  go_meet
                                  case rel => exact ⟨_, ((a0 == 117)), (by first | rfl | (simp; done) | (simp [*]; done)), H', ⟨by have := HJ1.out; have := HJ6.out; have := HJ13.out; have := HJ18.out; first | omega | exact Nat.le_refl _⟩, by repeat (first | exact Drawn0.refl _ | apply Drawn0.step)⟩
                                · rw [if_neg c27] at H
                                  have c27b0 : (a0 == 117) = false := beq_eq_false_iff_ne.mpr c27
                                  have c27b1 : (a0 != 117) = true := bne_iff_ne.mpr c27
                                  (first | rw [c27b0] | (simp only [i64_w, i32_w]; rw [c27b0]) | skip)
                                  by_cases c28 : a0 = 115
                                  · rw [if_pos c28] at H
                                    have c28b0 : (a0 == 115) = true := beq_iff_eq.mpr c28
                                    have c28b1 : (a0 != 115) = false := bne_eq_false_iff_eq.mpr c28
                                    clear c28
                                    have H' := Aside0.mk H
                                    clear H
                                    go_wp2
                                    go_meet
                                    case rel => exact ⟨_, ((a0 == 115)), (by first | rfl | (simp; done) | (simp [*]; done)), H', ⟨by have := HJ1.out; have := HJ6.out; have := HJ13.out; have := HJ18.out; first | omega | exact Nat.le_refl _⟩, by repeat (first | exact Drawn0.refl _ | apply Drawn0.step)⟩
                                  · rw [if_neg c28] at H
                                    have c28b0 : (a0 == 115) = false := beq_eq_false_iff_ne.mpr c28
                                    have c28b1 : (a0 != 115) = true := bne_iff_ne.mpr c28
                                    have H' := Aside0.mk H
                                    clear H
                                    go_wp2
                                    go_meet
                                    case rel => exact ⟨_, ((a0 == 111)), (by first | rfl | (simp; done) | (simp [*]; done)), H', ⟨by have := HJ1.out; have := HJ6.out; have := HJ13.out; have := HJ18.out; first | omega | exact Nat.le_refl _⟩, by repeat (first | exact Drawn0.refl _ | apply Drawn0.step)⟩
                              case rest =>
                                clear HC26
                                try clear c1
                                try clear c2
                                try clear p2
                                try clear c3
                                try clear c3b0
                                try clear c3b1
                                try clear c4
                                try clear c4b0
                                try clear c4b1
                                try clear c5
                                try clear c5b0
                                try clear c5b1
                                try clear c6
                                try clear c8
                                try clear c8b0
                                try clear c8b1
                                try clear c9
                                try clear c9b0
                                try clear c9b1
                                try clear c10
                                try clear c10b0
                                try clear c10b1
                                try clear c11
                                try clear c11b0
                                try clear c11b1
                                try clear c12
                                try clear c12b0
                                try clear c12b1
                                try clear c13
                                try clear c15
                                try clear c15b0
                                try clear c15b1
                                try clear c16
                                try clear c16b0
                                try clear c16b1
                                try clear c17
                                try clear c17b0
                                try clear c17b1
                                try clear c18
                                try clear c20
                                try clear c20b0
                                try clear c20b1
                                try clear c21
                                try clear c21b0
                                try clear c21b1
                                try clear c22
                                try clear c22b0
                                try clear c22b1
                                try clear c23
                                try clear c24
                                try clear c24b0
                                try clear c24b1
                                try clear c25
                                try clear c25b0
                                try clear c25b1
                                try clear c27
                                try clear c27b0
                                try clear c27b1
                                try clear c28
                                try clear c28b0
                                try clear c28b1
                                try clear p2
                                obtain ⟨kq, x32_25, rfl, HA, HJ25, ⟨mc25, rfl⟩⟩ := hcut
                                cases kq with
                                | zero => exact absurd HA.out (by simp [spec_place.j4])
                                | succ kj25 =>
                                  have H := HA.out
                                  clear HA
                                  simp only [spec_place.j4] at H
                                  by_cases c29 : x32_25 = true
                                  · subst c29
                                    have H1 : (some (16, 31, (-1))) = some (r1, r2, r3) := by rw [if_pos rfl] at H; exact H
                                    clear H
                                    have H := H1
                                    clear H1
                                    simp only [Option.some.injEq, Prod.mk.injEq] at H
                                    obtain ⟨rfl, rfl, rfl⟩ := H
                                    go_wp2
                                    go_ret3
                                    exact ⟨by first | rfl | (simp; done) | (simp [*]; done), by repeat (first | exact Drawn0.refl _ | apply Drawn0.step)⟩
                                  · replace c29 := Bool.eq_false_iff.mpr c29
                                    subst c29
                                    have H1 : (if a0 = 100 then (spec_place.j5 kj25 a0 (a0 == 100)) else (if a0 = 114 then (spec_place.j5 kj25 a0 (a0 == 114)) else (spec_place.j5 kj25 a0 (a0 == 76)))) = some (r1, r2, r3) := by rw [if_neg (show ¬ (false = true) by decide)] at H; exact H
                                    clear H
                                    have H := H1
                                    clear H1
                                    have HC30 := Aside0.mk H
                                    clear H
                                    go_upto_if 36 with (fail)
                                    go_cut [36] (fun v36 wc => ∃ (kq : Nat) (x36_29 : Bool), v36 = .bool x36_29 ∧ Aside0 (spec_place.j5 kq a0 x36_29 = some (r1, r2, r3)) ∧ Aside0 (kq ≤ kj25) ∧ Drawn0 w wc)
                                    case first =>
                                      have H := HC30.out
                                      clear HC30
                                      by_cases c31 : a0 = 100
                                      · rw [if_pos c31] at H
                                        have c31b0 : (a0 == 100) = true := beq_iff_eq.mpr c31
                                        have c31b1 : (a0 != 100) = false := bne_eq_false_iff_eq.mpr c31
                                        clear c31
                                        (first | rw [c31b0] | (simp only [i64_w, i32_w]; rw [c31b0]) | skip)
                                        have H' := Aside0.mk H
                                        clear H
                                        go_wp2
                                        go_meet
                                        case rel => exact ⟨_, ((a0 == 100)), (by first | rfl | (simp; done) | (simp [*]; done)), H', ⟨by have := HJ1.out; have := HJ6.out; have := HJ13.out; have := HJ18.out; have := HJ25.out; first | omega | exact Nat.le_refl _⟩, by repeat (first | exact Drawn0.refl _ | apply Drawn0.step)⟩
                                      · rw [if_neg c31] at H
                                        have c31b0 : (a0 == 100) = false := beq_eq_false_iff_ne.mpr c31
                                        have c31b1 : (a0 != 100) = true := bne_iff_ne.mpr c31
                                        (first | rw [c31b0] | (simp only [i64_w, i32_w]; rw [c31b0]) | skip)
                                        by_cases c32 : a0 = 114
                                        · rw [if_pos c32] at H
                                          have c32b0 : (a0 == 114) = true := beq_iff_eq.mpr c32
                                          have c32b1 : (a0 != 114) = false := bne_eq_false_iff_eq.mpr c32
                                          clear c32
                                          have H' := Aside0.mk H
                                          clear H
                                          go_wp2
                                          go_meet
                                          case rel => exact ⟨_, ((a0 == 114)), (by first | rfl | (simp; done) | (simp [*]; done)), H', ⟨by have := HJ1.out; have := HJ6.out; have := HJ13.out; have := HJ18.out; have := HJ25.out; first | omega | exact Nat.le_refl _⟩, by repeat (first | exact Drawn0.refl _ | apply Drawn0.step)⟩
                                        · rw [if_neg c32] at H
                                          have c32b0 : (a0 == 114) = false := beq_eq_false_iff_ne.mpr c32
                                          have c32b1 : (a0 != 114) = true := bne_iff_ne.mpr c32
                                          have H' := Aside0.mk H
                                          clear H
                                          go_wp2
                                          go_meet
                                          case rel => exact ⟨_, ((a0 == 76)), (by first | rfl | (simp; done) | (simp [*]; done)), H', ⟨by have := HJ1.out; have := HJ6.out; have := HJ13.out; have := HJ18.out; have := HJ25.out; first | omega | exact Nat.le_refl _⟩, by repeat (first | exact Drawn0.refl _ | apply Drawn0.step)⟩
                                    case rest =>
                                      clear HC30
                                      try clear c1
                                      try clear c2
                                      try clear p2
                                      try clear c3
                                      try clear c3b0
                                      try clear c3b1
                                      try clear c4
                                      try clear c4b0
                                      try clear c4b1
                                      try clear c5
                                      try clear c5b0
                                      try clear c5b1
                                      try clear c6
                                      try clear c8
                                      try clear c8b0
                                      try clear c8b1
                                      try clear c9
                                      try clear c9b0
                                      try clear c9b1
                                      try clear c10
                                      try clear c10b0
                                      try clear c10b1
                                      try clear c11
                                      try clear c11b0
                                      try clear c11b1
                                      try clear c12
                                      try clear c12b0
                                      try clear c12b1
                                      try clear c13
                                      try clear c15
                                      try clear c15b0
                                      try clear c15b1
                                      try clear c16
                                      try clear c16b0
                                      try clear c16b1
                                      try clear c17
                                      try clear c17b0
                                      try clear c17b1
                                      try clear c18
                                      try clear c20
                                      try clear c20b0
                                      try clear c20b1
                                      try clear c21
                                      try clear c21b0
                                      try clear c21b1
                                      try clear c22
                                      try clear c22b0
                                      try clear c22b1
                                      try clear c23
                                      try clear c24
                                      try clear c24b0
                                      try clear c24b1
                                      try clear c25
                                      try clear c25b0
                                      try clear c25b1
                                      try clear c27
                                      try clear c27b0
                                      try clear c27b1
                                      try clear c28
                                      try clear c28b0
                                      try clear c28b1
                                      try clear c29
                                      try clear c31
                                      try clear c31b0
                                      try clear c31b1
                                      try clear c32
                                      try clear c32b0
                                      try clear c32b1
                                      try clear p2
                                      obtain ⟨kq, x36_29, rfl, HA, HJ29, ⟨mc29, rfl⟩⟩ := hcut
                                      cases kq with
                                      | zero => exact absurd HA.out (by simp [spec_place.j5])
                                      | succ kj29 =>
                                        have H := HA.out
                                        clear HA
                                        simp only [spec_place.j5] at H
                                        by_cases c33 : x36_29 = true
                                        · subst c33
                                          have H1 : (some (16, 29, (-1))) = some (r1, r2, r3) := by rw [if_pos rfl] at H; exact H
                                          clear H
                                          have H := H1
                                          clear H1
                                          simp only [Option.some.injEq, Prod.mk.injEq] at H
                                          obtain ⟨rfl, rfl, rfl⟩ := H
                                          go_wp2
                                          go_ret3
                                          exact ⟨by first | rfl | (simp; done) | (simp [*]; done), by repeat (first | exact Drawn0.refl _ | apply Drawn0.step)⟩
                                        · replace c33 := Bool.eq_false_iff.mpr c33
                                          subst c33
                                          have H1 : (if a0 = 68 then (some (16, 27, (-1))) else (if a0 = 112 then (spec_place.j6 kj29 a0 (a0 == 112)) else (spec_place.j6 kj29 a0 (a0 == 108)))) = some (r1, r2, r3) := by rw [if_neg (show ¬ (false = true) by decide)] at H; exact H
                                          clear H
                                          have H := H1
                                          clear H1
                                          by_cases c34 : a0 = 68
                                          · rw [if_pos c34] at H
                                            have c34b0 : (a0 == 68) = true := beq_iff_eq.mpr c34
                                            have c34b1 : (a0 != 68) = false := bne_eq_false_iff_eq.mpr c34
                                            clear c34
                                            simp only [Option.some.injEq, Prod.mk.injEq] at H
                                            obtain ⟨rfl, rfl, rfl⟩ := H
                                            go_wp2
                                            go_ret3
                                            exact ⟨by first | rfl | (simp; done) | (simp [*]; done), by repeat (first | exact Drawn0.refl _ | apply Drawn0.step)⟩
                                          · rw [if_neg c34] at H
                                            have c34b0 : (a0 == 68) = false := beq_eq_false_iff_ne.mpr c34
                                            have c34b1 : (a0 != 68) = true := bne_iff_ne.mpr c34
                                            have HC35 := Aside0.mk H
                                            clear H
                                            go_upto_if 42 with (fail)
                                            go_cut [42] (fun v42 wc => ∃ (kq : Nat) (x42_34 : Bool), v42 = .bool x42_34 ∧ Aside0 (spec_place.j6 kq a0 x42_34 = some (r1, r2, r3)) ∧ Aside0 (kq ≤ kj29) ∧ Drawn0 w wc)
                                            case first =>
                                              have H := HC35.out
                                              clear HC35
                                              by_cases c36 : a0 = 112
                                              · rw [if_pos c36] at H
                                                have c36b0 : (a0 == 112) = true := beq_iff_eq.mpr c36
                                                have c36b1 : (a0 != 112) = false := bne_eq_false_iff_eq.mpr c36
                                                clear c36
                                                (first | rw [c36b0] | (simp only [i64_w, i32_w]; rw [c36b0]) | skip)
                                                have H' := Aside0.mk H
                                                clear H
                                                go_wp2
                                                go_meet
                                                case rel => exact ⟨_, ((a0 == 112)), (by first | rfl | (simp; done) | (simp [*]; done)), H', ⟨by have := HJ1.out; have := HJ6.out; have := HJ13.out; have := HJ18.out; have := HJ25.out; have := HJ29.out; first | omega | exact Nat.le_refl _⟩, by repeat (first | exact Drawn0.refl _ | apply Drawn0.step)⟩
                                              · rw [if_neg c36] at H
                                                have c36b0 : (a0 == 112) = false := beq_eq_false_iff_ne.mpr c36
                                                have c36b1 : (a0 != 112) = true := bne_iff_ne.mpr c36
                                                (first | rw [c36b0] | (simp only [i64_w, i32_w]; rw [c36b0]) | skip)
                                                have H' := Aside0.mk H
                                                clear H
                                                go_wp2
                                                go_meet
                                                case rel => exact ⟨_, ((a0 == 108)), (by first | rfl | (simp; done) | (simp [*]; done)), H', ⟨by have := HJ1.out; have := HJ6.out; have := HJ13.out; have := HJ18.out; have := HJ25.out; have := HJ29.out; first | omega | exact Nat.le_refl _⟩, by repeat (first | exact Drawn0.refl _ | apply Drawn0.step)⟩
                                            case rest =>
                                              clear HC35
                                              try clear c1
                                              try clear c2
                                              try clear p2
                                              try clear c3
                                              try clear c3b0
                                              try clear c3b1
                                              try clear c4
                                              try clear c4b0
                                              try clear c4b1
                                              try clear c5
                                              try clear c5b0
                                              try clear c5b1
                                              try clear c6
                                              try clear c8
                                              try clear c8b0
                                              try clear c8b1
                                              try clear c9
                                              try clear c9b0
                                              try clear c9b1
                                              try clear c10
                                              try clear c10b0
                                              try clear c10b1
                                              try clear c11
                                              try clear c11b0
                                              try clear c11b1
                                              try clear c12
                                              try clear c12b0
                                              try clear c12b1
                                              try clear c13
                                              try clear c15
                                              try clear c15b0
                                              try clear c15b1
                                              try clear c16
                                              try clear c16b0
                                              try clear c16b1
                                              try clear c17
                                              try clear c17b0
                                              try clear c17b1
                                              try clear c18
                                              try clear c20
                                              try clear c20b0
                                              try clear c20b1
                                              try clear c21
                                              try clear c21b0
                                              try clear c21b1
                                              try clear c22
                                              try clear c22b0
                                              try clear c22b1
                                              try clear c23
                                              try clear c24
                                              try clear c24b0
                                              try clear c24b1
                                              try clear c25
                                              try clear c25b0
                                              try clear c25b1
                                              try clear c27
                                              try clear c27b0
                                              try clear c27b1
                                              try clear c28
                                              try clear c28b0
                                              try clear c28b1
                                              try clear c29
                                              try clear c31
                                              try clear c31b0
                                              try clear c31b1
                                              try clear c32
                                              try clear c32b0
                                              try clear c32b1
                                              try clear c33
                                              try clear c34
                                              try clear c34b0
                                              try clear c34b1
                                              try clear c36
                                              try clear c36b0
                                              try clear c36b1
                                              try clear p2
                                              obtain ⟨kq, x42_34, rfl, HA, HJ34, ⟨mc34, rfl⟩⟩ := hcut
                                              cases kq with
                                              | zero => exact absurd HA.out (by simp [spec_place.j6])
                                              | succ kj34 =>
                                                have H := HA.out
                                                clear HA
                                                simp only [spec_place.j6] at H
                                                by_cases c37 : x42_34 = true
                                                · subst c37
                                                  have H1 : (some (6, 29, (-1))) = some (r1, r2, r3) := by rw [if_pos rfl] at H; exact H
                                                  clear H
                                                  have H := H1
                                                  clear H1
                                                  simp only [Option.some.injEq, Prod.mk.injEq] at H
                                                  obtain ⟨rfl, rfl, rfl⟩ := H
                                                  go_wp2
                                                  go_ret3
                                                  exact ⟨by first | rfl | (simp; done) | (simp [*]; done), by repeat (first | exact Drawn0.refl _ | apply Drawn0.step)⟩
                                                · replace c37 := Bool.eq_false_iff.mpr c37
                                                  subst c37
                                                  have H1 : (if a0 = 110 then (some (22, 23, (-1))) else (if a0 = 78 then (some (14, 15, (-1))) else (if a0 = 90 then (some (22, 25, (-1))) else (if a0 = 82 then (some (16, 16, (-1))) else (if a0 = 81 then (some (17, 20, (-1))) else (if a0 = 122 then (some (21, 22, (-1))) else (if a0 = 118 then (some (31, 31, (-1))) else (if a0 = 50 then (some (19, 20, (-1))) else (if a0 = 105 then (some (6, 10, 31)) else (if a0 = 73 then (some (6, 10, 28)) else (if a0 = 106 then (some (11, 15, 29)) else (if a0 = 107 then (spec_place.j7 kj34 a0 (a0 == 107)) else (spec_place.j7 kj34 a0 (a0 == 103)))))))))))))) = some (r1, r2, r3) := by rw [if_neg (show ¬ (false = true) by decide)] at H; exact H
                                                  clear H
                                                  have H := H1
                                                  clear H1
                                                  by_cases c38 : a0 = 110
                                                  · rw [if_pos c38] at H
                                                    have c38b0 : (a0 == 110) = true := beq_iff_eq.mpr c38
                                                    have c38b1 : (a0 != 110) = false := bne_eq_false_iff_eq.mpr c38
                                                    clear c38
                                                    simp only [Option.some.injEq, Prod.mk.injEq] at H
                                                    obtain ⟨rfl, rfl, rfl⟩ := H
                                                    go_wp2
                                                    go_ret3
                                                    exact ⟨by first | rfl | (simp; done) | (simp [*]; done), by repeat (first | exact Drawn0.refl _ | apply Drawn0.step)⟩
                                                  · rw [if_neg c38] at H
                                                    have c38b0 : (a0 == 110) = false := beq_eq_false_iff_ne.mpr c38
                                                    have c38b1 : (a0 != 110) = true := bne_iff_ne.mpr c38
                                                    by_cases c39 : a0 = 78
                                                    · rw [if_pos c39] at H
                                                      have c39b0 : (a0 == 78) = true := beq_iff_eq.mpr c39
                                                      have c39b1 : (a0 != 78) = false := bne_eq_false_iff_eq.mpr c39
                                                      clear c39
                                                      simp only [Option.some.injEq, Prod.mk.injEq] at H
                                                      obtain ⟨rfl, rfl, rfl⟩ := H
                                                      go_wp2
                                                      go_ret3
                                                      exact ⟨by first | rfl | (simp; done) | (simp [*]; done), by repeat (first | exact Drawn0.refl _ | apply Drawn0.step)⟩
                                                    · rw [if_neg c39] at H
                                                      have c39b0 : (a0 == 78) = false := beq_eq_false_iff_ne.mpr c39
                                                      have c39b1 : (a0 != 78) = true := bne_iff_ne.mpr c39
                                                      by_cases c40 : a0 = 90
                                                      · rw [if_pos c40] at H
                                                        have c40b0 : (a0 == 90) = true := beq_iff_eq.mpr c40
                                                        have c40b1 : (a0 != 90) = false := bne_eq_false_iff_eq.mpr c40
                                                        clear c40
                                                        simp only [Option.some.injEq, Prod.mk.injEq] at H
                                                        obtain ⟨rfl, rfl, rfl⟩ := H
                                                        go_wp2
                                                        go_ret3
                                                        exact ⟨by first | rfl | (simp; done) | (simp [*]; done), by repeat (first | exact Drawn0.refl _ | apply Drawn0.step)⟩
                                                      · rw [if_neg c40] at H
                                                        have c40b0 : (a0 == 90) = false := beq_eq_false_iff_ne.mpr c40
                                                        have c40b1 : (a0 != 90) = true := bne_iff_ne.mpr c40
                                                        by_cases c41 : a0 = 82
                                                        · rw [if_pos c41] at H
                                                          have c41b0 : (a0 == 82) = true := beq_iff_eq.mpr c41
                                                          have c41b1 : (a0 != 82) = false := bne_eq_false_iff_eq.mpr c41
                                                          clear c41
                                                          simp only [Option.some.injEq, Prod.mk.injEq] at H
                                                          obtain ⟨rfl, rfl, rfl⟩ := H
                                                          go_wp2
                                                          go_ret3
                                                          exact ⟨by first | rfl | (simp; done) | (simp [*]; done), by repeat (first | exact Drawn0.refl _ | apply Drawn0.step)⟩
                                                        · rw [if_neg c41] at H
                                                          have c41b0 : (a0 == 82) = false := beq_eq_false_iff_ne.mpr c41
                                                          have c41b1 : (a0 != 82) = true := bne_iff_ne.mpr c41
                                                          by_cases c42 : a0 = 81
                                                          · rw [if_pos c42] at H
                                                            have c42b0 : (a0 == 81) = true := beq_iff_eq.mpr c42
                                                            have c42b1 : (a0 != 81) = false := bne_eq_false_iff_eq.mpr c42
                                                            clear c42
                                                            simp only [Option.some.injEq, Prod.mk.injEq] at H
                                                            obtain ⟨rfl, rfl, rfl⟩ := H
                                                            go_wp2
                                                            go_ret3
                                                            exact ⟨by first | rfl | (simp; done) | (simp [*]; done), by repeat (first | exact Drawn0.refl _ | apply Drawn0.step)⟩
                                                          · rw [if_neg c42] at H
                                                            have c42b0 : (a0 == 81) = false := beq_eq_false_iff_ne.mpr c42
                                                            have c42b1 : (a0 != 81) = true := bne_iff_ne.mpr c42
                                                            by_cases c43 : a0 = 122
                                                            · rw [if_pos c43] at H
                                                              have c43b0 : (a0 == 122) = true := beq_iff_eq.mpr c43
                                                              have c43b1 : (a0 != 122) = false := bne_eq_false_iff_eq.mpr c43
                                                              clear c43
                                                              simp only [Option.some.injEq, Prod.mk.injEq] at H
                                                              obtain ⟨rfl, rfl, rfl⟩ := H
                                                              go_wp2
                                                              go_ret3
                                                              exact ⟨by first | rfl | (simp; done) | (simp [*]; done), by repeat (first | exact Drawn0.refl _ | apply Drawn0.step)⟩
                                                            · rw [if_neg c43] at H
                                                              have c43b0 : (a0 == 122) = false := beq_eq_false_iff_ne.mpr c43
                                                              have c43b1 : (a0 != 122) = true := bne_iff_ne.mpr c43
                                                              by_cases c44 : a0 = 118
                                                              · rw [if_pos c44] at H
                                                                have c44b0 : (a0 == 118) = true := beq_iff_eq.mpr c44
                                                                have c44b1 : (a0 != 118) = false := bne_eq_false_iff_eq.mpr c44
                                                                clear c44
                                                                simp only [Option.some.injEq, Prod.mk.injEq] at H
                                                                obtain ⟨rfl, rfl, rfl⟩ := H
                                                                go_wp2
                                                                go_ret3
                                                                exact ⟨by first | rfl | (simp; done) | (simp [*]; done), by repeat (first | exact Drawn0.refl _ | apply Drawn0.step)⟩
                                                              · rw [if_neg c44] at H
                                                                have c44b0 : (a0 == 118) = false := beq_eq_false_iff_ne.mpr c44
                                                                have c44b1 : (a0 != 118) = true := bne_iff_ne.mpr c44
                                                                by_cases c45 : a0 = 50
                                                                · rw [if_pos c45] at H
                                                                  have c45b0 : (a0 == 50) = true := beq_iff_eq.mpr c45
                                                                  have c45b1 : (a0 != 50) = false := bne_eq_false_iff_eq.mpr c45
                                                                  clear c45
                                                                  simp only [Option.some.injEq, Prod.mk.injEq] at H
                                                                  obtain ⟨rfl, rfl, rfl⟩ := H
                                                                  go_wp2
                                                                  go_ret3
                                                                  exact ⟨by first | rfl | (simp; done) | (simp [*]; done), by repeat (first | exact Drawn0.refl _ | apply Drawn0.step)⟩
                                                                · rw [if_neg c45] at H
                                                                  have c45b0 : (a0 == 50) = false := beq_eq_false_iff_ne.mpr c45
                                                                  have c45b1 : (a0 != 50) = true := bne_iff_ne.mpr c45
                                                                  by_cases c46 : a0 = 105
                                                                  · rw [if_pos c46] at H
                                                                    have c46b0 : (a0 == 105) = true := beq_iff_eq.mpr c46
                                                                    have c46b1 : (a0 != 105) = false := bne_eq_false_iff_eq.mpr c46
                                                                    clear c46
                                                                    simp only [Option.some.injEq, Prod.mk.injEq] at H
                                                                    obtain ⟨rfl, rfl, rfl⟩ := H
                                                                    go_wp2
                                                                    go_ret3
                                                                    exact ⟨by first | rfl | (simp; done) | (simp [*]; done), by repeat (first | exact Drawn0.refl _ | apply Drawn0.step)⟩
                                                                  · rw [if_neg c46] at H
                                                                    have c46b0 : (a0 == 105) = false := beq_eq_false_iff_ne.mpr c46
                                                                    have c46b1 : (a0 != 105) = true := bne_iff_ne.mpr c46
                                                                    by_cases c47 : a0 = 73
                                                                    · rw [if_pos c47] at H
                                                                      have c47b0 : (a0 == 73) = true := beq_iff_eq.mpr c47
                                                                      have c47b1 : (a0 != 73) = false := bne_eq_false_iff_eq.mpr c47
                                                                      clear c47
                                                                      simp only [Option.some.injEq, Prod.mk.injEq] at H
                                                                      obtain ⟨rfl, rfl, rfl⟩ := H
                                                                      go_wp2
                                                                      go_ret3
                                                                      exact ⟨by first | rfl | (simp; done) | (simp [*]; done), by repeat (first | exact Drawn0.refl _ | apply Drawn0.step)⟩
                                                                    · rw [if_neg c47] at H
                                                                      have c47b0 : (a0 == 73) = false := beq_eq_false_iff_ne.mpr c47
                                                                      have c47b1 : (a0 != 73) = true := bne_iff_ne.mpr c47
                                                                      by_cases c48 : a0 = 106
                                                                      · rw [if_pos c48] at H
                                                                        have c48b0 : (a0 == 106) = true := beq_iff_eq.mpr c48
                                                                        have c48b1 : (a0 != 106) = false := bne_eq_false_iff_eq.mpr c48
                                                                        clear c48
                                                                        simp only [Option.some.injEq, Prod.mk.injEq] at H
                                                                        obtain ⟨rfl, rfl, rfl⟩ := H
                                                                        go_wp2
                                                                        go_ret3
                                                                        exact ⟨by first | rfl | (simp; done) | (simp [*]; done), by repeat (first | exact Drawn0.refl _ | apply Drawn0.step)⟩
                                                                      · rw [if_neg c48] at H
                                                                        have c48b0 : (a0 == 106) = false := beq_eq_false_iff_ne.mpr c48
                                                                        have c48b1 : (a0 != 106) = true := bne_iff_ne.mpr c48
                                                                        have HC49 := Aside0.mk H
                                                                        clear H
                                                                        go_upto_if 67 with (fail)
                                                                        go_cut [67] (fun v67 wc => ∃ (kq : Nat) (x67_48 : Bool), v67 = .bool x67_48 ∧ Aside0 (spec_place.j7 kq a0 x67_48 = some (r1, r2, r3)) ∧ Aside0 (kq ≤ kj34) ∧ Drawn0 w wc)
                                                                        case first =>
                                                                          have H := HC49.out
                                                                          clear HC49
                                                                          by_cases c50 : a0 = 107
                                                                          · rw [if_pos c50] at H
                                                                            have c50b0 : (a0 == 107) = true := beq_iff_eq.mpr c50
                                                                            have c50b1 : (a0 != 107) = false := bne_eq_false_iff_eq.mpr c50
                                                                            clear c50
                                                                            (first | rw [c50b0] | (simp only [i64_w, i32_w]; rw [c50b0]) | skip)
                                                                            have H' := Aside0.mk H
                                                                            clear H
                                                                            go_wp2
                                                                            go_meet
                                                                            case rel => exact ⟨_, ((a0 == 107)), (by first | rfl | (simp; done) | (simp [*]; done)), H', ⟨by have := HJ1.out; have := HJ6.out; have := HJ13.out; have := HJ18.out; have := HJ25.out; have := HJ29.out; have := HJ34.out; first | omega | exact Nat.le_refl _⟩, by repeat (first | exact Drawn0.refl _ | apply Drawn0.step)⟩
                                                                          · rw [if_neg c50] at H
                                                                            have c50b0 : (a0 == 107) = false := beq_eq_false_iff_ne.mpr c50
                                                                            have c50b1 : (a0 != 107) = true := bne_iff_ne.mpr c50
                                                                            (first | rw [c50b0] | (simp only [i64_w, i32_w]; rw [c50b0]) | skip)
                                                                            have H' := Aside0.mk H
                                                                            clear H
                                                                            go_wp2
                                                                            go_meet
                                                                            case rel => exact ⟨_, ((a0 == 103)), (by first | rfl | (simp; done) | (simp [*]; done)), H', ⟨by have := HJ1.out; have := HJ6.out; have := HJ13.out; have := HJ18.out; have := HJ25.out; have := HJ29.out; have := HJ34.out; first | omega | exact Nat.le_refl _⟩, by repeat (first | exact Drawn0.refl _ | apply Drawn0.step)⟩
                                                                        case rest =>
                                                                          clear HC49
                                                                          try clear c1
                                                                          try clear c2
                                                                          try clear p2
                                                                          try clear c3
                                                                          try clear c3b0
                                                                          try clear c3b1
                                                                          try clear c4
                                                                          try clear c4b0
                                                                          try clear c4b1
                                                                          try clear c5
                                                                          try clear c5b0
                                                                          try clear c5b1
                                                                          try clear c6
                                                                          try clear c8
                                                                          try clear c8b0
                                                                          try clear c8b1
                                                                          try clear c9
                                                                          try clear c9b0
                                                                          try clear c9b1
                                                                          try clear c10
                                                                          try clear c10b0
                                                                          try clear c10b1
                                                                          try clear c11
                                                                          try clear c11b0
                                                                          try clear c11b1
                                                                          try clear c12
                                                                          try clear c12b0
                                                                          try clear c12b1
                                                                          try clear c13
                                                                          try clear c15
                                                                          try clear c15b0
                                                                          try clear c15b1
                                                                          try clear c16
                                                                          try clear c16b0
                                                                          try clear c16b1
                                                                          try clear c17
                                                                          try clear c17b0
                                                                          try clear c17b1
                                                                          try clear c18
                                                                          try clear c20
                                                                          try clear c20b0
                                                                          try clear c20b1
                                                                          try clear c21
                                                                          try clear c21b0
                                                                          try clear c21b1
                                                                          try clear c22
                                                                          try clear c22b0
                                                                          try clear c22b1
                                                                          try clear c23
                                                                          try clear c24
                                                                          try clear c24b0
                                                                          try clear c24b1
                                                                          try clear c25
                                                                          try clear c25b0
                                                                          try clear c25b1
                                                                          try clear c27
                                                                          try clear c27b0
                                                                          try clear c27b1
                                                                          try clear c28
                                                                          try clear c28b0
                                                                          try clear c28b1
                                                                          try clear c29
                                                                          try clear c31
                                                                          try clear c31b0
                                                                          try clear c31b1
                                                                          try clear c32
                                                                          try clear c32b0
                                                                          try clear c32b1
                                                                          try clear c33
                                                                          try clear c34
                                                                          try clear c34b0
                                                                          try clear c34b1
                                                                          try clear c36
                                                                          try clear c36b0
                                                                          try clear c36b1
                                                                          try clear c37
                                                                          try clear c38
                                                                          try clear c38b0
                                                                          try clear c38b1
                                                                          try clear c39
                                                                          try clear c39b0
                                                                          try clear c39b1
                                                                          try clear c40
                                                                          try clear c40b0
                                                                          try clear c40b1
                                                                          try clear c41
                                                                          try clear c41b0
                                                                          try clear c41b1
                                                                          try clear c42
                                                                          try clear c42b0
                                                                          try clear c42b1
                                                                          try clear c43
                                                                          try clear c43b0
                                                                          try clear c43b1
                                                                          try clear c44
                                                                          try clear c44b0
                                                                          try clear c44b1
                                                                          try clear c45
                                                                          try clear c45b0
                                                                          try clear c45b1
                                                                          try clear c46
                                                                          try clear c46b0
                                                                          try clear c46b1
                                                                          try clear c47
                                                                          try clear c47b0
                                                                          try clear c47b1
                                                                          try clear c48
                                                                          try clear c48b0
                                                                          try clear c48b1
                                                                          try clear c50
                                                                          try clear c50b0
                                                                          try clear c50b1
                                                                          try clear p2
                                                                          obtain ⟨kq, x67_48, rfl, HA, HJ48, ⟨mc48, rfl⟩⟩ := hcut
                                                                          cases kq with
                                                                          | zero => exact absurd HA.out (by simp [spec_place.j7])
                                                                          | succ kj48 =>
                                                                            have H := HA.out
                                                                            clear HA
                                                                            simp only [spec_place.j7] at H
                                                                            by_cases c51 : x67_48 = true
                                                                            · subst c51
                                                                              have H1 : (some (16, 20, 30)) = some (r1, r2, r3) := by rw [if_pos rfl] at H; exact H
                                                                              clear H
                                                                              have H := H1
                                                                              clear H1
                                                                              simp only [Option.some.injEq, Prod.mk.injEq] at H
                                                                              obtain ⟨rfl, rfl, rfl⟩ := H
                                                                              go_wp2
                                                                              go_ret3
                                                                              exact ⟨by first | rfl | (simp; done) | (simp [*]; done), by repeat (first | exact Drawn0.refl _ | apply Drawn0.step)⟩
                                                                            · replace c51 := Bool.eq_false_iff.mpr c51
                                                                              subst c51
                                                                              have H1 : (if a0 = 113 then (some (21, 25, 28)) else (some (21, 25, 26))) = some (r1, r2, r3) := by rw [if_neg (show ¬ (false = true) by decide)] at H; exact H
                                                                              clear H
                                                                              have H := H1
                                                                              clear H1
                                                                              by_cases c52 : a0 = 113
                                                                              · rw [if_pos c52] at H
                                                                                have c52b0 : (a0 == 113) = true := beq_iff_eq.mpr c52
                                                                                have c52b1 : (a0 != 113) = false := bne_eq_false_iff_eq.mpr c52
                                                                                clear c52
                                                                                simp only [Option.some.injEq, Prod.mk.injEq] at H
                                                                                obtain ⟨rfl, rfl, rfl⟩ := H
                                                                                go_wp2
                                                                                go_ret3
                                                                                exact ⟨by first | rfl | (simp; done) | (simp [*]; done), by repeat (first | exact Drawn0.refl _ | apply Drawn0.step)⟩
                                                                              · rw [if_neg c52] at H
                                                                                have c52b0 : (a0 == 113) = false := beq_eq_false_iff_ne.mpr c52
                                                                                have c52b1 : (a0 != 113) = true := bne_iff_ne.mpr c52
                                                                                simp only [Option.some.injEq, Prod.mk.injEq] at H
                                                                                obtain ⟨rfl, rfl, rfl⟩ := H
                                                                                go_wp2
                                                                                go_ret3
                                                                                exact ⟨by first | rfl | (simp; done) | (simp [*]; done), by repeat (first | exact Drawn0.refl _ | apply Drawn0.step)⟩

end Go.Proofs.Ytnfkdmoblncclaa.X
