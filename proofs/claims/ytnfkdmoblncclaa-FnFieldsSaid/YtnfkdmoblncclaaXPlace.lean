/- The places of the letters that occur. -/
import Derived.Test.YtnfkdmoblncclaaXPre
namespace Go.Proofs.Ytnfkdmoblncclaa.X
open Go.RowKit Go.Proofs.YtnfkdmoblncclaaW.PrintWords Go.Proofs.YtnfkdmoblncclaaW.PrintLast Go.Proofs.YtnfkdmoblncclaaW.PrintMore
attribute [local go_sem] max2_int min2_int max_two min_two max_three min_three max_four min_four   -- for this text's walks alone
set_option linter.unusedVariables false
set_option linter.unusedSimpArgs false

theorem place_calls_A (w : World) : Calls Try.prog 23 #[.int .u8 65] w fun e w' => e = .returned (.tuple #[.int .i64 11, .int .i64 15, .int .i64 (-1)]) ∧ Drawn0 w w' := by
  go_enter Try.func23, Try.ntmps23
  go_wp2
  go_ret3
  exact ⟨by first | rfl | (simp; done) | (simp [*]; done), by repeat (first | exact Drawn0.refl _ | apply Drawn0.step)⟩

theorem place_calls_B (w : World) : Calls Try.prog 23 #[.int .u8 66] w fun e w' => e = .returned (.tuple #[.int .i64 16, .int .i64 20, .int .i64 (-1)]) ∧ Drawn0 w w' := by
  go_enter Try.func23, Try.ntmps23
  go_wp2
  go_ret3
  exact ⟨by first | rfl | (simp; done) | (simp [*]; done), by repeat (first | exact Drawn0.refl _ | apply Drawn0.step)⟩

theorem place_calls_D (w : World) : Calls Try.prog 23 #[.int .u8 68] w fun e w' => e = .returned (.tuple #[.int .i64 16, .int .i64 27, .int .i64 (-1)]) ∧ Drawn0 w w' := by
  go_enter Try.func23, Try.ntmps23
  go_wp2
  go_ret3
  exact ⟨by first | rfl | (simp; done) | (simp [*]; done), by repeat (first | exact Drawn0.refl _ | apply Drawn0.step)⟩

theorem place_calls_I (w : World) : Calls Try.prog 23 #[.int .u8 73] w fun e w' => e = .returned (.tuple #[.int .i64 6, .int .i64 10, .int .i64 28]) ∧ Drawn0 w w' := by
  go_enter Try.func23, Try.ntmps23
  go_wp2
  go_ret3
  exact ⟨by first | rfl | (simp; done) | (simp [*]; done), by repeat (first | exact Drawn0.refl _ | apply Drawn0.step)⟩

theorem place_calls_M (w : World) : Calls Try.prog 23 #[.int .u8 77] w fun e w' => e = .returned (.tuple #[.int .i64 21, .int .i64 25, .int .i64 26]) ∧ Drawn0 w w' := by
  go_enter Try.func23, Try.ntmps23
  go_wp2
  go_ret3
  exact ⟨by first | rfl | (simp; done) | (simp [*]; done), by repeat (first | exact Drawn0.refl _ | apply Drawn0.step)⟩

theorem place_calls_N (w : World) : Calls Try.prog 23 #[.int .u8 78] w fun e w' => e = .returned (.tuple #[.int .i64 14, .int .i64 15, .int .i64 (-1)]) ∧ Drawn0 w w' := by
  go_enter Try.func23, Try.ntmps23
  go_wp2
  go_ret3
  exact ⟨by first | rfl | (simp; done) | (simp [*]; done), by repeat (first | exact Drawn0.refl _ | apply Drawn0.step)⟩

theorem place_calls_O (w : World) : Calls Try.prog 23 #[.int .u8 79] w fun e w' => e = .returned (.tuple #[.int .i64 6, .int .i64 10, .int .i64 (-1)]) ∧ Drawn0 w w' := by
  go_enter Try.func23, Try.ntmps23
  go_wp2
  go_ret3
  exact ⟨by first | rfl | (simp; done) | (simp [*]; done), by repeat (first | exact Drawn0.refl _ | apply Drawn0.step)⟩

theorem place_calls_Q (w : World) : Calls Try.prog 23 #[.int .u8 81] w fun e w' => e = .returned (.tuple #[.int .i64 17, .int .i64 20, .int .i64 (-1)]) ∧ Drawn0 w w' := by
  go_enter Try.func23, Try.ntmps23
  go_wp2
  go_ret3
  exact ⟨by first | rfl | (simp; done) | (simp [*]; done), by repeat (first | exact Drawn0.refl _ | apply Drawn0.step)⟩

theorem place_calls_R (w : World) : Calls Try.prog 23 #[.int .u8 82] w fun e w' => e = .returned (.tuple #[.int .i64 16, .int .i64 16, .int .i64 (-1)]) ∧ Drawn0 w w' := by
  go_enter Try.func23, Try.ntmps23
  go_wp2
  go_ret3
  exact ⟨by first | rfl | (simp; done) | (simp [*]; done), by repeat (first | exact Drawn0.refl _ | apply Drawn0.step)⟩

theorem place_calls_T (w : World) : Calls Try.prog 23 #[.int .u8 84] w fun e w' => e = .returned (.tuple #[.int .i64 6, .int .i64 10, .int .i64 (-1)]) ∧ Drawn0 w w' := by
  go_enter Try.func23, Try.ntmps23
  go_wp2
  go_ret3
  exact ⟨by first | rfl | (simp; done) | (simp [*]; done), by repeat (first | exact Drawn0.refl _ | apply Drawn0.step)⟩

theorem place_calls_U (w : World) : Calls Try.prog 23 #[.int .u8 85] w fun e w' => e = .returned (.tuple #[.int .i64 11, .int .i64 15, .int .i64 (-1)]) ∧ Drawn0 w w' := by
  go_enter Try.func23, Try.ntmps23
  go_wp2
  go_ret3
  exact ⟨by first | rfl | (simp; done) | (simp [*]; done), by repeat (first | exact Drawn0.refl _ | apply Drawn0.step)⟩

theorem place_calls_Y (w : World) : Calls Try.prog 23 #[.int .u8 89] w fun e w' => e = .returned (.tuple #[.int .i64 21, .int .i64 25, .int .i64 (-1)]) ∧ Drawn0 w w' := by
  go_enter Try.func23, Try.ntmps23
  go_wp2
  go_ret3
  exact ⟨by first | rfl | (simp; done) | (simp [*]; done), by repeat (first | exact Drawn0.refl _ | apply Drawn0.step)⟩

theorem place_calls_Z (w : World) : Calls Try.prog 23 #[.int .u8 90] w fun e w' => e = .returned (.tuple #[.int .i64 22, .int .i64 25, .int .i64 (-1)]) ∧ Drawn0 w w' := by
  go_enter Try.func23, Try.ntmps23
  go_wp2
  go_ret3
  exact ⟨by first | rfl | (simp; done) | (simp [*]; done), by repeat (first | exact Drawn0.refl _ | apply Drawn0.step)⟩

theorem place_calls_a (w : World) : Calls Try.prog 23 #[.int .u8 97] w fun e w' => e = .returned (.tuple #[.int .i64 11, .int .i64 15, .int .i64 (-1)]) ∧ Drawn0 w w' := by
  go_enter Try.func23, Try.ntmps23
  go_wp2
  go_ret3
  exact ⟨by first | rfl | (simp; done) | (simp [*]; done), by repeat (first | exact Drawn0.refl _ | apply Drawn0.step)⟩

theorem place_calls_b (w : World) : Calls Try.prog 23 #[.int .u8 98] w fun e w' => e = .returned (.tuple #[.int .i64 21, .int .i64 25, .int .i64 (-1)]) ∧ Drawn0 w w' := by
  go_enter Try.func23, Try.ntmps23
  go_wp2
  go_ret3
  exact ⟨by first | rfl | (simp; done) | (simp [*]; done), by repeat (first | exact Drawn0.refl _ | apply Drawn0.step)⟩

theorem place_calls_e (w : World) : Calls Try.prog 23 #[.int .u8 101] w fun e w' => e = .returned (.tuple #[.int .i64 26, .int .i64 30, .int .i64 (-1)]) ∧ Drawn0 w w' := by
  go_enter Try.func23, Try.ntmps23
  go_wp2
  go_ret3
  exact ⟨by first | rfl | (simp; done) | (simp [*]; done), by repeat (first | exact Drawn0.refl _ | apply Drawn0.step)⟩

theorem place_calls_g (w : World) : Calls Try.prog 23 #[.int .u8 103] w fun e w' => e = .returned (.tuple #[.int .i64 16, .int .i64 20, .int .i64 30]) ∧ Drawn0 w w' := by
  go_enter Try.func23, Try.ntmps23
  go_wp2
  go_ret3
  exact ⟨by first | rfl | (simp; done) | (simp [*]; done), by repeat (first | exact Drawn0.refl _ | apply Drawn0.step)⟩

theorem place_calls_h (w : World) : Calls Try.prog 23 #[.int .u8 104] w fun e w' => e = .returned (.tuple #[.int .i64 16, .int .i64 20, .int .i64 (-1)]) ∧ Drawn0 w w' := by
  go_enter Try.func23, Try.ntmps23
  go_wp2
  go_ret3
  exact ⟨by first | rfl | (simp; done) | (simp [*]; done), by repeat (first | exact Drawn0.refl _ | apply Drawn0.step)⟩

theorem place_calls_i (w : World) : Calls Try.prog 23 #[.int .u8 105] w fun e w' => e = .returned (.tuple #[.int .i64 6, .int .i64 10, .int .i64 31]) ∧ Drawn0 w w' := by
  go_enter Try.func23, Try.ntmps23
  go_wp2
  go_ret3
  exact ⟨by first | rfl | (simp; done) | (simp [*]; done), by repeat (first | exact Drawn0.refl _ | apply Drawn0.step)⟩

theorem place_calls_j (w : World) : Calls Try.prog 23 #[.int .u8 106] w fun e w' => e = .returned (.tuple #[.int .i64 11, .int .i64 15, .int .i64 29]) ∧ Drawn0 w w' := by
  go_enter Try.func23, Try.ntmps23
  go_wp2
  go_ret3
  exact ⟨by first | rfl | (simp; done) | (simp [*]; done), by repeat (first | exact Drawn0.refl _ | apply Drawn0.step)⟩

theorem place_calls_k (w : World) : Calls Try.prog 23 #[.int .u8 107] w fun e w' => e = .returned (.tuple #[.int .i64 16, .int .i64 20, .int .i64 30]) ∧ Drawn0 w w' := by
  go_enter Try.func23, Try.ntmps23
  go_wp2
  go_ret3
  exact ⟨by first | rfl | (simp; done) | (simp [*]; done), by repeat (first | exact Drawn0.refl _ | apply Drawn0.step)⟩

theorem place_calls_m (w : World) : Calls Try.prog 23 #[.int .u8 109] w fun e w' => e = .returned (.tuple #[.int .i64 21, .int .i64 25, .int .i64 (-1)]) ∧ Drawn0 w w' := by
  go_enter Try.func23, Try.ntmps23
  go_wp2
  go_ret3
  exact ⟨by first | rfl | (simp; done) | (simp [*]; done), by repeat (first | exact Drawn0.refl _ | apply Drawn0.step)⟩

theorem place_calls_n (w : World) : Calls Try.prog 23 #[.int .u8 110] w fun e w' => e = .returned (.tuple #[.int .i64 22, .int .i64 23, .int .i64 (-1)]) ∧ Drawn0 w w' := by
  go_enter Try.func23, Try.ntmps23
  go_wp2
  go_ret3
  exact ⟨by first | rfl | (simp; done) | (simp [*]; done), by repeat (first | exact Drawn0.refl _ | apply Drawn0.step)⟩

theorem place_calls_q (w : World) : Calls Try.prog 23 #[.int .u8 113] w fun e w' => e = .returned (.tuple #[.int .i64 21, .int .i64 25, .int .i64 28]) ∧ Drawn0 w w' := by
  go_enter Try.func23, Try.ntmps23
  go_wp2
  go_ret3
  exact ⟨by first | rfl | (simp; done) | (simp [*]; done), by repeat (first | exact Drawn0.refl _ | apply Drawn0.step)⟩

theorem place_calls_u (w : World) : Calls Try.prog 23 #[.int .u8 117] w fun e w' => e = .returned (.tuple #[.int .i64 16, .int .i64 31, .int .i64 (-1)]) ∧ Drawn0 w w' := by
  go_enter Try.func23, Try.ntmps23
  go_wp2
  go_ret3
  exact ⟨by first | rfl | (simp; done) | (simp [*]; done), by repeat (first | exact Drawn0.refl _ | apply Drawn0.step)⟩

theorem place_calls_v (w : World) : Calls Try.prog 23 #[.int .u8 118] w fun e w' => e = .returned (.tuple #[.int .i64 31, .int .i64 31, .int .i64 (-1)]) ∧ Drawn0 w w' := by
  go_enter Try.func23, Try.ntmps23
  go_wp2
  go_ret3
  exact ⟨by first | rfl | (simp; done) | (simp [*]; done), by repeat (first | exact Drawn0.refl _ | apply Drawn0.step)⟩

theorem place_calls_z (w : World) : Calls Try.prog 23 #[.int .u8 122] w fun e w' => e = .returned (.tuple #[.int .i64 21, .int .i64 22, .int .i64 (-1)]) ∧ Drawn0 w w' := by
  go_enter Try.func23, Try.ntmps23
  go_wp2
  go_ret3
  exact ⟨by first | rfl | (simp; done) | (simp [*]; done), by repeat (first | exact Drawn0.refl _ | apply Drawn0.step)⟩

def spec_place.f (_k : Nat) (a0 : Int) : Option (Int × Int × Int) := if a0 = 65 then some (11, 15, (-1)) else (if a0 = 66 then some (16, 20, (-1)) else (if a0 = 68 then some (16, 27, (-1)) else (if a0 = 73 then some (6, 10, 28) else (if a0 = 77 then some (21, 25, 26) else (if a0 = 78 then some (14, 15, (-1)) else (if a0 = 79 then some (6, 10, (-1)) else (if a0 = 81 then some (17, 20, (-1)) else (if a0 = 82 then some (16, 16, (-1)) else (if a0 = 84 then some (6, 10, (-1)) else (if a0 = 85 then some (11, 15, (-1)) else (if a0 = 89 then some (21, 25, (-1)) else (if a0 = 90 then some (22, 25, (-1)) else (if a0 = 97 then some (11, 15, (-1)) else (if a0 = 98 then some (21, 25, (-1)) else (if a0 = 101 then some (26, 30, (-1)) else (if a0 = 103 then some (16, 20, 30) else (if a0 = 104 then some (16, 20, (-1)) else (if a0 = 105 then some (6, 10, 31) else (if a0 = 106 then some (11, 15, 29) else (if a0 = 107 then some (16, 20, 30) else (if a0 = 109 then some (21, 25, (-1)) else (if a0 = 110 then some (22, 23, (-1)) else (if a0 = 113 then some (21, 25, 28) else (if a0 = 117 then some (16, 31, (-1)) else (if a0 = 118 then some (31, 31, (-1)) else (if a0 = 122 then some (21, 22, (-1)) else (none)))))))))))))))))))))))))))
theorem spec_place.mono : ∀ a0 k, LeO (spec_place.f k a0) (spec_place.f (k + 1) a0) := fun _ _ => LeO.refl _
theorem spec_place.calls (k : Nat) (a0 : Int) (r1 : Int) (r2 : Int) (r3 : Int) (w : World) (h : spec_place.f k a0 = some (r1, r2, r3)) :
    Calls Try.prog 23 #[.int .u8 a0] w fun e w' => e = .returned (.tuple #[.int .i64 r1, .int .i64 r2, .int .i64 r3]) ∧ Drawn0 w w' := by
  unfold spec_place.f at h
  by_cases e : a0 = 65
  · rw [if_pos e] at h; simp only [Option.some.injEq, Prod.mk.injEq] at h; obtain ⟨rfl, rfl, rfl⟩ := h; subst e; exact place_calls_A w
  rw [if_neg e] at h; clear e
  by_cases e : a0 = 66
  · rw [if_pos e] at h; simp only [Option.some.injEq, Prod.mk.injEq] at h; obtain ⟨rfl, rfl, rfl⟩ := h; subst e; exact place_calls_B w
  rw [if_neg e] at h; clear e
  by_cases e : a0 = 68
  · rw [if_pos e] at h; simp only [Option.some.injEq, Prod.mk.injEq] at h; obtain ⟨rfl, rfl, rfl⟩ := h; subst e; exact place_calls_D w
  rw [if_neg e] at h; clear e
  by_cases e : a0 = 73
  · rw [if_pos e] at h; simp only [Option.some.injEq, Prod.mk.injEq] at h; obtain ⟨rfl, rfl, rfl⟩ := h; subst e; exact place_calls_I w
  rw [if_neg e] at h; clear e
  by_cases e : a0 = 77
  · rw [if_pos e] at h; simp only [Option.some.injEq, Prod.mk.injEq] at h; obtain ⟨rfl, rfl, rfl⟩ := h; subst e; exact place_calls_M w
  rw [if_neg e] at h; clear e
  by_cases e : a0 = 78
  · rw [if_pos e] at h; simp only [Option.some.injEq, Prod.mk.injEq] at h; obtain ⟨rfl, rfl, rfl⟩ := h; subst e; exact place_calls_N w
  rw [if_neg e] at h; clear e
  by_cases e : a0 = 79
  · rw [if_pos e] at h; simp only [Option.some.injEq, Prod.mk.injEq] at h; obtain ⟨rfl, rfl, rfl⟩ := h; subst e; exact place_calls_O w
  rw [if_neg e] at h; clear e
  by_cases e : a0 = 81
  · rw [if_pos e] at h; simp only [Option.some.injEq, Prod.mk.injEq] at h; obtain ⟨rfl, rfl, rfl⟩ := h; subst e; exact place_calls_Q w
  rw [if_neg e] at h; clear e
  by_cases e : a0 = 82
  · rw [if_pos e] at h; simp only [Option.some.injEq, Prod.mk.injEq] at h; obtain ⟨rfl, rfl, rfl⟩ := h; subst e; exact place_calls_R w
  rw [if_neg e] at h; clear e
  by_cases e : a0 = 84
  · rw [if_pos e] at h; simp only [Option.some.injEq, Prod.mk.injEq] at h; obtain ⟨rfl, rfl, rfl⟩ := h; subst e; exact place_calls_T w
  rw [if_neg e] at h; clear e
  by_cases e : a0 = 85
  · rw [if_pos e] at h; simp only [Option.some.injEq, Prod.mk.injEq] at h; obtain ⟨rfl, rfl, rfl⟩ := h; subst e; exact place_calls_U w
  rw [if_neg e] at h; clear e
  by_cases e : a0 = 89
  · rw [if_pos e] at h; simp only [Option.some.injEq, Prod.mk.injEq] at h; obtain ⟨rfl, rfl, rfl⟩ := h; subst e; exact place_calls_Y w
  rw [if_neg e] at h; clear e
  by_cases e : a0 = 90
  · rw [if_pos e] at h; simp only [Option.some.injEq, Prod.mk.injEq] at h; obtain ⟨rfl, rfl, rfl⟩ := h; subst e; exact place_calls_Z w
  rw [if_neg e] at h; clear e
  by_cases e : a0 = 97
  · rw [if_pos e] at h; simp only [Option.some.injEq, Prod.mk.injEq] at h; obtain ⟨rfl, rfl, rfl⟩ := h; subst e; exact place_calls_a w
  rw [if_neg e] at h; clear e
  by_cases e : a0 = 98
  · rw [if_pos e] at h; simp only [Option.some.injEq, Prod.mk.injEq] at h; obtain ⟨rfl, rfl, rfl⟩ := h; subst e; exact place_calls_b w
  rw [if_neg e] at h; clear e
  by_cases e : a0 = 101
  · rw [if_pos e] at h; simp only [Option.some.injEq, Prod.mk.injEq] at h; obtain ⟨rfl, rfl, rfl⟩ := h; subst e; exact place_calls_e w
  rw [if_neg e] at h; clear e
  by_cases e : a0 = 103
  · rw [if_pos e] at h; simp only [Option.some.injEq, Prod.mk.injEq] at h; obtain ⟨rfl, rfl, rfl⟩ := h; subst e; exact place_calls_g w
  rw [if_neg e] at h; clear e
  by_cases e : a0 = 104
  · rw [if_pos e] at h; simp only [Option.some.injEq, Prod.mk.injEq] at h; obtain ⟨rfl, rfl, rfl⟩ := h; subst e; exact place_calls_h w
  rw [if_neg e] at h; clear e
  by_cases e : a0 = 105
  · rw [if_pos e] at h; simp only [Option.some.injEq, Prod.mk.injEq] at h; obtain ⟨rfl, rfl, rfl⟩ := h; subst e; exact place_calls_i w
  rw [if_neg e] at h; clear e
  by_cases e : a0 = 106
  · rw [if_pos e] at h; simp only [Option.some.injEq, Prod.mk.injEq] at h; obtain ⟨rfl, rfl, rfl⟩ := h; subst e; exact place_calls_j w
  rw [if_neg e] at h; clear e
  by_cases e : a0 = 107
  · rw [if_pos e] at h; simp only [Option.some.injEq, Prod.mk.injEq] at h; obtain ⟨rfl, rfl, rfl⟩ := h; subst e; exact place_calls_k w
  rw [if_neg e] at h; clear e
  by_cases e : a0 = 109
  · rw [if_pos e] at h; simp only [Option.some.injEq, Prod.mk.injEq] at h; obtain ⟨rfl, rfl, rfl⟩ := h; subst e; exact place_calls_m w
  rw [if_neg e] at h; clear e
  by_cases e : a0 = 110
  · rw [if_pos e] at h; simp only [Option.some.injEq, Prod.mk.injEq] at h; obtain ⟨rfl, rfl, rfl⟩ := h; subst e; exact place_calls_n w
  rw [if_neg e] at h; clear e
  by_cases e : a0 = 113
  · rw [if_pos e] at h; simp only [Option.some.injEq, Prod.mk.injEq] at h; obtain ⟨rfl, rfl, rfl⟩ := h; subst e; exact place_calls_q w
  rw [if_neg e] at h; clear e
  by_cases e : a0 = 117
  · rw [if_pos e] at h; simp only [Option.some.injEq, Prod.mk.injEq] at h; obtain ⟨rfl, rfl, rfl⟩ := h; subst e; exact place_calls_u w
  rw [if_neg e] at h; clear e
  by_cases e : a0 = 118
  · rw [if_pos e] at h; simp only [Option.some.injEq, Prod.mk.injEq] at h; obtain ⟨rfl, rfl, rfl⟩ := h; subst e; exact place_calls_v w
  rw [if_neg e] at h; clear e
  by_cases e : a0 = 122
  · rw [if_pos e] at h; simp only [Option.some.injEq, Prod.mk.injEq] at h; obtain ⟨rfl, rfl, rfl⟩ := h; subst e; exact place_calls_z w
  rw [if_neg e] at h; clear e
  cases h

end Go.Proofs.Ytnfkdmoblncclaa.X
