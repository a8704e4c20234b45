/- Whether a number has so many bits, for the numbers of bits that occur. -/
import Derived.Test.YtnfkdmoblncclaaXPre
namespace Go.Proofs.Ytnfkdmoblncclaa.X
open Go.RowKit Go.Proofs.YtnfkdmoblncclaaW.PrintWords Go.Proofs.YtnfkdmoblncclaaW.PrintLast Go.Proofs.YtnfkdmoblncclaaW.PrintMore
attribute [local go_sem] max2_int min2_int max_two min_two max_three min_three max_four min_four   -- for this text's walks alone
set_option linter.unusedVariables false
set_option linter.unusedSimpArgs false

/-! The numbers of bits that occur: within each, both ways of the first test. -/
set_option maxHeartbeats 8000000 in
theorem within_m26 (a0 : Int) (w : World) :
    Calls Try.prog 21 #[.int .i64 a0, .int .i64 (-26)] w fun e w' => e = .returned (.bool (decide ((-33554432) ≤ a0) && decide (a0 < 67108864))) ∧ Drawn0 w w' := by
  by_cases h : (-33554432) ≤ a0
  · have hb : decide ((-33554432) ≤ a0) = true := decide_eq_true h
    clear h
    go_enter Try.func21, Try.ntmps21
    go_wp2
    go_ret
    exact ⟨by first | rfl | (simp; done) | (rw [hb]; rfl) | (simp [hb]; done), by repeat (first | exact Drawn0.refl _ | apply Drawn0.step)⟩
  · have hb : decide ((-33554432) ≤ a0) = false := decide_eq_false h
    clear h
    go_enter Try.func21, Try.ntmps21
    go_wp2
    go_ret
    exact ⟨by first | rfl | (simp; done) | (rw [hb]; rfl) | (simp [hb]; done), by repeat (first | exact Drawn0.refl _ | apply Drawn0.step)⟩
set_option maxHeartbeats 8000000 in
theorem within_m16 (a0 : Int) (w : World) :
    Calls Try.prog 21 #[.int .i64 a0, .int .i64 (-16)] w fun e w' => e = .returned (.bool (decide ((-32768) ≤ a0) && decide (a0 < 65536))) ∧ Drawn0 w w' := by
  by_cases h : (-32768) ≤ a0
  · have hb : decide ((-32768) ≤ a0) = true := decide_eq_true h
    clear h
    go_enter Try.func21, Try.ntmps21
    go_wp2
    go_ret
    exact ⟨by first | rfl | (simp; done) | (rw [hb]; rfl) | (simp [hb]; done), by repeat (first | exact Drawn0.refl _ | apply Drawn0.step)⟩
  · have hb : decide ((-32768) ≤ a0) = false := decide_eq_false h
    clear h
    go_enter Try.func21, Try.ntmps21
    go_wp2
    go_ret
    exact ⟨by first | rfl | (simp; done) | (rw [hb]; rfl) | (simp [hb]; done), by repeat (first | exact Drawn0.refl _ | apply Drawn0.step)⟩
set_option maxHeartbeats 8000000 in
theorem within_m5 (a0 : Int) (w : World) :
    Calls Try.prog 21 #[.int .i64 a0, .int .i64 (-5)] w fun e w' => e = .returned (.bool (decide ((-16) ≤ a0) && decide (a0 < 32))) ∧ Drawn0 w w' := by
  by_cases h : (-16) ≤ a0
  · have hb : decide ((-16) ≤ a0) = true := decide_eq_true h
    clear h
    go_enter Try.func21, Try.ntmps21
    go_wp2
    go_ret
    exact ⟨by first | rfl | (simp; done) | (rw [hb]; rfl) | (simp [hb]; done), by repeat (first | exact Drawn0.refl _ | apply Drawn0.step)⟩
  · have hb : decide ((-16) ≤ a0) = false := decide_eq_false h
    clear h
    go_enter Try.func21, Try.ntmps21
    go_wp2
    go_ret
    exact ⟨by first | rfl | (simp; done) | (rw [hb]; rfl) | (simp [hb]; done), by repeat (first | exact Drawn0.refl _ | apply Drawn0.step)⟩
set_option maxHeartbeats 8000000 in
theorem within_1 (a0 : Int) (w : World) :
    Calls Try.prog 21 #[.int .i64 a0, .int .i64 1] w fun e w' => e = .returned (.bool (decide (0 ≤ a0) && decide (a0 < 2))) ∧ Drawn0 w w' := by
  by_cases h : 0 ≤ a0
  · have hb : decide (0 ≤ a0) = true := decide_eq_true h
    clear h
    go_enter Try.func21, Try.ntmps21
    go_wp2
    go_ret
    exact ⟨by first | rfl | (simp; done) | (rw [hb]; rfl) | (simp [hb]; done), by repeat (first | exact Drawn0.refl _ | apply Drawn0.step)⟩
  · have hb : decide (0 ≤ a0) = false := decide_eq_false h
    clear h
    go_enter Try.func21, Try.ntmps21
    go_wp2
    go_ret
    exact ⟨by first | rfl | (simp; done) | (rw [hb]; rfl) | (simp [hb]; done), by repeat (first | exact Drawn0.refl _ | apply Drawn0.step)⟩
set_option maxHeartbeats 8000000 in
theorem within_2 (a0 : Int) (w : World) :
    Calls Try.prog 21 #[.int .i64 a0, .int .i64 2] w fun e w' => e = .returned (.bool (decide (0 ≤ a0) && decide (a0 < 4))) ∧ Drawn0 w w' := by
  by_cases h : 0 ≤ a0
  · have hb : decide (0 ≤ a0) = true := decide_eq_true h
    clear h
    go_enter Try.func21, Try.ntmps21
    go_wp2
    go_ret
    exact ⟨by first | rfl | (simp; done) | (rw [hb]; rfl) | (simp [hb]; done), by repeat (first | exact Drawn0.refl _ | apply Drawn0.step)⟩
  · have hb : decide (0 ≤ a0) = false := decide_eq_false h
    clear h
    go_enter Try.func21, Try.ntmps21
    go_wp2
    go_ret
    exact ⟨by first | rfl | (simp; done) | (rw [hb]; rfl) | (simp [hb]; done), by repeat (first | exact Drawn0.refl _ | apply Drawn0.step)⟩
set_option maxHeartbeats 8000000 in
theorem within_4 (a0 : Int) (w : World) :
    Calls Try.prog 21 #[.int .i64 a0, .int .i64 4] w fun e w' => e = .returned (.bool (decide (0 ≤ a0) && decide (a0 < 16))) ∧ Drawn0 w w' := by
  by_cases h : 0 ≤ a0
  · have hb : decide (0 ≤ a0) = true := decide_eq_true h
    clear h
    go_enter Try.func21, Try.ntmps21
    go_wp2
    go_ret
    exact ⟨by first | rfl | (simp; done) | (rw [hb]; rfl) | (simp [hb]; done), by repeat (first | exact Drawn0.refl _ | apply Drawn0.step)⟩
  · have hb : decide (0 ≤ a0) = false := decide_eq_false h
    clear h
    go_enter Try.func21, Try.ntmps21
    go_wp2
    go_ret
    exact ⟨by first | rfl | (simp; done) | (rw [hb]; rfl) | (simp [hb]; done), by repeat (first | exact Drawn0.refl _ | apply Drawn0.step)⟩
set_option maxHeartbeats 8000000 in
theorem within_5 (a0 : Int) (w : World) :
    Calls Try.prog 21 #[.int .i64 a0, .int .i64 5] w fun e w' => e = .returned (.bool (decide (0 ≤ a0) && decide (a0 < 32))) ∧ Drawn0 w w' := by
  by_cases h : 0 ≤ a0
  · have hb : decide (0 ≤ a0) = true := decide_eq_true h
    clear h
    go_enter Try.func21, Try.ntmps21
    go_wp2
    go_ret
    exact ⟨by first | rfl | (simp; done) | (rw [hb]; rfl) | (simp [hb]; done), by repeat (first | exact Drawn0.refl _ | apply Drawn0.step)⟩
  · have hb : decide (0 ≤ a0) = false := decide_eq_false h
    clear h
    go_enter Try.func21, Try.ntmps21
    go_wp2
    go_ret
    exact ⟨by first | rfl | (simp; done) | (rw [hb]; rfl) | (simp [hb]; done), by repeat (first | exact Drawn0.refl _ | apply Drawn0.step)⟩
set_option maxHeartbeats 8000000 in
theorem within_6 (a0 : Int) (w : World) :
    Calls Try.prog 21 #[.int .i64 a0, .int .i64 6] w fun e w' => e = .returned (.bool (decide (0 ≤ a0) && decide (a0 < 64))) ∧ Drawn0 w w' := by
  by_cases h : 0 ≤ a0
  · have hb : decide (0 ≤ a0) = true := decide_eq_true h
    clear h
    go_enter Try.func21, Try.ntmps21
    go_wp2
    go_ret
    exact ⟨by first | rfl | (simp; done) | (rw [hb]; rfl) | (simp [hb]; done), by repeat (first | exact Drawn0.refl _ | apply Drawn0.step)⟩
  · have hb : decide (0 ≤ a0) = false := decide_eq_false h
    clear h
    go_enter Try.func21, Try.ntmps21
    go_wp2
    go_ret
    exact ⟨by first | rfl | (simp; done) | (rw [hb]; rfl) | (simp [hb]; done), by repeat (first | exact Drawn0.refl _ | apply Drawn0.step)⟩
set_option maxHeartbeats 8000000 in
theorem within_8 (a0 : Int) (w : World) :
    Calls Try.prog 21 #[.int .i64 a0, .int .i64 8] w fun e w' => e = .returned (.bool (decide (0 ≤ a0) && decide (a0 < 256))) ∧ Drawn0 w w' := by
  by_cases h : 0 ≤ a0
  · have hb : decide (0 ≤ a0) = true := decide_eq_true h
    clear h
    go_enter Try.func21, Try.ntmps21
    go_wp2
    go_ret
    exact ⟨by first | rfl | (simp; done) | (rw [hb]; rfl) | (simp [hb]; done), by repeat (first | exact Drawn0.refl _ | apply Drawn0.step)⟩
  · have hb : decide (0 ≤ a0) = false := decide_eq_false h
    clear h
    go_enter Try.func21, Try.ntmps21
    go_wp2
    go_ret
    exact ⟨by first | rfl | (simp; done) | (rw [hb]; rfl) | (simp [hb]; done), by repeat (first | exact Drawn0.refl _ | apply Drawn0.step)⟩
set_option maxHeartbeats 8000000 in
theorem within_9 (a0 : Int) (w : World) :
    Calls Try.prog 21 #[.int .i64 a0, .int .i64 9] w fun e w' => e = .returned (.bool (decide (0 ≤ a0) && decide (a0 < 512))) ∧ Drawn0 w w' := by
  by_cases h : 0 ≤ a0
  · have hb : decide (0 ≤ a0) = true := decide_eq_true h
    clear h
    go_enter Try.func21, Try.ntmps21
    go_wp2
    go_ret
    exact ⟨by first | rfl | (simp; done) | (rw [hb]; rfl) | (simp [hb]; done), by repeat (first | exact Drawn0.refl _ | apply Drawn0.step)⟩
  · have hb : decide (0 ≤ a0) = false := decide_eq_false h
    clear h
    go_enter Try.func21, Try.ntmps21
    go_wp2
    go_ret
    exact ⟨by first | rfl | (simp; done) | (rw [hb]; rfl) | (simp [hb]; done), by repeat (first | exact Drawn0.refl _ | apply Drawn0.step)⟩
set_option maxHeartbeats 8000000 in
theorem within_10 (a0 : Int) (w : World) :
    Calls Try.prog 21 #[.int .i64 a0, .int .i64 10] w fun e w' => e = .returned (.bool (decide (0 ≤ a0) && decide (a0 < 1024))) ∧ Drawn0 w w' := by
  by_cases h : 0 ≤ a0
  · have hb : decide (0 ≤ a0) = true := decide_eq_true h
    clear h
    go_enter Try.func21, Try.ntmps21
    go_wp2
    go_ret
    exact ⟨by first | rfl | (simp; done) | (rw [hb]; rfl) | (simp [hb]; done), by repeat (first | exact Drawn0.refl _ | apply Drawn0.step)⟩
  · have hb : decide (0 ≤ a0) = false := decide_eq_false h
    clear h
    go_enter Try.func21, Try.ntmps21
    go_wp2
    go_ret
    exact ⟨by first | rfl | (simp; done) | (rw [hb]; rfl) | (simp [hb]; done), by repeat (first | exact Drawn0.refl _ | apply Drawn0.step)⟩
set_option maxHeartbeats 8000000 in
theorem within_11 (a0 : Int) (w : World) :
    Calls Try.prog 21 #[.int .i64 a0, .int .i64 11] w fun e w' => e = .returned (.bool (decide (0 ≤ a0) && decide (a0 < 2048))) ∧ Drawn0 w w' := by
  by_cases h : 0 ≤ a0
  · have hb : decide (0 ≤ a0) = true := decide_eq_true h
    clear h
    go_enter Try.func21, Try.ntmps21
    go_wp2
    go_ret
    exact ⟨by first | rfl | (simp; done) | (rw [hb]; rfl) | (simp [hb]; done), by repeat (first | exact Drawn0.refl _ | apply Drawn0.step)⟩
  · have hb : decide (0 ≤ a0) = false := decide_eq_false h
    clear h
    go_enter Try.func21, Try.ntmps21
    go_wp2
    go_ret
    exact ⟨by first | rfl | (simp; done) | (rw [hb]; rfl) | (simp [hb]; done), by repeat (first | exact Drawn0.refl _ | apply Drawn0.step)⟩
set_option maxHeartbeats 8000000 in
theorem within_12 (a0 : Int) (w : World) :
    Calls Try.prog 21 #[.int .i64 a0, .int .i64 12] w fun e w' => e = .returned (.bool (decide (0 ≤ a0) && decide (a0 < 4096))) ∧ Drawn0 w w' := by
  by_cases h : 0 ≤ a0
  · have hb : decide (0 ≤ a0) = true := decide_eq_true h
    clear h
    go_enter Try.func21, Try.ntmps21
    go_wp2
    go_ret
    exact ⟨by first | rfl | (simp; done) | (rw [hb]; rfl) | (simp [hb]; done), by repeat (first | exact Drawn0.refl _ | apply Drawn0.step)⟩
  · have hb : decide (0 ≤ a0) = false := decide_eq_false h
    clear h
    go_enter Try.func21, Try.ntmps21
    go_wp2
    go_ret
    exact ⟨by first | rfl | (simp; done) | (rw [hb]; rfl) | (simp [hb]; done), by repeat (first | exact Drawn0.refl _ | apply Drawn0.step)⟩
set_option maxHeartbeats 8000000 in
theorem within_18 (a0 : Int) (w : World) :
    Calls Try.prog 21 #[.int .i64 a0, .int .i64 18] w fun e w' => e = .returned (.bool (decide (0 ≤ a0) && decide (a0 < 262144))) ∧ Drawn0 w w' := by
  by_cases h : 0 ≤ a0
  · have hb : decide (0 ≤ a0) = true := decide_eq_true h
    clear h
    go_enter Try.func21, Try.ntmps21
    go_wp2
    go_ret
    exact ⟨by first | rfl | (simp; done) | (rw [hb]; rfl) | (simp [hb]; done), by repeat (first | exact Drawn0.refl _ | apply Drawn0.step)⟩
  · have hb : decide (0 ≤ a0) = false := decide_eq_false h
    clear h
    go_enter Try.func21, Try.ntmps21
    go_wp2
    go_ret
    exact ⟨by first | rfl | (simp; done) | (rw [hb]; rfl) | (simp [hb]; done), by repeat (first | exact Drawn0.refl _ | apply Drawn0.step)⟩
set_option maxHeartbeats 8000000 in
theorem within_32 (a0 : Int) (w : World) :
    Calls Try.prog 21 #[.int .i64 a0, .int .i64 32] w fun e w' => e = .returned (.bool (decide (0 ≤ a0) && decide (a0 < 4294967296))) ∧ Drawn0 w w' := by
  by_cases h : 0 ≤ a0
  · have hb : decide (0 ≤ a0) = true := decide_eq_true h
    clear h
    go_enter Try.func21, Try.ntmps21
    go_wp2
    go_ret
    exact ⟨by first | rfl | (simp; done) | (rw [hb]; rfl) | (simp [hb]; done), by repeat (first | exact Drawn0.refl _ | apply Drawn0.step)⟩
  · have hb : decide (0 ≤ a0) = false := decide_eq_false h
    clear h
    go_enter Try.func21, Try.ntmps21
    go_wp2
    go_ret
    exact ⟨by first | rfl | (simp; done) | (rw [hb]; rfl) | (simp [hb]; done), by repeat (first | exact Drawn0.refl _ | apply Drawn0.step)⟩

def impl_within.f (a0 : Int) (a1 : Int) : Option (Bool) := if a1 = (-26) then some (decide ((-33554432) ≤ a0) && decide (a0 < 67108864)) else if a1 = (-16) then some (decide ((-32768) ≤ a0) && decide (a0 < 65536)) else if a1 = (-5) then some (decide ((-16) ≤ a0) && decide (a0 < 32)) else if a1 = 1 then some (decide (0 ≤ a0) && decide (a0 < 2)) else if a1 = 2 then some (decide (0 ≤ a0) && decide (a0 < 4)) else if a1 = 4 then some (decide (0 ≤ a0) && decide (a0 < 16)) else if a1 = 5 then some (decide (0 ≤ a0) && decide (a0 < 32)) else if a1 = 6 then some (decide (0 ≤ a0) && decide (a0 < 64)) else if a1 = 8 then some (decide (0 ≤ a0) && decide (a0 < 256)) else if a1 = 9 then some (decide (0 ≤ a0) && decide (a0 < 512)) else if a1 = 10 then some (decide (0 ≤ a0) && decide (a0 < 1024)) else if a1 = 11 then some (decide (0 ≤ a0) && decide (a0 < 2048)) else if a1 = 12 then some (decide (0 ≤ a0) && decide (a0 < 4096)) else if a1 = 18 then some (decide (0 ≤ a0) && decide (a0 < 262144)) else if a1 = 32 then some (decide (0 ≤ a0) && decide (a0 < 4294967296)) else none
theorem impl_within.calls (a0 : Int) (a1 : Int) (r : Bool) (w : World) (h : impl_within.f a0 a1 = some r) :
    Calls Try.prog 21 #[.int .i64 a0, .int .i64 a1] w fun e w' => e = .returned (.bool r) ∧ Drawn0 w w' := by
  unfold impl_within.f at h
  by_cases e : a1 = (-26)
  · rw [if_pos e] at h; obtain rfl := Option.some.inj h; subst e; exact within_m26 a0 w
  rw [if_neg e] at h; clear e
  by_cases e : a1 = (-16)
  · rw [if_pos e] at h; obtain rfl := Option.some.inj h; subst e; exact within_m16 a0 w
  rw [if_neg e] at h; clear e
  by_cases e : a1 = (-5)
  · rw [if_pos e] at h; obtain rfl := Option.some.inj h; subst e; exact within_m5 a0 w
  rw [if_neg e] at h; clear e
  by_cases e : a1 = 1
  · rw [if_pos e] at h; obtain rfl := Option.some.inj h; subst e; exact within_1 a0 w
  rw [if_neg e] at h; clear e
  by_cases e : a1 = 2
  · rw [if_pos e] at h; obtain rfl := Option.some.inj h; subst e; exact within_2 a0 w
  rw [if_neg e] at h; clear e
  by_cases e : a1 = 4
  · rw [if_pos e] at h; obtain rfl := Option.some.inj h; subst e; exact within_4 a0 w
  rw [if_neg e] at h; clear e
  by_cases e : a1 = 5
  · rw [if_pos e] at h; obtain rfl := Option.some.inj h; subst e; exact within_5 a0 w
  rw [if_neg e] at h; clear e
  by_cases e : a1 = 6
  · rw [if_pos e] at h; obtain rfl := Option.some.inj h; subst e; exact within_6 a0 w
  rw [if_neg e] at h; clear e
  by_cases e : a1 = 8
  · rw [if_pos e] at h; obtain rfl := Option.some.inj h; subst e; exact within_8 a0 w
  rw [if_neg e] at h; clear e
  by_cases e : a1 = 9
  · rw [if_pos e] at h; obtain rfl := Option.some.inj h; subst e; exact within_9 a0 w
  rw [if_neg e] at h; clear e
  by_cases e : a1 = 10
  · rw [if_pos e] at h; obtain rfl := Option.some.inj h; subst e; exact within_10 a0 w
  rw [if_neg e] at h; clear e
  by_cases e : a1 = 11
  · rw [if_pos e] at h; obtain rfl := Option.some.inj h; subst e; exact within_11 a0 w
  rw [if_neg e] at h; clear e
  by_cases e : a1 = 12
  · rw [if_pos e] at h; obtain rfl := Option.some.inj h; subst e; exact within_12 a0 w
  rw [if_neg e] at h; clear e
  by_cases e : a1 = 18
  · rw [if_pos e] at h; obtain rfl := Option.some.inj h; subst e; exact within_18 a0 w
  rw [if_neg e] at h; clear e
  by_cases e : a1 = 32
  · rw [if_pos e] at h; obtain rfl := Option.some.inj h; subst e; exact within_32 a0 w
  rw [if_neg e] at h; clear e
  exact absurd h (by simp)

end Go.Proofs.Ytnfkdmoblncclaa.X
