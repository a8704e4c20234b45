/- What the encoders of single instructions compute. -/
import Derived.Test.YtnfkdmoblncclaaXPre
namespace Go.Proofs.Ytnfkdmoblncclaa.X
open Go.RowKit Go.Proofs.YtnfkdmoblncclaaW.PrintWords Go.Proofs.YtnfkdmoblncclaaW.PrintLast Go.Proofs.YtnfkdmoblncclaaW.PrintMore
attribute [local go_sem] max2_int min2_int max_two min_two max_three min_three max_four min_four   -- for this text's walks alone
set_option linter.unusedVariables false
set_option linter.unusedSimpArgs false

/-! ### ppc64obj_OPVXX1: function 24 -/
def ppc64obj_OPVXX1.f (a0 : Int) (a1 : Int) (a2 : Int) : Option (Int) := some (Go.bits .or .u32 (Go.bits .or .u32 ((a0 * 67108864) % 4294967296) ((a1 * 2) % 4294967296)) ((a2 * 2048) % 4294967296))
set_option maxHeartbeats 8000000 in
set_option maxRecDepth 100000 in
theorem ppc64obj_OPVXX1.calls (a0 : Int) (a1 : Int) (a2 : Int) (r : Int) (w : World) (h : ppc64obj_OPVXX1.f a0 a1 a2 = some r) :
    Calls Try.prog 24 #[.int .u32 a0, .int .u32 a1, .int .u32 a2] w fun e w' => e = .returned (.int .u32 r) ∧ Drawn0 w w' := by
  have H : (some (Go.bits .or .u32 (Go.bits .or .u32 ((a0 * 67108864) % 4294967296) ((a1 * 2) % 4294967296)) ((a2 * 2048) % 4294967296))) = some r := h
  clear h
  obtain rfl := Option.some.inj H
  go_enter Try.func24, Try.ntmps24
  go_wp2
  go_ret
  exact ⟨by first | rfl | (simp; done) | (simp [*]; done), by repeat (first | exact Drawn0.refl _ | apply Drawn0.step)⟩

/-! ### impl_u: function 25 -/
def impl_u.f (a0 : Int) : Option (Int) := some ((a0) % 4294967296)
set_option maxHeartbeats 8000000 in
set_option maxRecDepth 100000 in
theorem impl_u.calls (a0 : Int) (r : Int) (w : World) (h : impl_u.f a0 = some r) :
    Calls Try.prog 25 #[.int .i64 a0] w fun e w' => e = .returned (.int .u32 r) ∧ Drawn0 w w' := by
  have H : (some ((a0) % 4294967296)) = some r := h
  clear h
  obtain rfl := Option.some.inj H
  go_enter Try.func25, Try.ntmps25
  go_wp2
  go_ret
  exact ⟨by first | rfl | (simp; done) | (simp [*]; done), by repeat (first | exact Drawn0.refl _ | apply Drawn0.step)⟩

/-! ### ppc64obj_OPVXX2: function 26 -/
def ppc64obj_OPVXX2.f (a0 : Int) (a1 : Int) (a2 : Int) : Option (Int) := some (Go.bits .or .u32 (Go.bits .or .u32 ((a0 * 67108864) % 4294967296) ((a1 * 4) % 4294967296)) ((a2 * 2048) % 4294967296))
set_option maxHeartbeats 8000000 in
set_option maxRecDepth 100000 in
theorem ppc64obj_OPVXX2.calls (a0 : Int) (a1 : Int) (a2 : Int) (r : Int) (w : World) (h : ppc64obj_OPVXX2.f a0 a1 a2 = some r) :
    Calls Try.prog 26 #[.int .u32 a0, .int .u32 a1, .int .u32 a2] w fun e w' => e = .returned (.int .u32 r) ∧ Drawn0 w w' := by
  have H : (some (Go.bits .or .u32 (Go.bits .or .u32 ((a0 * 67108864) % 4294967296) ((a1 * 4) % 4294967296)) ((a2 * 2048) % 4294967296))) = some r := h
  clear h
  obtain rfl := Option.some.inj H
  go_enter Try.func26, Try.ntmps26
  go_wp2
  go_ret
  exact ⟨by first | rfl | (simp; done) | (simp [*]; done), by repeat (first | exact Drawn0.refl _ | apply Drawn0.step)⟩

/-! ### ppc64obj_OPVXX2VA: function 27 -/
def ppc64obj_OPVXX2VA.f (a0 : Int) (a1 : Int) (a2 : Int) : Option (Int) := some (Go.bits .or .u32 (Go.bits .or .u32 ((a0 * 67108864) % 4294967296) ((a1 * 4) % 4294967296)) ((a2 * 65536) % 4294967296))
set_option maxHeartbeats 8000000 in
set_option maxRecDepth 100000 in
theorem ppc64obj_OPVXX2VA.calls (a0 : Int) (a1 : Int) (a2 : Int) (r : Int) (w : World) (h : ppc64obj_OPVXX2VA.f a0 a1 a2 = some r) :
    Calls Try.prog 27 #[.int .u32 a0, .int .u32 a1, .int .u32 a2] w fun e w' => e = .returned (.int .u32 r) ∧ Drawn0 w w' := by
  have H : (some (Go.bits .or .u32 (Go.bits .or .u32 ((a0 * 67108864) % 4294967296) ((a1 * 4) % 4294967296)) ((a2 * 65536) % 4294967296))) = some r := h
  clear h
  obtain rfl := Option.some.inj H
  go_enter Try.func27, Try.ntmps27
  go_wp2
  go_ret
  exact ⟨by first | rfl | (simp; done) | (simp [*]; done), by repeat (first | exact Drawn0.refl _ | apply Drawn0.step)⟩

/-! ### ppc64obj_OPVXX3: function 28 -/
def ppc64obj_OPVXX3.f (a0 : Int) (a1 : Int) (a2 : Int) : Option (Int) := some (Go.bits .or .u32 (Go.bits .or .u32 ((a0 * 67108864) % 4294967296) ((a1 * 8) % 4294967296)) ((a2 * 2048) % 4294967296))
set_option maxHeartbeats 8000000 in
set_option maxRecDepth 100000 in
theorem ppc64obj_OPVXX3.calls (a0 : Int) (a1 : Int) (a2 : Int) (r : Int) (w : World) (h : ppc64obj_OPVXX3.f a0 a1 a2 = some r) :
    Calls Try.prog 28 #[.int .u32 a0, .int .u32 a1, .int .u32 a2] w fun e w' => e = .returned (.int .u32 r) ∧ Drawn0 w w' := by
  have H : (some (Go.bits .or .u32 (Go.bits .or .u32 ((a0 * 67108864) % 4294967296) ((a1 * 8) % 4294967296)) ((a2 * 2048) % 4294967296))) = some r := h
  clear h
  obtain rfl := Option.some.inj H
  go_enter Try.func28, Try.ntmps28
  go_wp2
  go_ret
  exact ⟨by first | rfl | (simp; done) | (simp [*]; done), by repeat (first | exact Drawn0.refl _ | apply Drawn0.step)⟩

/-! ### ppc64obj_OPVXX4: function 29 -/
def ppc64obj_OPVXX4.f (a0 : Int) (a1 : Int) (a2 : Int) : Option (Int) := some (Go.bits .or .u32 (Go.bits .or .u32 ((a0 * 67108864) % 4294967296) ((a1 * 16) % 4294967296)) ((a2 * 2048) % 4294967296))
set_option maxHeartbeats 8000000 in
set_option maxRecDepth 100000 in
theorem ppc64obj_OPVXX4.calls (a0 : Int) (a1 : Int) (a2 : Int) (r : Int) (w : World) (h : ppc64obj_OPVXX4.f a0 a1 a2 = some r) :
    Calls Try.prog 29 #[.int .u32 a0, .int .u32 a1, .int .u32 a2] w fun e w' => e = .returned (.int .u32 r) ∧ Drawn0 w w' := by
  have H : (some (Go.bits .or .u32 (Go.bits .or .u32 ((a0 * 67108864) % 4294967296) ((a1 * 16) % 4294967296)) ((a2 * 2048) % 4294967296))) = some r := h
  clear h
  obtain rfl := Option.some.inj H
  go_enter Try.func29, Try.ntmps29
  go_wp2
  go_ret
  exact ⟨by first | rfl | (simp; done) | (simp [*]; done), by repeat (first | exact Drawn0.refl _ | apply Drawn0.step)⟩

/-! ### ppc64obj_OPDQ: function 30 -/
def ppc64obj_OPDQ.f (a0 : Int) (a1 : Int) (a2 : Int) : Option (Int) := some (Go.bits .or .u32 (Go.bits .or .u32 ((a0 * 67108864) % 4294967296) a1) ((a2 * 16) % 4294967296))
set_option maxHeartbeats 8000000 in
set_option maxRecDepth 100000 in
theorem ppc64obj_OPDQ.calls (a0 : Int) (a1 : Int) (a2 : Int) (r : Int) (w : World) (h : ppc64obj_OPDQ.f a0 a1 a2 = some r) :
    Calls Try.prog 30 #[.int .u32 a0, .int .u32 a1, .int .u32 a2] w fun e w' => e = .returned (.int .u32 r) ∧ Drawn0 w w' := by
  have H : (some (Go.bits .or .u32 (Go.bits .or .u32 ((a0 * 67108864) % 4294967296) a1) ((a2 * 16) % 4294967296))) = some r := h
  clear h
  obtain rfl := Option.some.inj H
  go_enter Try.func30, Try.ntmps30
  go_wp2
  go_ret
  exact ⟨by first | rfl | (simp; done) | (simp [*]; done), by repeat (first | exact Drawn0.refl _ | apply Drawn0.step)⟩

/-! ### ppc64obj_OPVX: function 31 -/
def ppc64obj_OPVX.f (a0 : Int) (a1 : Int) (a2 : Int) (a3 : Int) : Option (Int) := some (Go.bits .or .u32 (Go.bits .or .u32 (Go.bits .or .u32 ((a0 * 67108864) % 4294967296) a1) ((a2 * 2048) % 4294967296)) (Go.bits .and .u32 a3 1))
set_option maxHeartbeats 8000000 in
set_option maxRecDepth 100000 in
theorem ppc64obj_OPVX.calls (a0 : Int) (a1 : Int) (a2 : Int) (a3 : Int) (r : Int) (w : World) (h : ppc64obj_OPVX.f a0 a1 a2 a3 = some r) :
    Calls Try.prog 31 #[.int .u32 a0, .int .u32 a1, .int .u32 a2, .int .u32 a3] w fun e w' => e = .returned (.int .u32 r) ∧ Drawn0 w w' := by
  have H : (some (Go.bits .or .u32 (Go.bits .or .u32 (Go.bits .or .u32 ((a0 * 67108864) % 4294967296) a1) ((a2 * 2048) % 4294967296)) (Go.bits .and .u32 a3 1))) = some r := h
  clear h
  obtain rfl := Option.some.inj H
  go_enter Try.func31, Try.ntmps31
  go_wp2
  go_ret
  exact ⟨by first | rfl | (simp; done) | (simp [*]; done), by repeat (first | exact Drawn0.refl _ | apply Drawn0.step)⟩

/-! ### ppc64obj_OPVC: function 32 -/
def ppc64obj_OPVC.f (a0 : Int) (a1 : Int) (a2 : Int) (a3 : Int) : Option (Int) := some (Go.bits .or .u32 (Go.bits .or .u32 (Go.bits .or .u32 ((a0 * 67108864) % 4294967296) a1) ((a2 * 2048) % 4294967296)) (((Go.bits .and .u32 a3 1) * 1024) % 4294967296))
set_option maxHeartbeats 8000000 in
set_option maxRecDepth 100000 in
theorem ppc64obj_OPVC.calls (a0 : Int) (a1 : Int) (a2 : Int) (a3 : Int) (r : Int) (w : World) (h : ppc64obj_OPVC.f a0 a1 a2 a3 = some r) :
    Calls Try.prog 32 #[.int .u32 a0, .int .u32 a1, .int .u32 a2, .int .u32 a3] w fun e w' => e = .returned (.int .u32 r) ∧ Drawn0 w w' := by
  have H : (some (Go.bits .or .u32 (Go.bits .or .u32 (Go.bits .or .u32 ((a0 * 67108864) % 4294967296) a1) ((a2 * 2048) % 4294967296)) (((Go.bits .and .u32 a3 1) * 1024) % 4294967296))) = some r := h
  clear h
  obtain rfl := Option.some.inj H
  go_enter Try.func32, Try.ntmps32
  go_wp2
  go_ret
  exact ⟨by first | rfl | (simp; done) | (simp [*]; done), by repeat (first | exact Drawn0.refl _ | apply Drawn0.step)⟩

/-! ### ppc64obj_OPVCC: function 33 -/
def ppc64obj_OPVCC.f (a0 : Int) (a1 : Int) (a2 : Int) (a3 : Int) : Option (Int) := some (Go.bits .or .u32 (Go.bits .or .u32 (Go.bits .or .u32 ((a0 * 67108864) % 4294967296) ((a1 * 2) % 4294967296)) ((a2 * 1024) % 4294967296)) (Go.bits .and .u32 a3 1))
set_option maxHeartbeats 8000000 in
set_option maxRecDepth 100000 in
theorem ppc64obj_OPVCC.calls (a0 : Int) (a1 : Int) (a2 : Int) (a3 : Int) (r : Int) (w : World) (h : ppc64obj_OPVCC.f a0 a1 a2 a3 = some r) :
    Calls Try.prog 33 #[.int .u32 a0, .int .u32 a1, .int .u32 a2, .int .u32 a3] w fun e w' => e = .returned (.int .u32 r) ∧ Drawn0 w w' := by
  have H : (some (Go.bits .or .u32 (Go.bits .or .u32 (Go.bits .or .u32 ((a0 * 67108864) % 4294967296) ((a1 * 2) % 4294967296)) ((a2 * 1024) % 4294967296)) (Go.bits .and .u32 a3 1))) = some r := h
  clear h
  obtain rfl := Option.some.inj H
  go_enter Try.func33, Try.ntmps33
  go_wp2
  go_ret
  exact ⟨by first | rfl | (simp; done) | (simp [*]; done), by repeat (first | exact Drawn0.refl _ | apply Drawn0.step)⟩

/-! ### ppc64obj_OPMD: function 34 -/
def ppc64obj_OPMD.f (a0 : Int) (a1 : Int) (a2 : Int) : Option (Int) := some (Go.bits .or .u32 (Go.bits .or .u32 ((a0 * 67108864) % 4294967296) ((a1 * 4) % 4294967296)) (Go.bits .and .u32 a2 1))
set_option maxHeartbeats 8000000 in
set_option maxRecDepth 100000 in
theorem ppc64obj_OPMD.calls (a0 : Int) (a1 : Int) (a2 : Int) (r : Int) (w : World) (h : ppc64obj_OPMD.f a0 a1 a2 = some r) :
    Calls Try.prog 34 #[.int .u32 a0, .int .u32 a1, .int .u32 a2] w fun e w' => e = .returned (.int .u32 r) ∧ Drawn0 w w' := by
  have H : (some (Go.bits .or .u32 (Go.bits .or .u32 ((a0 * 67108864) % 4294967296) ((a1 * 4) % 4294967296)) (Go.bits .and .u32 a2 1))) = some r := h
  clear h
  obtain rfl := Option.some.inj H
  go_enter Try.func34, Try.ntmps34
  go_wp2
  go_ret
  exact ⟨by first | rfl | (simp; done) | (simp [*]; done), by repeat (first | exact Drawn0.refl _ | apply Drawn0.step)⟩

/-! ### ppc64obj_AOP_RRR: function 35 -/
def ppc64obj_AOP_RRR.f (a0 : Int) (a1 : Int) (a2 : Int) (a3 : Int) : Option (Int) := some (Go.bits .or .u32 (Go.bits .or .u32 (Go.bits .or .u32 a0 (((Go.bits .and .u32 a1 31) * 2097152) % 4294967296)) (((Go.bits .and .u32 a2 31) * 65536) % 4294967296)) (((Go.bits .and .u32 a3 31) * 2048) % 4294967296))
set_option maxHeartbeats 8000000 in
set_option maxRecDepth 100000 in
theorem ppc64obj_AOP_RRR.calls (a0 : Int) (a1 : Int) (a2 : Int) (a3 : Int) (r : Int) (w : World) (h : ppc64obj_AOP_RRR.f a0 a1 a2 a3 = some r) :
    Calls Try.prog 35 #[.int .u32 a0, .int .u32 a1, .int .u32 a2, .int .u32 a3] w fun e w' => e = .returned (.int .u32 r) ∧ Drawn0 w w' := by
  have H : (some (Go.bits .or .u32 (Go.bits .or .u32 (Go.bits .or .u32 a0 (((Go.bits .and .u32 a1 31) * 2097152) % 4294967296)) (((Go.bits .and .u32 a2 31) * 65536) % 4294967296)) (((Go.bits .and .u32 a3 31) * 2048) % 4294967296))) = some r := h
  clear h
  obtain rfl := Option.some.inj H
  go_enter Try.func35, Try.ntmps35
  go_wp2
  go_ret
  exact ⟨by first | rfl | (simp; done) | (simp [*]; done), by repeat (first | exact Drawn0.refl _ | apply Drawn0.step)⟩

/-! ### ppc64obj_AOP_RR: function 36 -/
def ppc64obj_AOP_RR.f (a0 : Int) (a1 : Int) (a2 : Int) : Option (Int) := some (Go.bits .or .u32 (Go.bits .or .u32 a0 (((Go.bits .and .u32 a1 31) * 2097152) % 4294967296)) (((Go.bits .and .u32 a2 31) * 2048) % 4294967296))
set_option maxHeartbeats 8000000 in
set_option maxRecDepth 100000 in
theorem ppc64obj_AOP_RR.calls (a0 : Int) (a1 : Int) (a2 : Int) (r : Int) (w : World) (h : ppc64obj_AOP_RR.f a0 a1 a2 = some r) :
    Calls Try.prog 36 #[.int .u32 a0, .int .u32 a1, .int .u32 a2] w fun e w' => e = .returned (.int .u32 r) ∧ Drawn0 w w' := by
  have H : (some (Go.bits .or .u32 (Go.bits .or .u32 a0 (((Go.bits .and .u32 a1 31) * 2097152) % 4294967296)) (((Go.bits .and .u32 a2 31) * 2048) % 4294967296))) = some r := h
  clear h
  obtain rfl := Option.some.inj H
  go_enter Try.func36, Try.ntmps36
  go_wp2
  go_ret
  exact ⟨by first | rfl | (simp; done) | (simp [*]; done), by repeat (first | exact Drawn0.refl _ | apply Drawn0.step)⟩

/-! ### ppc64obj_AOP_RRRR: function 37 -/
def ppc64obj_AOP_RRRR.f (a0 : Int) (a1 : Int) (a2 : Int) (a3 : Int) (a4 : Int) : Option (Int) := some (Go.bits .or .u32 (Go.bits .or .u32 (Go.bits .or .u32 (Go.bits .or .u32 a0 (((Go.bits .and .u32 a1 31) * 2097152) % 4294967296)) (((Go.bits .and .u32 a2 31) * 65536) % 4294967296)) (((Go.bits .and .u32 a3 31) * 2048) % 4294967296)) (((Go.bits .and .u32 a4 31) * 64) % 4294967296))
set_option maxHeartbeats 8000000 in
set_option maxRecDepth 100000 in
theorem ppc64obj_AOP_RRRR.calls (a0 : Int) (a1 : Int) (a2 : Int) (a3 : Int) (a4 : Int) (r : Int) (w : World) (h : ppc64obj_AOP_RRRR.f a0 a1 a2 a3 a4 = some r) :
    Calls Try.prog 37 #[.int .u32 a0, .int .u32 a1, .int .u32 a2, .int .u32 a3, .int .u32 a4] w fun e w' => e = .returned (.int .u32 r) ∧ Drawn0 w w' := by
  have H : (some (Go.bits .or .u32 (Go.bits .or .u32 (Go.bits .or .u32 (Go.bits .or .u32 a0 (((Go.bits .and .u32 a1 31) * 2097152) % 4294967296)) (((Go.bits .and .u32 a2 31) * 65536) % 4294967296)) (((Go.bits .and .u32 a3 31) * 2048) % 4294967296)) (((Go.bits .and .u32 a4 31) * 64) % 4294967296))) = some r := h
  clear h
  obtain rfl := Option.some.inj H
  go_enter Try.func37, Try.ntmps37
  go_wp2
  go_ret
  exact ⟨by first | rfl | (simp; done) | (simp [*]; done), by repeat (first | exact Drawn0.refl _ | apply Drawn0.step)⟩

/-! ### ppc64obj_AOP_IRR: function 38 -/
def ppc64obj_AOP_IRR.f (a0 : Int) (a1 : Int) (a2 : Int) (a3 : Int) : Option (Int) := some (Go.bits .or .u32 (Go.bits .or .u32 (Go.bits .or .u32 a0 (((Go.bits .and .u32 a1 31) * 2097152) % 4294967296)) (((Go.bits .and .u32 a2 31) * 65536) % 4294967296)) (Go.bits .and .u32 a3 65535))
set_option maxHeartbeats 8000000 in
set_option maxRecDepth 100000 in
theorem ppc64obj_AOP_IRR.calls (a0 : Int) (a1 : Int) (a2 : Int) (a3 : Int) (r : Int) (w : World) (h : ppc64obj_AOP_IRR.f a0 a1 a2 a3 = some r) :
    Calls Try.prog 38 #[.int .u32 a0, .int .u32 a1, .int .u32 a2, .int .u32 a3] w fun e w' => e = .returned (.int .u32 r) ∧ Drawn0 w w' := by
  have H : (some (Go.bits .or .u32 (Go.bits .or .u32 (Go.bits .or .u32 a0 (((Go.bits .and .u32 a1 31) * 2097152) % 4294967296)) (((Go.bits .and .u32 a2 31) * 65536) % 4294967296)) (Go.bits .and .u32 a3 65535))) = some r := h
  clear h
  obtain rfl := Option.some.inj H
  go_enter Try.func38, Try.ntmps38
  go_wp2
  go_ret
  exact ⟨by first | rfl | (simp; done) | (simp [*]; done), by repeat (first | exact Drawn0.refl _ | apply Drawn0.step)⟩

/-! ### ppc64obj_AOP_VIRR: function 39 -/
def ppc64obj_AOP_VIRR.f (a0 : Int) (a1 : Int) (a2 : Int) (a3 : Int) : Option (Int) := some (Go.bits .or .u32 (Go.bits .or .u32 (Go.bits .or .u32 a0 (((Go.bits .and .u32 a1 31) * 2097152) % 4294967296)) (((Go.bits .and .u32 a3 65535) * 65536) % 4294967296)) (((Go.bits .and .u32 a2 31) * 2048) % 4294967296))
set_option maxHeartbeats 8000000 in
set_option maxRecDepth 100000 in
theorem ppc64obj_AOP_VIRR.calls (a0 : Int) (a1 : Int) (a2 : Int) (a3 : Int) (r : Int) (w : World) (h : ppc64obj_AOP_VIRR.f a0 a1 a2 a3 = some r) :
    Calls Try.prog 39 #[.int .u32 a0, .int .u32 a1, .int .u32 a2, .int .u32 a3] w fun e w' => e = .returned (.int .u32 r) ∧ Drawn0 w w' := by
  have H : (some (Go.bits .or .u32 (Go.bits .or .u32 (Go.bits .or .u32 a0 (((Go.bits .and .u32 a1 31) * 2097152) % 4294967296)) (((Go.bits .and .u32 a3 65535) * 65536) % 4294967296)) (((Go.bits .and .u32 a2 31) * 2048) % 4294967296))) = some r := h
  clear h
  obtain rfl := Option.some.inj H
  go_enter Try.func39, Try.ntmps39
  go_wp2
  go_ret
  exact ⟨by first | rfl | (simp; done) | (simp [*]; done), by repeat (first | exact Drawn0.refl _ | apply Drawn0.step)⟩

/-! ### ppc64obj_AOP_IIRR: function 40 -/
def ppc64obj_AOP_IIRR.f (a0 : Int) (a1 : Int) (a2 : Int) (a3 : Int) (a4 : Int) : Option (Int) := some (Go.bits .or .u32 (Go.bits .or .u32 (Go.bits .or .u32 (Go.bits .or .u32 a0 (((Go.bits .and .u32 a1 31) * 2097152) % 4294967296)) (((Go.bits .and .u32 a2 31) * 65536) % 4294967296)) (((Go.bits .and .u32 a3 1) * 32768) % 4294967296)) (((Go.bits .and .u32 a4 15) * 2048) % 4294967296))
set_option maxHeartbeats 8000000 in
set_option maxRecDepth 100000 in
theorem ppc64obj_AOP_IIRR.calls (a0 : Int) (a1 : Int) (a2 : Int) (a3 : Int) (a4 : Int) (r : Int) (w : World) (h : ppc64obj_AOP_IIRR.f a0 a1 a2 a3 a4 = some r) :
    Calls Try.prog 40 #[.int .u32 a0, .int .u32 a1, .int .u32 a2, .int .u32 a3, .int .u32 a4] w fun e w' => e = .returned (.int .u32 r) ∧ Drawn0 w w' := by
  have H : (some (Go.bits .or .u32 (Go.bits .or .u32 (Go.bits .or .u32 (Go.bits .or .u32 a0 (((Go.bits .and .u32 a1 31) * 2097152) % 4294967296)) (((Go.bits .and .u32 a2 31) * 65536) % 4294967296)) (((Go.bits .and .u32 a3 1) * 32768) % 4294967296)) (((Go.bits .and .u32 a4 15) * 2048) % 4294967296))) = some r := h
  clear h
  obtain rfl := Option.some.inj H
  go_enter Try.func40, Try.ntmps40
  go_wp2
  go_ret
  exact ⟨by first | rfl | (simp; done) | (simp [*]; done), by repeat (first | exact Drawn0.refl _ | apply Drawn0.step)⟩

/-! ### ppc64obj_AOP_IRRR: function 41 -/
def ppc64obj_AOP_IRRR.f (a0 : Int) (a1 : Int) (a2 : Int) (a3 : Int) (a4 : Int) : Option (Int) := some (Go.bits .or .u32 (Go.bits .or .u32 (Go.bits .or .u32 (Go.bits .or .u32 a0 (((Go.bits .and .u32 a1 31) * 2097152) % 4294967296)) (((Go.bits .and .u32 a2 31) * 65536) % 4294967296)) (((Go.bits .and .u32 a3 31) * 2048) % 4294967296)) (((Go.bits .and .u32 a4 15) * 64) % 4294967296))
set_option maxHeartbeats 8000000 in
set_option maxRecDepth 100000 in
theorem ppc64obj_AOP_IRRR.calls (a0 : Int) (a1 : Int) (a2 : Int) (a3 : Int) (a4 : Int) (r : Int) (w : World) (h : ppc64obj_AOP_IRRR.f a0 a1 a2 a3 a4 = some r) :
    Calls Try.prog 41 #[.int .u32 a0, .int .u32 a1, .int .u32 a2, .int .u32 a3, .int .u32 a4] w fun e w' => e = .returned (.int .u32 r) ∧ Drawn0 w w' := by
  have H : (some (Go.bits .or .u32 (Go.bits .or .u32 (Go.bits .or .u32 (Go.bits .or .u32 a0 (((Go.bits .and .u32 a1 31) * 2097152) % 4294967296)) (((Go.bits .and .u32 a2 31) * 65536) % 4294967296)) (((Go.bits .and .u32 a3 31) * 2048) % 4294967296)) (((Go.bits .and .u32 a4 15) * 64) % 4294967296))) = some r := h
  clear h
  obtain rfl := Option.some.inj H
  go_enter Try.func41, Try.ntmps41
  go_wp2
  go_ret
  exact ⟨by first | rfl | (simp; done) | (simp [*]; done), by repeat (first | exact Drawn0.refl _ | apply Drawn0.step)⟩

/-! ### ppc64obj_AOP_IR: function 42 -/
def ppc64obj_AOP_IR.f (a0 : Int) (a1 : Int) (a2 : Int) : Option (Int) := some (Go.bits .or .u32 (Go.bits .or .u32 a0 (((Go.bits .and .u32 a1 31) * 2097152) % 4294967296)) (((Go.bits .and .u32 a2 31) * 65536) % 4294967296))
set_option maxHeartbeats 8000000 in
set_option maxRecDepth 100000 in
theorem ppc64obj_AOP_IR.calls (a0 : Int) (a1 : Int) (a2 : Int) (r : Int) (w : World) (h : ppc64obj_AOP_IR.f a0 a1 a2 = some r) :
    Calls Try.prog 42 #[.int .u32 a0, .int .u32 a1, .int .u32 a2] w fun e w' => e = .returned (.int .u32 r) ∧ Drawn0 w w' := by
  have H : (some (Go.bits .or .u32 (Go.bits .or .u32 a0 (((Go.bits .and .u32 a1 31) * 2097152) % 4294967296)) (((Go.bits .and .u32 a2 31) * 65536) % 4294967296))) = some r := h
  clear h
  obtain rfl := Option.some.inj H
  go_enter Try.func42, Try.ntmps42
  go_wp2
  go_ret
  exact ⟨by first | rfl | (simp; done) | (simp [*]; done), by repeat (first | exact Drawn0.refl _ | apply Drawn0.step)⟩

/-! ### ppc64obj_AOP_XX1: function 43 -/
def ppc64obj_AOP_XX1.f (a0 : Int) (a1 : Int) (a2 : Int) (a3 : Int) : Option (Int) := some (Go.bits .or .u32 (Go.bits .or .u32 (Go.bits .or .u32 (Go.bits .or .u32 a0 (((Go.bits .and .u32 a1 31) * 2097152) % 4294967296)) (((Go.bits .and .u32 a2 31) * 65536) % 4294967296)) (((Go.bits .and .u32 a3 31) * 2048) % 4294967296)) ((Go.bits .and .u32 a1 32) / 32))
set_option maxHeartbeats 8000000 in
set_option maxRecDepth 100000 in
theorem ppc64obj_AOP_XX1.calls (a0 : Int) (a1 : Int) (a2 : Int) (a3 : Int) (r : Int) (w : World) (h : ppc64obj_AOP_XX1.f a0 a1 a2 a3 = some r) :
    Calls Try.prog 43 #[.int .u32 a0, .int .u32 a1, .int .u32 a2, .int .u32 a3] w fun e w' => e = .returned (.int .u32 r) ∧ Drawn0 w w' := by
  have H : (some (Go.bits .or .u32 (Go.bits .or .u32 (Go.bits .or .u32 (Go.bits .or .u32 a0 (((Go.bits .and .u32 a1 31) * 2097152) % 4294967296)) (((Go.bits .and .u32 a2 31) * 65536) % 4294967296)) (((Go.bits .and .u32 a3 31) * 2048) % 4294967296)) ((Go.bits .and .u32 a1 32) / 32))) = some r := h
  clear h
  obtain rfl := Option.some.inj H
  go_enter Try.func43, Try.ntmps43
  go_wp2
  go_ret
  exact ⟨by first | rfl | (simp; done) | (simp [*]; done), by repeat (first | exact Drawn0.refl _ | apply Drawn0.step)⟩

/-! ### ppc64obj_AOP_XX2: function 44 -/
def ppc64obj_AOP_XX2.f (a0 : Int) (a1 : Int) (a2 : Int) (a3 : Int) : Option (Int) := some (Go.bits .or .u32 (Go.bits .or .u32 (Go.bits .or .u32 (Go.bits .or .u32 (Go.bits .or .u32 a0 (((Go.bits .and .u32 a1 31) * 2097152) % 4294967296)) (((Go.bits .and .u32 a2 3) * 65536) % 4294967296)) (((Go.bits .and .u32 a3 31) * 2048) % 4294967296)) ((Go.bits .and .u32 a3 32) / 16)) ((Go.bits .and .u32 a1 32) / 32))
set_option maxHeartbeats 8000000 in
set_option maxRecDepth 100000 in
theorem ppc64obj_AOP_XX2.calls (a0 : Int) (a1 : Int) (a2 : Int) (a3 : Int) (r : Int) (w : World) (h : ppc64obj_AOP_XX2.f a0 a1 a2 a3 = some r) :
    Calls Try.prog 44 #[.int .u32 a0, .int .u32 a1, .int .u32 a2, .int .u32 a3] w fun e w' => e = .returned (.int .u32 r) ∧ Drawn0 w w' := by
  have H : (some (Go.bits .or .u32 (Go.bits .or .u32 (Go.bits .or .u32 (Go.bits .or .u32 (Go.bits .or .u32 a0 (((Go.bits .and .u32 a1 31) * 2097152) % 4294967296)) (((Go.bits .and .u32 a2 3) * 65536) % 4294967296)) (((Go.bits .and .u32 a3 31) * 2048) % 4294967296)) ((Go.bits .and .u32 a3 32) / 16)) ((Go.bits .and .u32 a1 32) / 32))) = some r := h
  clear h
  obtain rfl := Option.some.inj H
  go_enter Try.func44, Try.ntmps44
  go_wp2
  go_ret
  exact ⟨by first | rfl | (simp; done) | (simp [*]; done), by repeat (first | exact Drawn0.refl _ | apply Drawn0.step)⟩

/-! ### ppc64obj_AOP_XX3: function 45 -/
def ppc64obj_AOP_XX3.f (a0 : Int) (a1 : Int) (a2 : Int) (a3 : Int) : Option (Int) := some (Go.bits .or .u32 (Go.bits .or .u32 (Go.bits .or .u32 (Go.bits .or .u32 (Go.bits .or .u32 (Go.bits .or .u32 a0 (((Go.bits .and .u32 a1 31) * 2097152) % 4294967296)) (((Go.bits .and .u32 a2 31) * 65536) % 4294967296)) (((Go.bits .and .u32 a3 31) * 2048) % 4294967296)) ((Go.bits .and .u32 a2 32) / 8)) ((Go.bits .and .u32 a3 32) / 16)) ((Go.bits .and .u32 a1 32) / 32))
set_option maxHeartbeats 8000000 in
set_option maxRecDepth 100000 in
theorem ppc64obj_AOP_XX3.calls (a0 : Int) (a1 : Int) (a2 : Int) (a3 : Int) (r : Int) (w : World) (h : ppc64obj_AOP_XX3.f a0 a1 a2 a3 = some r) :
    Calls Try.prog 45 #[.int .u32 a0, .int .u32 a1, .int .u32 a2, .int .u32 a3] w fun e w' => e = .returned (.int .u32 r) ∧ Drawn0 w w' := by
  have H : (some (Go.bits .or .u32 (Go.bits .or .u32 (Go.bits .or .u32 (Go.bits .or .u32 (Go.bits .or .u32 (Go.bits .or .u32 a0 (((Go.bits .and .u32 a1 31) * 2097152) % 4294967296)) (((Go.bits .and .u32 a2 31) * 65536) % 4294967296)) (((Go.bits .and .u32 a3 31) * 2048) % 4294967296)) ((Go.bits .and .u32 a2 32) / 8)) ((Go.bits .and .u32 a3 32) / 16)) ((Go.bits .and .u32 a1 32) / 32))) = some r := h
  clear h
  obtain rfl := Option.some.inj H
  go_enter Try.func45, Try.ntmps45
  go_wp2
  go_ret
  exact ⟨by first | rfl | (simp; done) | (simp [*]; done), by repeat (first | exact Drawn0.refl _ | apply Drawn0.step)⟩

/-! ### ppc64obj_AOP_XX3I: function 46 -/
def ppc64obj_AOP_XX3I.f (a0 : Int) (a1 : Int) (a2 : Int) (a3 : Int) (a4 : Int) : Option (Int) := some (Go.bits .or .u32 (Go.bits .or .u32 (Go.bits .or .u32 (Go.bits .or .u32 (Go.bits .or .u32 (Go.bits .or .u32 (Go.bits .or .u32 a0 (((Go.bits .and .u32 a1 31) * 2097152) % 4294967296)) (((Go.bits .and .u32 a2 31) * 65536) % 4294967296)) (((Go.bits .and .u32 a3 31) * 2048) % 4294967296)) (((Go.bits .and .u32 a4 3) * 256) % 4294967296)) ((Go.bits .and .u32 a2 32) / 8)) ((Go.bits .and .u32 a3 32) / 16)) ((Go.bits .and .u32 a1 32) / 32))
set_option maxHeartbeats 8000000 in
set_option maxRecDepth 100000 in
theorem ppc64obj_AOP_XX3I.calls (a0 : Int) (a1 : Int) (a2 : Int) (a3 : Int) (a4 : Int) (r : Int) (w : World) (h : ppc64obj_AOP_XX3I.f a0 a1 a2 a3 a4 = some r) :
    Calls Try.prog 46 #[.int .u32 a0, .int .u32 a1, .int .u32 a2, .int .u32 a3, .int .u32 a4] w fun e w' => e = .returned (.int .u32 r) ∧ Drawn0 w w' := by
  have H : (some (Go.bits .or .u32 (Go.bits .or .u32 (Go.bits .or .u32 (Go.bits .or .u32 (Go.bits .or .u32 (Go.bits .or .u32 (Go.bits .or .u32 a0 (((Go.bits .and .u32 a1 31) * 2097152) % 4294967296)) (((Go.bits .and .u32 a2 31) * 65536) % 4294967296)) (((Go.bits .and .u32 a3 31) * 2048) % 4294967296)) (((Go.bits .and .u32 a4 3) * 256) % 4294967296)) ((Go.bits .and .u32 a2 32) / 8)) ((Go.bits .and .u32 a3 32) / 16)) ((Go.bits .and .u32 a1 32) / 32))) = some r := h
  clear h
  obtain rfl := Option.some.inj H
  go_enter Try.func46, Try.ntmps46
  go_wp2
  go_ret
  exact ⟨by first | rfl | (simp; done) | (simp [*]; done), by repeat (first | exact Drawn0.refl _ | apply Drawn0.step)⟩

/-! ### ppc64obj_AOP_XX4: function 47 -/
def ppc64obj_AOP_XX4.f (a0 : Int) (a1 : Int) (a2 : Int) (a3 : Int) (a4 : Int) : Option (Int) := some (Go.bits .or .u32 (Go.bits .or .u32 (Go.bits .or .u32 (Go.bits .or .u32 (Go.bits .or .u32 (Go.bits .or .u32 (Go.bits .or .u32 (Go.bits .or .u32 a0 (((Go.bits .and .u32 a1 31) * 2097152) % 4294967296)) (((Go.bits .and .u32 a2 31) * 65536) % 4294967296)) (((Go.bits .and .u32 a3 31) * 2048) % 4294967296)) (((Go.bits .and .u32 a4 31) * 64) % 4294967296)) ((Go.bits .and .u32 a4 32) / 4)) ((Go.bits .and .u32 a2 32) / 8)) ((Go.bits .and .u32 a3 32) / 16)) ((Go.bits .and .u32 a1 32) / 32))
set_option maxHeartbeats 8000000 in
set_option maxRecDepth 100000 in
theorem ppc64obj_AOP_XX4.calls (a0 : Int) (a1 : Int) (a2 : Int) (a3 : Int) (a4 : Int) (r : Int) (w : World) (h : ppc64obj_AOP_XX4.f a0 a1 a2 a3 a4 = some r) :
    Calls Try.prog 47 #[.int .u32 a0, .int .u32 a1, .int .u32 a2, .int .u32 a3, .int .u32 a4] w fun e w' => e = .returned (.int .u32 r) ∧ Drawn0 w w' := by
  have H : (some (Go.bits .or .u32 (Go.bits .or .u32 (Go.bits .or .u32 (Go.bits .or .u32 (Go.bits .or .u32 (Go.bits .or .u32 (Go.bits .or .u32 (Go.bits .or .u32 a0 (((Go.bits .and .u32 a1 31) * 2097152) % 4294967296)) (((Go.bits .and .u32 a2 31) * 65536) % 4294967296)) (((Go.bits .and .u32 a3 31) * 2048) % 4294967296)) (((Go.bits .and .u32 a4 31) * 64) % 4294967296)) ((Go.bits .and .u32 a4 32) / 4)) ((Go.bits .and .u32 a2 32) / 8)) ((Go.bits .and .u32 a3 32) / 16)) ((Go.bits .and .u32 a1 32) / 32))) = some r := h
  clear h
  obtain rfl := Option.some.inj H
  go_enter Try.func47, Try.ntmps47
  go_wp2
  go_ret
  exact ⟨by first | rfl | (simp; done) | (simp [*]; done), by repeat (first | exact Drawn0.refl _ | apply Drawn0.step)⟩

/-! ### ppc64obj_AOP_DQ: function 48 -/
def ppc64obj_AOP_DQ.f (a0 : Int) (a1 : Int) (a2 : Int) (a3 : Int) : Option (Int) := some (Go.bits .or .u32 (Go.bits .or .u32 (Go.bits .or .u32 (Go.bits .or .u32 a0 (((Go.bits .and .u32 a1 31) * 2097152) % 4294967296)) (((Go.bits .and .u32 a2 31) * 65536) % 4294967296)) (((Go.bits .and .u32 (a3 / 16) 4095) * 16) % 4294967296)) ((Go.bits .and .u32 a1 32) / 4))
set_option maxHeartbeats 8000000 in
set_option maxRecDepth 100000 in
theorem ppc64obj_AOP_DQ.calls (a0 : Int) (a1 : Int) (a2 : Int) (a3 : Int) (r : Int) (w : World) (h : ppc64obj_AOP_DQ.f a0 a1 a2 a3 = some r) :
    Calls Try.prog 48 #[.int .u32 a0, .int .u32 a1, .int .u32 a2, .int .u32 a3] w fun e w' => e = .returned (.int .u32 r) ∧ Drawn0 w w' := by
  have H : (some (Go.bits .or .u32 (Go.bits .or .u32 (Go.bits .or .u32 (Go.bits .or .u32 a0 (((Go.bits .and .u32 a1 31) * 2097152) % 4294967296)) (((Go.bits .and .u32 a2 31) * 65536) % 4294967296)) (((Go.bits .and .u32 (a3 / 16) 4095) * 16) % 4294967296)) ((Go.bits .and .u32 a1 32) / 4))) = some r := h
  clear h
  obtain rfl := Option.some.inj H
  go_enter Try.func48, Try.ntmps48
  go_wp2
  go_ret
  exact ⟨by first | rfl | (simp; done) | (simp [*]; done), by repeat (first | exact Drawn0.refl _ | apply Drawn0.step)⟩

/-! ### ppc64obj_AOP_Z23I: function 49 -/
def ppc64obj_AOP_Z23I.f (a0 : Int) (a1 : Int) (a2 : Int) (a3 : Int) (a4 : Int) : Option (Int) := some (Go.bits .or .u32 (Go.bits .or .u32 (Go.bits .or .u32 (Go.bits .or .u32 a0 (((Go.bits .and .u32 a1 31) * 2097152) % 4294967296)) (((Go.bits .and .u32 a2 31) * 65536) % 4294967296)) (((Go.bits .and .u32 a3 31) * 2048) % 4294967296)) (((Go.bits .and .u32 a4 3) * 512) % 4294967296))
set_option maxHeartbeats 8000000 in
set_option maxRecDepth 100000 in
theorem ppc64obj_AOP_Z23I.calls (a0 : Int) (a1 : Int) (a2 : Int) (a3 : Int) (a4 : Int) (r : Int) (w : World) (h : ppc64obj_AOP_Z23I.f a0 a1 a2 a3 a4 = some r) :
    Calls Try.prog 49 #[.int .u32 a0, .int .u32 a1, .int .u32 a2, .int .u32 a3, .int .u32 a4] w fun e w' => e = .returned (.int .u32 r) ∧ Drawn0 w w' := by
  have H : (some (Go.bits .or .u32 (Go.bits .or .u32 (Go.bits .or .u32 (Go.bits .or .u32 a0 (((Go.bits .and .u32 a1 31) * 2097152) % 4294967296)) (((Go.bits .and .u32 a2 31) * 65536) % 4294967296)) (((Go.bits .and .u32 a3 31) * 2048) % 4294967296)) (((Go.bits .and .u32 a4 3) * 512) % 4294967296))) = some r := h
  clear h
  obtain rfl := Option.some.inj H
  go_enter Try.func49, Try.ntmps49
  go_wp2
  go_ret
  exact ⟨by first | rfl | (simp; done) | (simp [*]; done), by repeat (first | exact Drawn0.refl _ | apply Drawn0.step)⟩

/-! ### ppc64obj_AOP_RRRI: function 50 -/
def ppc64obj_AOP_RRRI.f (a0 : Int) (a1 : Int) (a2 : Int) (a3 : Int) (a4 : Int) : Option (Int) := some (Go.bits .or .u32 (Go.bits .or .u32 (Go.bits .or .u32 (Go.bits .or .u32 a0 (((Go.bits .and .u32 a1 31) * 2097152) % 4294967296)) (((Go.bits .and .u32 a2 31) * 65536) % 4294967296)) (((Go.bits .and .u32 a3 31) * 2048) % 4294967296)) (Go.bits .and .u32 a4 1))
set_option maxHeartbeats 8000000 in
set_option maxRecDepth 100000 in
theorem ppc64obj_AOP_RRRI.calls (a0 : Int) (a1 : Int) (a2 : Int) (a3 : Int) (a4 : Int) (r : Int) (w : World) (h : ppc64obj_AOP_RRRI.f a0 a1 a2 a3 a4 = some r) :
    Calls Try.prog 50 #[.int .u32 a0, .int .u32 a1, .int .u32 a2, .int .u32 a3, .int .u32 a4] w fun e w' => e = .returned (.int .u32 r) ∧ Drawn0 w w' := by
  have H : (some (Go.bits .or .u32 (Go.bits .or .u32 (Go.bits .or .u32 (Go.bits .or .u32 a0 (((Go.bits .and .u32 a1 31) * 2097152) % 4294967296)) (((Go.bits .and .u32 a2 31) * 65536) % 4294967296)) (((Go.bits .and .u32 a3 31) * 2048) % 4294967296)) (Go.bits .and .u32 a4 1))) = some r := h
  clear h
  obtain rfl := Option.some.inj H
  go_enter Try.func50, Try.ntmps50
  go_wp2
  go_ret
  exact ⟨by first | rfl | (simp; done) | (simp [*]; done), by repeat (first | exact Drawn0.refl _ | apply Drawn0.step)⟩

/-! ### ppc64obj_LOP_RRR: function 51 -/
def ppc64obj_LOP_RRR.f (a0 : Int) (a1 : Int) (a2 : Int) (a3 : Int) : Option (Int) := some (Go.bits .or .u32 (Go.bits .or .u32 (Go.bits .or .u32 a0 (((Go.bits .and .u32 a2 31) * 2097152) % 4294967296)) (((Go.bits .and .u32 a1 31) * 65536) % 4294967296)) (((Go.bits .and .u32 a3 31) * 2048) % 4294967296))
set_option maxHeartbeats 8000000 in
set_option maxRecDepth 100000 in
theorem ppc64obj_LOP_RRR.calls (a0 : Int) (a1 : Int) (a2 : Int) (a3 : Int) (r : Int) (w : World) (h : ppc64obj_LOP_RRR.f a0 a1 a2 a3 = some r) :
    Calls Try.prog 51 #[.int .u32 a0, .int .u32 a1, .int .u32 a2, .int .u32 a3] w fun e w' => e = .returned (.int .u32 r) ∧ Drawn0 w w' := by
  have H : (some (Go.bits .or .u32 (Go.bits .or .u32 (Go.bits .or .u32 a0 (((Go.bits .and .u32 a2 31) * 2097152) % 4294967296)) (((Go.bits .and .u32 a1 31) * 65536) % 4294967296)) (((Go.bits .and .u32 a3 31) * 2048) % 4294967296))) = some r := h
  clear h
  obtain rfl := Option.some.inj H
  go_enter Try.func51, Try.ntmps51
  go_wp2
  go_ret
  exact ⟨by first | rfl | (simp; done) | (simp [*]; done), by repeat (first | exact Drawn0.refl _ | apply Drawn0.step)⟩

/-! ### ppc64obj_LOP_IRR: function 52 -/
def ppc64obj_LOP_IRR.f (a0 : Int) (a1 : Int) (a2 : Int) (a3 : Int) : Option (Int) := some (Go.bits .or .u32 (Go.bits .or .u32 (Go.bits .or .u32 a0 (((Go.bits .and .u32 a2 31) * 2097152) % 4294967296)) (((Go.bits .and .u32 a1 31) * 65536) % 4294967296)) (Go.bits .and .u32 a3 65535))
set_option maxHeartbeats 8000000 in
set_option maxRecDepth 100000 in
theorem ppc64obj_LOP_IRR.calls (a0 : Int) (a1 : Int) (a2 : Int) (a3 : Int) (r : Int) (w : World) (h : ppc64obj_LOP_IRR.f a0 a1 a2 a3 = some r) :
    Calls Try.prog 52 #[.int .u32 a0, .int .u32 a1, .int .u32 a2, .int .u32 a3] w fun e w' => e = .returned (.int .u32 r) ∧ Drawn0 w w' := by
  have H : (some (Go.bits .or .u32 (Go.bits .or .u32 (Go.bits .or .u32 a0 (((Go.bits .and .u32 a2 31) * 2097152) % 4294967296)) (((Go.bits .and .u32 a1 31) * 65536) % 4294967296)) (Go.bits .and .u32 a3 65535))) = some r := h
  clear h
  obtain rfl := Option.some.inj H
  go_enter Try.func52, Try.ntmps52
  go_wp2
  go_ret
  exact ⟨by first | rfl | (simp; done) | (simp [*]; done), by repeat (first | exact Drawn0.refl _ | apply Drawn0.step)⟩

/-! ### ppc64obj_OP_BR: function 53 -/
def ppc64obj_OP_BR.f (a0 : Int) (a1 : Int) (a2 : Int) : Option (Int) := some (Go.bits .or .u32 (Go.bits .or .u32 a0 (Go.bits .and .u32 a1 67108860)) ((a2 * 2) % 4294967296))
set_option maxHeartbeats 8000000 in
set_option maxRecDepth 100000 in
theorem ppc64obj_OP_BR.calls (a0 : Int) (a1 : Int) (a2 : Int) (r : Int) (w : World) (h : ppc64obj_OP_BR.f a0 a1 a2 = some r) :
    Calls Try.prog 53 #[.int .u32 a0, .int .u32 a1, .int .u32 a2] w fun e w' => e = .returned (.int .u32 r) ∧ Drawn0 w w' := by
  have H : (some (Go.bits .or .u32 (Go.bits .or .u32 a0 (Go.bits .and .u32 a1 67108860)) ((a2 * 2) % 4294967296))) = some r := h
  clear h
  obtain rfl := Option.some.inj H
  go_enter Try.func53, Try.ntmps53
  go_wp2
  go_ret
  exact ⟨by first | rfl | (simp; done) | (simp [*]; done), by repeat (first | exact Drawn0.refl _ | apply Drawn0.step)⟩

/-! ### ppc64obj_OP_BC: function 54 -/
def ppc64obj_OP_BC.f (a0 : Int) (a1 : Int) (a2 : Int) (a3 : Int) (a4 : Int) : Option (Int) := some (Go.bits .or .u32 (Go.bits .or .u32 (Go.bits .or .u32 (Go.bits .or .u32 a0 (((Go.bits .and .u32 a1 31) * 2097152) % 4294967296)) (((Go.bits .and .u32 a2 31) * 65536) % 4294967296)) (Go.bits .and .u32 a3 65532)) ((a4 * 2) % 4294967296))
set_option maxHeartbeats 8000000 in
set_option maxRecDepth 100000 in
theorem ppc64obj_OP_BC.calls (a0 : Int) (a1 : Int) (a2 : Int) (a3 : Int) (a4 : Int) (r : Int) (w : World) (h : ppc64obj_OP_BC.f a0 a1 a2 a3 a4 = some r) :
    Calls Try.prog 54 #[.int .u32 a0, .int .u32 a1, .int .u32 a2, .int .u32 a3, .int .u32 a4] w fun e w' => e = .returned (.int .u32 r) ∧ Drawn0 w w' := by
  have H : (some (Go.bits .or .u32 (Go.bits .or .u32 (Go.bits .or .u32 (Go.bits .or .u32 a0 (((Go.bits .and .u32 a1 31) * 2097152) % 4294967296)) (((Go.bits .and .u32 a2 31) * 65536) % 4294967296)) (Go.bits .and .u32 a3 65532)) ((a4 * 2) % 4294967296))) = some r := h
  clear h
  obtain rfl := Option.some.inj H
  go_enter Try.func54, Try.ntmps54
  go_wp2
  go_ret
  exact ⟨by first | rfl | (simp; done) | (simp [*]; done), by repeat (first | exact Drawn0.refl _ | apply Drawn0.step)⟩

/-! ### ppc64obj_OP_BCR: function 55 -/
def ppc64obj_OP_BCR.f (a0 : Int) (a1 : Int) (a2 : Int) : Option (Int) := some (Go.bits .or .u32 (Go.bits .or .u32 a0 (((Go.bits .and .u32 a1 31) * 2097152) % 4294967296)) (((Go.bits .and .u32 a2 31) * 65536) % 4294967296))
set_option maxHeartbeats 8000000 in
set_option maxRecDepth 100000 in
theorem ppc64obj_OP_BCR.calls (a0 : Int) (a1 : Int) (a2 : Int) (r : Int) (w : World) (h : ppc64obj_OP_BCR.f a0 a1 a2 = some r) :
    Calls Try.prog 55 #[.int .u32 a0, .int .u32 a1, .int .u32 a2] w fun e w' => e = .returned (.int .u32 r) ∧ Drawn0 w w' := by
  have H : (some (Go.bits .or .u32 (Go.bits .or .u32 a0 (((Go.bits .and .u32 a1 31) * 2097152) % 4294967296)) (((Go.bits .and .u32 a2 31) * 65536) % 4294967296))) = some r := h
  clear h
  obtain rfl := Option.some.inj H
  go_enter Try.func55, Try.ntmps55
  go_wp2
  go_ret
  exact ⟨by first | rfl | (simp; done) | (simp [*]; done), by repeat (first | exact Drawn0.refl _ | apply Drawn0.step)⟩

/-! ### ppc64obj_OP_RLW: function 56 -/
def ppc64obj_OP_RLW.f (a0 : Int) (a1 : Int) (a2 : Int) (a3 : Int) (a4 : Int) (a5 : Int) : Option (Int) := some (Go.bits .or .u32 (Go.bits .or .u32 (Go.bits .or .u32 (Go.bits .or .u32 (Go.bits .or .u32 a0 (((Go.bits .and .u32 a2 31) * 2097152) % 4294967296)) (((Go.bits .and .u32 a1 31) * 65536) % 4294967296)) (((Go.bits .and .u32 a3 31) * 2048) % 4294967296)) (((Go.bits .and .u32 a4 31) * 64) % 4294967296)) (((Go.bits .and .u32 a5 31) * 2) % 4294967296))
set_option maxHeartbeats 8000000 in
set_option maxRecDepth 100000 in
theorem ppc64obj_OP_RLW.calls (a0 : Int) (a1 : Int) (a2 : Int) (a3 : Int) (a4 : Int) (a5 : Int) (r : Int) (w : World) (h : ppc64obj_OP_RLW.f a0 a1 a2 a3 a4 a5 = some r) :
    Calls Try.prog 56 #[.int .u32 a0, .int .u32 a1, .int .u32 a2, .int .u32 a3, .int .u32 a4, .int .u32 a5] w fun e w' => e = .returned (.int .u32 r) ∧ Drawn0 w w' := by
  have H : (some (Go.bits .or .u32 (Go.bits .or .u32 (Go.bits .or .u32 (Go.bits .or .u32 (Go.bits .or .u32 a0 (((Go.bits .and .u32 a2 31) * 2097152) % 4294967296)) (((Go.bits .and .u32 a1 31) * 65536) % 4294967296)) (((Go.bits .and .u32 a3 31) * 2048) % 4294967296)) (((Go.bits .and .u32 a4 31) * 64) % 4294967296)) (((Go.bits .and .u32 a5 31) * 2) % 4294967296))) = some r := h
  clear h
  obtain rfl := Option.some.inj H
  go_enter Try.func56, Try.ntmps56
  go_wp2
  go_ret
  exact ⟨by first | rfl | (simp; done) | (simp [*]; done), by repeat (first | exact Drawn0.refl _ | apply Drawn0.step)⟩

/-! ### ppc64obj_AOP_EXTSWSLI: function 57 -/
def ppc64obj_AOP_EXTSWSLI.f (a0 : Int) (a1 : Int) (a2 : Int) (a3 : Int) : Option (Int) := some (Go.bits .or .u32 (Go.bits .or .u32 (Go.bits .or .u32 (Go.bits .or .u32 a0 (((Go.bits .and .u32 a1 31) * 2097152) % 4294967296)) (((Go.bits .and .u32 a2 31) * 65536) % 4294967296)) (((Go.bits .and .u32 a3 31) * 2048) % 4294967296)) ((((Go.bits .and .u32 a3 32) / 32) * 2) % 4294967296))
set_option maxHeartbeats 8000000 in
set_option maxRecDepth 100000 in
theorem ppc64obj_AOP_EXTSWSLI.calls (a0 : Int) (a1 : Int) (a2 : Int) (a3 : Int) (r : Int) (w : World) (h : ppc64obj_AOP_EXTSWSLI.f a0 a1 a2 a3 = some r) :
    Calls Try.prog 57 #[.int .u32 a0, .int .u32 a1, .int .u32 a2, .int .u32 a3] w fun e w' => e = .returned (.int .u32 r) ∧ Drawn0 w w' := by
  have H : (some (Go.bits .or .u32 (Go.bits .or .u32 (Go.bits .or .u32 (Go.bits .or .u32 a0 (((Go.bits .and .u32 a1 31) * 2097152) % 4294967296)) (((Go.bits .and .u32 a2 31) * 65536) % 4294967296)) (((Go.bits .and .u32 a3 31) * 2048) % 4294967296)) ((((Go.bits .and .u32 a3 32) / 32) * 2) % 4294967296))) = some r := h
  clear h
  obtain rfl := Option.some.inj H
  go_enter Try.func57, Try.ntmps57
  go_wp2
  go_ret
  exact ⟨by first | rfl | (simp; done) | (simp [*]; done), by repeat (first | exact Drawn0.refl _ | apply Drawn0.step)⟩

/-! ### ppc64obj_AOP_ISEL: function 58 -/
def ppc64obj_AOP_ISEL.f (a0 : Int) (a1 : Int) (a2 : Int) (a3 : Int) (a4 : Int) : Option (Int) := some (Go.bits .or .u32 (Go.bits .or .u32 (Go.bits .or .u32 (Go.bits .or .u32 a0 (((Go.bits .and .u32 a1 31) * 2097152) % 4294967296)) (((Go.bits .and .u32 a2 31) * 65536) % 4294967296)) (((Go.bits .and .u32 a3 31) * 2048) % 4294967296)) (((Go.bits .and .u32 a4 31) * 64) % 4294967296))
set_option maxHeartbeats 8000000 in
set_option maxRecDepth 100000 in
theorem ppc64obj_AOP_ISEL.calls (a0 : Int) (a1 : Int) (a2 : Int) (a3 : Int) (a4 : Int) (r : Int) (w : World) (h : ppc64obj_AOP_ISEL.f a0 a1 a2 a3 a4 = some r) :
    Calls Try.prog 58 #[.int .u32 a0, .int .u32 a1, .int .u32 a2, .int .u32 a3, .int .u32 a4] w fun e w' => e = .returned (.int .u32 r) ∧ Drawn0 w w' := by
  have H : (some (Go.bits .or .u32 (Go.bits .or .u32 (Go.bits .or .u32 (Go.bits .or .u32 a0 (((Go.bits .and .u32 a1 31) * 2097152) % 4294967296)) (((Go.bits .and .u32 a2 31) * 65536) % 4294967296)) (((Go.bits .and .u32 a3 31) * 2048) % 4294967296)) (((Go.bits .and .u32 a4 31) * 64) % 4294967296))) = some r := h
  clear h
  obtain rfl := Option.some.inj H
  go_enter Try.func58, Try.ntmps58
  go_wp2
  go_ret
  exact ⟨by first | rfl | (simp; done) | (simp [*]; done), by repeat (first | exact Drawn0.refl _ | apply Drawn0.step)⟩

/-! ### ppc64obj_AOP_MD: function 59 -/
def ppc64obj_AOP_MD.f (a0 : Int) (a1 : Int) (a2 : Int) (a3 : Int) (a4 : Int) : Option (Int) := some (Go.bits .or .u32 (Go.bits .or .u32 (Go.bits .or .u32 (Go.bits .or .u32 (Go.bits .or .u32 (Go.bits .or .u32 a0 (((Go.bits .and .u32 a2 31) * 2097152) % 4294967296)) (((Go.bits .and .u32 a1 31) * 65536) % 4294967296)) (((Go.bits .and .u32 a3 31) * 2048) % 4294967296)) ((((Go.bits .and .u32 a3 32) / 32) * 2) % 4294967296)) (((Go.bits .and .u32 a4 31) * 64) % 4294967296)) ((((Go.bits .and .u32 a4 32) / 32) * 32) % 4294967296))
set_option maxHeartbeats 8000000 in
set_option maxRecDepth 100000 in
theorem ppc64obj_AOP_MD.calls (a0 : Int) (a1 : Int) (a2 : Int) (a3 : Int) (a4 : Int) (r : Int) (w : World) (h : ppc64obj_AOP_MD.f a0 a1 a2 a3 a4 = some r) :
    Calls Try.prog 59 #[.int .u32 a0, .int .u32 a1, .int .u32 a2, .int .u32 a3, .int .u32 a4] w fun e w' => e = .returned (.int .u32 r) ∧ Drawn0 w w' := by
  have H : (some (Go.bits .or .u32 (Go.bits .or .u32 (Go.bits .or .u32 (Go.bits .or .u32 (Go.bits .or .u32 (Go.bits .or .u32 a0 (((Go.bits .and .u32 a2 31) * 2097152) % 4294967296)) (((Go.bits .and .u32 a1 31) * 65536) % 4294967296)) (((Go.bits .and .u32 a3 31) * 2048) % 4294967296)) ((((Go.bits .and .u32 a3 32) / 32) * 2) % 4294967296)) (((Go.bits .and .u32 a4 31) * 64) % 4294967296)) ((((Go.bits .and .u32 a4 32) / 32) * 32) % 4294967296))) = some r := h
  clear h
  obtain rfl := Option.some.inj H
  go_enter Try.func59, Try.ntmps59
  go_wp2
  go_ret
  exact ⟨by first | rfl | (simp; done) | (simp [*]; done), by repeat (first | exact Drawn0.refl _ | apply Drawn0.step)⟩

/-! ### ppc64obj_AOP_MDS: function 60 -/
def ppc64obj_AOP_MDS.f (a0 : Int) (a1 : Int) (a2 : Int) (a3 : Int) (a4 : Int) : Option (Int) := (ppc64obj_AOP_MD.f a0 a1 a2 (Go.bits .and .u32 a3 31) a4).bind fun t215 => (some t215)
set_option maxHeartbeats 8000000 in
set_option maxRecDepth 100000 in
theorem ppc64obj_AOP_MDS.calls (a0 : Int) (a1 : Int) (a2 : Int) (a3 : Int) (a4 : Int) (r : Int) (w : World) (h : ppc64obj_AOP_MDS.f a0 a1 a2 a3 a4 = some r) :
    Calls Try.prog 60 #[.int .u32 a0, .int .u32 a1, .int .u32 a2, .int .u32 a3, .int .u32 a4] w fun e w' => e = .returned (.int .u32 r) ∧ Drawn0 w w' := by
  have H : ((ppc64obj_AOP_MD.f a0 a1 a2 (Go.bits .and .u32 a3 31) a4).bind fun t215 => (some t215)) = some r := h
  clear h
  replace H := Option.bind_eq_some_iff.mp H
  obtain ⟨t215, A60, H⟩ := H
  replace H : (some t215) = some r := H
  have A6 := Aside0.mk A60
  clear A60
  obtain rfl := Option.some.inj H
  go_enter Try.func60, Try.ntmps60
  go_wp2_with (first | ((with_reducible refine gate_callee (f := 59) rfl ?_); refine goesL_ (some 17) rfl rfl Try.func59 (by kernel_rfl) rfl #[.int .u32 a0, .int .u32 a1, .int .u32 a2, .int .u32 (Go.bits .and .u32 a3 31), .int .u32 a4] rfl (by (try simp only [List.map_toArray, List.map_cons, List.map_nil]); first | done | rfl | (simp only [List.length_drop, List.length_take]; rfl)) ?_; (with_reducible refine (ppc64obj_AOP_MD.calls a0 a1 a2 (Go.bits .and .u32 a3 31) a4 t215 _ A6.out).mono ?_); rintro e w' ⟨rfl, ⟨nd, rfl⟩⟩; refine ⟨_, rfl, ?_⟩))
  go_ret
  exact ⟨by first | rfl | (simp; done) | (simp [*]; done), by repeat (first | exact Drawn0.refl _ | apply Drawn0.step)⟩

/-! ### ppc64obj_AOP_PFX_00_8LS: function 61 -/
def ppc64obj_AOP_PFX_00_8LS.f (a0 : Int) (a1 : Int) : Option (Int) := some (Go.bits .or .u32 (Go.bits .or .u32 67108864 (((Go.bits .and .u32 a0 1) * 1048576) % 4294967296)) (Go.bits .and .u32 a1 262143))
set_option maxHeartbeats 8000000 in
set_option maxRecDepth 100000 in
theorem ppc64obj_AOP_PFX_00_8LS.calls (a0 : Int) (a1 : Int) (r : Int) (w : World) (h : ppc64obj_AOP_PFX_00_8LS.f a0 a1 = some r) :
    Calls Try.prog 61 #[.int .u32 a0, .int .u32 a1] w fun e w' => e = .returned (.int .u32 r) ∧ Drawn0 w w' := by
  have H : (some (Go.bits .or .u32 (Go.bits .or .u32 67108864 (((Go.bits .and .u32 a0 1) * 1048576) % 4294967296)) (Go.bits .and .u32 a1 262143))) = some r := h
  clear h
  obtain rfl := Option.some.inj H
  go_enter Try.func61, Try.ntmps61
  go_wp2
  go_ret
  exact ⟨by first | rfl | (simp; done) | (simp [*]; done), by repeat (first | exact Drawn0.refl _ | apply Drawn0.step)⟩

/-! ### ppc64obj_AOP_PFX_10_MLS: function 62 -/
def ppc64obj_AOP_PFX_10_MLS.f (a0 : Int) (a1 : Int) : Option (Int) := some (Go.bits .or .u32 (Go.bits .or .u32 100663296 (((Go.bits .and .u32 a0 1) * 1048576) % 4294967296)) (Go.bits .and .u32 a1 262143))
set_option maxHeartbeats 8000000 in
set_option maxRecDepth 100000 in
theorem ppc64obj_AOP_PFX_10_MLS.calls (a0 : Int) (a1 : Int) (r : Int) (w : World) (h : ppc64obj_AOP_PFX_10_MLS.f a0 a1 = some r) :
    Calls Try.prog 62 #[.int .u32 a0, .int .u32 a1] w fun e w' => e = .returned (.int .u32 r) ∧ Drawn0 w w' := by
  have H : (some (Go.bits .or .u32 (Go.bits .or .u32 100663296 (((Go.bits .and .u32 a0 1) * 1048576) % 4294967296)) (Go.bits .and .u32 a1 262143))) = some r := h
  clear h
  obtain rfl := Option.some.inj H
  go_enter Try.func62, Try.ntmps62
  go_wp2
  go_ret
  exact ⟨by first | rfl | (simp; done) | (simp [*]; done), by repeat (first | exact Drawn0.refl _ | apply Drawn0.step)⟩

end Go.Proofs.Ytnfkdmoblncclaa.X
