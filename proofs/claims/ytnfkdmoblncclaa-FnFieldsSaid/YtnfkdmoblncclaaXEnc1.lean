/- The call of an encoder, for each form of this part: the numbers are cut to 32 bits and handed on. -/
import Derived.Test.YtnfkdmoblncclaaXPre
import Derived.Test.YtnfkdmoblncclaaXLeaf
namespace Go.Proofs.Ytnfkdmoblncclaa.X
open Go.RowKit Go.Proofs.YtnfkdmoblncclaaW.PrintWords Go.Proofs.YtnfkdmoblncclaaW.PrintLast Go.Proofs.YtnfkdmoblncclaaW.PrintMore
attribute [local go_sem] max2_int min2_int max_two min_two max_three min_three max_four min_four   -- for this text's walks alone
set_option linter.unusedVariables false
set_option linter.unusedSimpArgs false

set_option maxHeartbeats 8000000 in
set_option maxRecDepth 100000 in
theorem encoded_AOP_DQ (A1 : Option Addr) (c1 : Nat) (l1 : List Int) (r : Int) (w : World) (hr1 : Kd.C (Kd.int .i64) w A1 l1.length l1) (hn : l1.length = 4) (h : ppc64obj_AOP_DQ.f ((rd l1 0) % 4294967296) ((rd l1 1) % 4294967296) ((rd l1 2) % 4294967296) ((rd l1 3) % 4294967296) = some r) :
    Calls Try.prog 22 #[.string (⟨#[65, 79, 80, 95, 68, 81]⟩ : ByteArray), .slice A1 l1.length c1] w fun e w' => e = .returned (.int .u32 r) ∧ Drawn0 w w' := by
  have A9 := Aside0.mk h
  clear h
  have HR1 := Aside0.mk hr1
  clear hr1
  have p0 : 0 ≤ (0 : Int) := by omega
  have q0 : 0 < (l1.length : Int) := by omega
  obtain ⟨ad0, e0, hx0⟩ := Kd.at_int HR1.out 0 p0 q0
  cases e0
  (try simp only [show (0 : Int).toNat = 0 from rfl, Nat.reduceMul, Nat.reduceEqDiff, Go.Addr.add, ↓reduceIte] at hx0)
  (try rw [Addr.add_zero'] at hx0)
  have i0 : (0 < l1.length) = True := eq_true (by omega)
  have j0 : (0 < (l1.length : Int)) = True := eq_true (by omega)
  clear p0 q0
  have p1 : 0 ≤ (1 : Int) := by omega
  have q1 : 1 < (l1.length : Int) := by omega
  obtain ⟨ad1, e1, hx1⟩ := Kd.at_int HR1.out 1 p1 q1
  obtain rfl : ad0 = ad1 := (by injection e1)
  (try simp only [show (1 : Int).toNat = 1 from rfl, Nat.reduceMul, Nat.reduceEqDiff, Go.Addr.add, ↓reduceIte] at hx1)
  have i1 : (1 < l1.length) = True := eq_true (by omega)
  have j1 : (1 < (l1.length : Int)) = True := eq_true (by omega)
  clear p1 q1
  clear e1
  have p2 : 0 ≤ (2 : Int) := by omega
  have q2 : 2 < (l1.length : Int) := by omega
  obtain ⟨ad2, e2, hx2⟩ := Kd.at_int HR1.out 2 p2 q2
  obtain rfl : ad0 = ad2 := (by injection e2)
  (try simp only [show (2 : Int).toNat = 2 from rfl, Nat.reduceMul, Nat.reduceEqDiff, Go.Addr.add, ↓reduceIte] at hx2)
  have i2 : (2 < l1.length) = True := eq_true (by omega)
  have j2 : (2 < (l1.length : Int)) = True := eq_true (by omega)
  clear p2 q2
  clear e2
  have p3 : 0 ≤ (3 : Int) := by omega
  have q3 : 3 < (l1.length : Int) := by omega
  obtain ⟨ad3, e3, hx3⟩ := Kd.at_int HR1.out 3 p3 q3
  obtain rfl : ad0 = ad3 := (by injection e3)
  (try simp only [show (3 : Int).toNat = 3 from rfl, Nat.reduceMul, Nat.reduceEqDiff, Go.Addr.add, ↓reduceIte] at hx3)
  have i3 : (3 < l1.length) = True := eq_true (by omega)
  have j3 : (3 < (l1.length : Int)) = True := eq_true (by omega)
  clear p3 q3
  clear e3
  clear hn
  go_enter Try.func22, Try.ntmps22
  go_wp2_with fail
  go_quiet (first | (go_at_call 25; (with_reducible refine (impl_u.calls _ _ _ rfl).mono ?_); rintro e w' ⟨rfl, ⟨nd, rfl⟩⟩; (try first | exact ⟨rfl, _, World.drewN_drewN _ _ _⟩ | exact ⟨rfl, _, Eq.trans (World.drewN_drewN _ _ _) (congrArg (World.drewN _) (Nat.add_assoc _ _ _))⟩)) | (go_at_call 48; (with_reducible refine (ppc64obj_AOP_DQ.calls _ _ _ _ r _ A9.out).mono ?_); rintro e w' ⟨rfl, ⟨nd, rfl⟩⟩; (try first | exact ⟨rfl, _, World.drewN_drewN _ _ _⟩ | exact ⟨rfl, _, Eq.trans (World.drewN_drewN _ _ _) (congrArg (World.drewN _) (Nat.add_assoc _ _ _))⟩)))
  go_wp2_with fail
  go_ret
  exact ⟨by first | rfl | (simp; done) | (simp [*]; done), by repeat (first | exact Drawn0.refl _ | apply Drawn0.step)⟩

set_option maxHeartbeats 8000000 in
set_option maxRecDepth 100000 in
theorem encoded_AOP_Z23I (A1 : Option Addr) (c1 : Nat) (l1 : List Int) (r : Int) (w : World) (hr1 : Kd.C (Kd.int .i64) w A1 l1.length l1) (hn : l1.length = 5) (h : ppc64obj_AOP_Z23I.f ((rd l1 0) % 4294967296) ((rd l1 1) % 4294967296) ((rd l1 2) % 4294967296) ((rd l1 3) % 4294967296) ((rd l1 4) % 4294967296) = some r) :
    Calls Try.prog 22 #[.string (⟨#[65, 79, 80, 95, 90, 50, 51, 73]⟩ : ByteArray), .slice A1 l1.length c1] w fun e w' => e = .returned (.int .u32 r) ∧ Drawn0 w w' := by
  have A9 := Aside0.mk h
  clear h
  have HR1 := Aside0.mk hr1
  clear hr1
  have p0 : 0 ≤ (0 : Int) := by omega
  have q0 : 0 < (l1.length : Int) := by omega
  obtain ⟨ad0, e0, hx0⟩ := Kd.at_int HR1.out 0 p0 q0
  cases e0
  (try simp only [show (0 : Int).toNat = 0 from rfl, Nat.reduceMul, Nat.reduceEqDiff, Go.Addr.add, ↓reduceIte] at hx0)
  (try rw [Addr.add_zero'] at hx0)
  have i0 : (0 < l1.length) = True := eq_true (by omega)
  have j0 : (0 < (l1.length : Int)) = True := eq_true (by omega)
  clear p0 q0
  have p1 : 0 ≤ (1 : Int) := by omega
  have q1 : 1 < (l1.length : Int) := by omega
  obtain ⟨ad1, e1, hx1⟩ := Kd.at_int HR1.out 1 p1 q1
  obtain rfl : ad0 = ad1 := (by injection e1)
  (try simp only [show (1 : Int).toNat = 1 from rfl, Nat.reduceMul, Nat.reduceEqDiff, Go.Addr.add, ↓reduceIte] at hx1)
  have i1 : (1 < l1.length) = True := eq_true (by omega)
  have j1 : (1 < (l1.length : Int)) = True := eq_true (by omega)
  clear p1 q1
  clear e1
  have p2 : 0 ≤ (2 : Int) := by omega
  have q2 : 2 < (l1.length : Int) := by omega
  obtain ⟨ad2, e2, hx2⟩ := Kd.at_int HR1.out 2 p2 q2
  obtain rfl : ad0 = ad2 := (by injection e2)
  (try simp only [show (2 : Int).toNat = 2 from rfl, Nat.reduceMul, Nat.reduceEqDiff, Go.Addr.add, ↓reduceIte] at hx2)
  have i2 : (2 < l1.length) = True := eq_true (by omega)
  have j2 : (2 < (l1.length : Int)) = True := eq_true (by omega)
  clear p2 q2
  clear e2
  have p3 : 0 ≤ (3 : Int) := by omega
  have q3 : 3 < (l1.length : Int) := by omega
  obtain ⟨ad3, e3, hx3⟩ := Kd.at_int HR1.out 3 p3 q3
  obtain rfl : ad0 = ad3 := (by injection e3)
  (try simp only [show (3 : Int).toNat = 3 from rfl, Nat.reduceMul, Nat.reduceEqDiff, Go.Addr.add, ↓reduceIte] at hx3)
  have i3 : (3 < l1.length) = True := eq_true (by omega)
  have j3 : (3 < (l1.length : Int)) = True := eq_true (by omega)
  clear p3 q3
  clear e3
  have p4 : 0 ≤ (4 : Int) := by omega
  have q4 : 4 < (l1.length : Int) := by omega
  obtain ⟨ad4, e4, hx4⟩ := Kd.at_int HR1.out 4 p4 q4
  obtain rfl : ad0 = ad4 := (by injection e4)
  (try simp only [show (4 : Int).toNat = 4 from rfl, Nat.reduceMul, Nat.reduceEqDiff, Go.Addr.add, ↓reduceIte] at hx4)
  have i4 : (4 < l1.length) = True := eq_true (by omega)
  have j4 : (4 < (l1.length : Int)) = True := eq_true (by omega)
  clear p4 q4
  clear e4
  clear hn
  go_enter Try.func22, Try.ntmps22
  go_wp2_with fail
  go_quiet (first | (go_at_call 25; (with_reducible refine (impl_u.calls _ _ _ rfl).mono ?_); rintro e w' ⟨rfl, ⟨nd, rfl⟩⟩; (try first | exact ⟨rfl, _, World.drewN_drewN _ _ _⟩ | exact ⟨rfl, _, Eq.trans (World.drewN_drewN _ _ _) (congrArg (World.drewN _) (Nat.add_assoc _ _ _))⟩)) | (go_at_call 49; (with_reducible refine (ppc64obj_AOP_Z23I.calls _ _ _ _ _ r _ A9.out).mono ?_); rintro e w' ⟨rfl, ⟨nd, rfl⟩⟩; (try first | exact ⟨rfl, _, World.drewN_drewN _ _ _⟩ | exact ⟨rfl, _, Eq.trans (World.drewN_drewN _ _ _) (congrArg (World.drewN _) (Nat.add_assoc _ _ _))⟩)))
  go_wp2_with fail
  go_ret
  exact ⟨by first | rfl | (simp; done) | (simp [*]; done), by repeat (first | exact Drawn0.refl _ | apply Drawn0.step)⟩

set_option maxHeartbeats 8000000 in
set_option maxRecDepth 100000 in
theorem encoded_AOP_RRRI (A1 : Option Addr) (c1 : Nat) (l1 : List Int) (r : Int) (w : World) (hr1 : Kd.C (Kd.int .i64) w A1 l1.length l1) (hn : l1.length = 5) (h : ppc64obj_AOP_RRRI.f ((rd l1 0) % 4294967296) ((rd l1 1) % 4294967296) ((rd l1 2) % 4294967296) ((rd l1 3) % 4294967296) ((rd l1 4) % 4294967296) = some r) :
    Calls Try.prog 22 #[.string (⟨#[65, 79, 80, 95, 82, 82, 82, 73]⟩ : ByteArray), .slice A1 l1.length c1] w fun e w' => e = .returned (.int .u32 r) ∧ Drawn0 w w' := by
  have A9 := Aside0.mk h
  clear h
  have HR1 := Aside0.mk hr1
  clear hr1
  have p0 : 0 ≤ (0 : Int) := by omega
  have q0 : 0 < (l1.length : Int) := by omega
  obtain ⟨ad0, e0, hx0⟩ := Kd.at_int HR1.out 0 p0 q0
  cases e0
  (try simp only [show (0 : Int).toNat = 0 from rfl, Nat.reduceMul, Nat.reduceEqDiff, Go.Addr.add, ↓reduceIte] at hx0)
  (try rw [Addr.add_zero'] at hx0)
  have i0 : (0 < l1.length) = True := eq_true (by omega)
  have j0 : (0 < (l1.length : Int)) = True := eq_true (by omega)
  clear p0 q0
  have p1 : 0 ≤ (1 : Int) := by omega
  have q1 : 1 < (l1.length : Int) := by omega
  obtain ⟨ad1, e1, hx1⟩ := Kd.at_int HR1.out 1 p1 q1
  obtain rfl : ad0 = ad1 := (by injection e1)
  (try simp only [show (1 : Int).toNat = 1 from rfl, Nat.reduceMul, Nat.reduceEqDiff, Go.Addr.add, ↓reduceIte] at hx1)
  have i1 : (1 < l1.length) = True := eq_true (by omega)
  have j1 : (1 < (l1.length : Int)) = True := eq_true (by omega)
  clear p1 q1
  clear e1
  have p2 : 0 ≤ (2 : Int) := by omega
  have q2 : 2 < (l1.length : Int) := by omega
  obtain ⟨ad2, e2, hx2⟩ := Kd.at_int HR1.out 2 p2 q2
  obtain rfl : ad0 = ad2 := (by injection e2)
  (try simp only [show (2 : Int).toNat = 2 from rfl, Nat.reduceMul, Nat.reduceEqDiff, Go.Addr.add, ↓reduceIte] at hx2)
  have i2 : (2 < l1.length) = True := eq_true (by omega)
  have j2 : (2 < (l1.length : Int)) = True := eq_true (by omega)
  clear p2 q2
  clear e2
  have p3 : 0 ≤ (3 : Int) := by omega
  have q3 : 3 < (l1.length : Int) := by omega
  obtain ⟨ad3, e3, hx3⟩ := Kd.at_int HR1.out 3 p3 q3
  obtain rfl : ad0 = ad3 := (by injection e3)
  (try simp only [show (3 : Int).toNat = 3 from rfl, Nat.reduceMul, Nat.reduceEqDiff, Go.Addr.add, ↓reduceIte] at hx3)
  have i3 : (3 < l1.length) = True := eq_true (by omega)
  have j3 : (3 < (l1.length : Int)) = True := eq_true (by omega)
  clear p3 q3
  clear e3
  have p4 : 0 ≤ (4 : Int) := by omega
  have q4 : 4 < (l1.length : Int) := by omega
  obtain ⟨ad4, e4, hx4⟩ := Kd.at_int HR1.out 4 p4 q4
  obtain rfl : ad0 = ad4 := (by injection e4)
  (try simp only [show (4 : Int).toNat = 4 from rfl, Nat.reduceMul, Nat.reduceEqDiff, Go.Addr.add, ↓reduceIte] at hx4)
  have i4 : (4 < l1.length) = True := eq_true (by omega)
  have j4 : (4 < (l1.length : Int)) = True := eq_true (by omega)
  clear p4 q4
  clear e4
  clear hn
  go_enter Try.func22, Try.ntmps22
  go_wp2_with fail
  go_quiet (first | (go_at_call 25; (with_reducible refine (impl_u.calls _ _ _ rfl).mono ?_); rintro e w' ⟨rfl, ⟨nd, rfl⟩⟩; (try first | exact ⟨rfl, _, World.drewN_drewN _ _ _⟩ | exact ⟨rfl, _, Eq.trans (World.drewN_drewN _ _ _) (congrArg (World.drewN _) (Nat.add_assoc _ _ _))⟩)) | (go_at_call 50; (with_reducible refine (ppc64obj_AOP_RRRI.calls _ _ _ _ _ r _ A9.out).mono ?_); rintro e w' ⟨rfl, ⟨nd, rfl⟩⟩; (try first | exact ⟨rfl, _, World.drewN_drewN _ _ _⟩ | exact ⟨rfl, _, Eq.trans (World.drewN_drewN _ _ _) (congrArg (World.drewN _) (Nat.add_assoc _ _ _))⟩)))
  go_wp2_with fail
  go_ret
  exact ⟨by first | rfl | (simp; done) | (simp [*]; done), by repeat (first | exact Drawn0.refl _ | apply Drawn0.step)⟩

set_option maxHeartbeats 8000000 in
set_option maxRecDepth 100000 in
theorem encoded_LOP_RRR (A1 : Option Addr) (c1 : Nat) (l1 : List Int) (r : Int) (w : World) (hr1 : Kd.C (Kd.int .i64) w A1 l1.length l1) (hn : l1.length = 4) (h : ppc64obj_LOP_RRR.f ((rd l1 0) % 4294967296) ((rd l1 1) % 4294967296) ((rd l1 2) % 4294967296) ((rd l1 3) % 4294967296) = some r) :
    Calls Try.prog 22 #[.string (⟨#[76, 79, 80, 95, 82, 82, 82]⟩ : ByteArray), .slice A1 l1.length c1] w fun e w' => e = .returned (.int .u32 r) ∧ Drawn0 w w' := by
  have A9 := Aside0.mk h
  clear h
  have HR1 := Aside0.mk hr1
  clear hr1
  have p0 : 0 ≤ (0 : Int) := by omega
  have q0 : 0 < (l1.length : Int) := by omega
  obtain ⟨ad0, e0, hx0⟩ := Kd.at_int HR1.out 0 p0 q0
  cases e0
  (try simp only [show (0 : Int).toNat = 0 from rfl, Nat.reduceMul, Nat.reduceEqDiff, Go.Addr.add, ↓reduceIte] at hx0)
  (try rw [Addr.add_zero'] at hx0)
  have i0 : (0 < l1.length) = True := eq_true (by omega)
  have j0 : (0 < (l1.length : Int)) = True := eq_true (by omega)
  clear p0 q0
  have p1 : 0 ≤ (1 : Int) := by omega
  have q1 : 1 < (l1.length : Int) := by omega
  obtain ⟨ad1, e1, hx1⟩ := Kd.at_int HR1.out 1 p1 q1
  obtain rfl : ad0 = ad1 := (by injection e1)
  (try simp only [show (1 : Int).toNat = 1 from rfl, Nat.reduceMul, Nat.reduceEqDiff, Go.Addr.add, ↓reduceIte] at hx1)
  have i1 : (1 < l1.length) = True := eq_true (by omega)
  have j1 : (1 < (l1.length : Int)) = True := eq_true (by omega)
  clear p1 q1
  clear e1
  have p2 : 0 ≤ (2 : Int) := by omega
  have q2 : 2 < (l1.length : Int) := by omega
  obtain ⟨ad2, e2, hx2⟩ := Kd.at_int HR1.out 2 p2 q2
  obtain rfl : ad0 = ad2 := (by injection e2)
  (try simp only [show (2 : Int).toNat = 2 from rfl, Nat.reduceMul, Nat.reduceEqDiff, Go.Addr.add, ↓reduceIte] at hx2)
  have i2 : (2 < l1.length) = True := eq_true (by omega)
  have j2 : (2 < (l1.length : Int)) = True := eq_true (by omega)
  clear p2 q2
  clear e2
  have p3 : 0 ≤ (3 : Int) := by omega
  have q3 : 3 < (l1.length : Int) := by omega
  obtain ⟨ad3, e3, hx3⟩ := Kd.at_int HR1.out 3 p3 q3
  obtain rfl : ad0 = ad3 := (by injection e3)
  (try simp only [show (3 : Int).toNat = 3 from rfl, Nat.reduceMul, Nat.reduceEqDiff, Go.Addr.add, ↓reduceIte] at hx3)
  have i3 : (3 < l1.length) = True := eq_true (by omega)
  have j3 : (3 < (l1.length : Int)) = True := eq_true (by omega)
  clear p3 q3
  clear e3
  clear hn
  go_enter Try.func22, Try.ntmps22
  go_wp2_with fail
  go_quiet (first | (go_at_call 25; (with_reducible refine (impl_u.calls _ _ _ rfl).mono ?_); rintro e w' ⟨rfl, ⟨nd, rfl⟩⟩; (try first | exact ⟨rfl, _, World.drewN_drewN _ _ _⟩ | exact ⟨rfl, _, Eq.trans (World.drewN_drewN _ _ _) (congrArg (World.drewN _) (Nat.add_assoc _ _ _))⟩)) | (go_at_call 51; (with_reducible refine (ppc64obj_LOP_RRR.calls _ _ _ _ r _ A9.out).mono ?_); rintro e w' ⟨rfl, ⟨nd, rfl⟩⟩; (try first | exact ⟨rfl, _, World.drewN_drewN _ _ _⟩ | exact ⟨rfl, _, Eq.trans (World.drewN_drewN _ _ _) (congrArg (World.drewN _) (Nat.add_assoc _ _ _))⟩)))
  go_wp2_with fail
  go_ret
  exact ⟨by first | rfl | (simp; done) | (simp [*]; done), by repeat (first | exact Drawn0.refl _ | apply Drawn0.step)⟩

set_option maxHeartbeats 8000000 in
set_option maxRecDepth 100000 in
theorem encoded_LOP_IRR (A1 : Option Addr) (c1 : Nat) (l1 : List Int) (r : Int) (w : World) (hr1 : Kd.C (Kd.int .i64) w A1 l1.length l1) (hn : l1.length = 4) (h : ppc64obj_LOP_IRR.f ((rd l1 0) % 4294967296) ((rd l1 1) % 4294967296) ((rd l1 2) % 4294967296) ((rd l1 3) % 4294967296) = some r) :
    Calls Try.prog 22 #[.string (⟨#[76, 79, 80, 95, 73, 82, 82]⟩ : ByteArray), .slice A1 l1.length c1] w fun e w' => e = .returned (.int .u32 r) ∧ Drawn0 w w' := by
  have A9 := Aside0.mk h
  clear h
  have HR1 := Aside0.mk hr1
  clear hr1
  have p0 : 0 ≤ (0 : Int) := by omega
  have q0 : 0 < (l1.length : Int) := by omega
  obtain ⟨ad0, e0, hx0⟩ := Kd.at_int HR1.out 0 p0 q0
  cases e0
  (try simp only [show (0 : Int).toNat = 0 from rfl, Nat.reduceMul, Nat.reduceEqDiff, Go.Addr.add, ↓reduceIte] at hx0)
  (try rw [Addr.add_zero'] at hx0)
  have i0 : (0 < l1.length) = True := eq_true (by omega)
  have j0 : (0 < (l1.length : Int)) = True := eq_true (by omega)
  clear p0 q0
  have p1 : 0 ≤ (1 : Int) := by omega
  have q1 : 1 < (l1.length : Int) := by omega
  obtain ⟨ad1, e1, hx1⟩ := Kd.at_int HR1.out 1 p1 q1
  obtain rfl : ad0 = ad1 := (by injection e1)
  (try simp only [show (1 : Int).toNat = 1 from rfl, Nat.reduceMul, Nat.reduceEqDiff, Go.Addr.add, ↓reduceIte] at hx1)
  have i1 : (1 < l1.length) = True := eq_true (by omega)
  have j1 : (1 < (l1.length : Int)) = True := eq_true (by omega)
  clear p1 q1
  clear e1
  have p2 : 0 ≤ (2 : Int) := by omega
  have q2 : 2 < (l1.length : Int) := by omega
  obtain ⟨ad2, e2, hx2⟩ := Kd.at_int HR1.out 2 p2 q2
  obtain rfl : ad0 = ad2 := (by injection e2)
  (try simp only [show (2 : Int).toNat = 2 from rfl, Nat.reduceMul, Nat.reduceEqDiff, Go.Addr.add, ↓reduceIte] at hx2)
  have i2 : (2 < l1.length) = True := eq_true (by omega)
  have j2 : (2 < (l1.length : Int)) = True := eq_true (by omega)
  clear p2 q2
  clear e2
  have p3 : 0 ≤ (3 : Int) := by omega
  have q3 : 3 < (l1.length : Int) := by omega
  obtain ⟨ad3, e3, hx3⟩ := Kd.at_int HR1.out 3 p3 q3
  obtain rfl : ad0 = ad3 := (by injection e3)
  (try simp only [show (3 : Int).toNat = 3 from rfl, Nat.reduceMul, Nat.reduceEqDiff, Go.Addr.add, ↓reduceIte] at hx3)
  have i3 : (3 < l1.length) = True := eq_true (by omega)
  have j3 : (3 < (l1.length : Int)) = True := eq_true (by omega)
  clear p3 q3
  clear e3
  clear hn
  go_enter Try.func22, Try.ntmps22
  go_wp2_with fail
  go_quiet (first | (go_at_call 25; (with_reducible refine (impl_u.calls _ _ _ rfl).mono ?_); rintro e w' ⟨rfl, ⟨nd, rfl⟩⟩; (try first | exact ⟨rfl, _, World.drewN_drewN _ _ _⟩ | exact ⟨rfl, _, Eq.trans (World.drewN_drewN _ _ _) (congrArg (World.drewN _) (Nat.add_assoc _ _ _))⟩)) | (go_at_call 52; (with_reducible refine (ppc64obj_LOP_IRR.calls _ _ _ _ r _ A9.out).mono ?_); rintro e w' ⟨rfl, ⟨nd, rfl⟩⟩; (try first | exact ⟨rfl, _, World.drewN_drewN _ _ _⟩ | exact ⟨rfl, _, Eq.trans (World.drewN_drewN _ _ _) (congrArg (World.drewN _) (Nat.add_assoc _ _ _))⟩)))
  go_wp2_with fail
  go_ret
  exact ⟨by first | rfl | (simp; done) | (simp [*]; done), by repeat (first | exact Drawn0.refl _ | apply Drawn0.step)⟩

set_option maxHeartbeats 8000000 in
set_option maxRecDepth 100000 in
theorem encoded_OP_BR (A1 : Option Addr) (c1 : Nat) (l1 : List Int) (r : Int) (w : World) (hr1 : Kd.C (Kd.int .i64) w A1 l1.length l1) (hn : l1.length = 3) (h : ppc64obj_OP_BR.f ((rd l1 0) % 4294967296) ((rd l1 1) % 4294967296) ((rd l1 2) % 4294967296) = some r) :
    Calls Try.prog 22 #[.string (⟨#[79, 80, 95, 66, 82]⟩ : ByteArray), .slice A1 l1.length c1] w fun e w' => e = .returned (.int .u32 r) ∧ Drawn0 w w' := by
  have A9 := Aside0.mk h
  clear h
  have HR1 := Aside0.mk hr1
  clear hr1
  have p0 : 0 ≤ (0 : Int) := by omega
  have q0 : 0 < (l1.length : Int) := by omega
  obtain ⟨ad0, e0, hx0⟩ := Kd.at_int HR1.out 0 p0 q0
  cases e0
  (try simp only [show (0 : Int).toNat = 0 from rfl, Nat.reduceMul, Nat.reduceEqDiff, Go.Addr.add, ↓reduceIte] at hx0)
  (try rw [Addr.add_zero'] at hx0)
  have i0 : (0 < l1.length) = True := eq_true (by omega)
  have j0 : (0 < (l1.length : Int)) = True := eq_true (by omega)
  clear p0 q0
  have p1 : 0 ≤ (1 : Int) := by omega
  have q1 : 1 < (l1.length : Int) := by omega
  obtain ⟨ad1, e1, hx1⟩ := Kd.at_int HR1.out 1 p1 q1
  obtain rfl : ad0 = ad1 := (by injection e1)
  (try simp only [show (1 : Int).toNat = 1 from rfl, Nat.reduceMul, Nat.reduceEqDiff, Go.Addr.add, ↓reduceIte] at hx1)
  have i1 : (1 < l1.length) = True := eq_true (by omega)
  have j1 : (1 < (l1.length : Int)) = True := eq_true (by omega)
  clear p1 q1
  clear e1
  have p2 : 0 ≤ (2 : Int) := by omega
  have q2 : 2 < (l1.length : Int) := by omega
  obtain ⟨ad2, e2, hx2⟩ := Kd.at_int HR1.out 2 p2 q2
  obtain rfl : ad0 = ad2 := (by injection e2)
  (try simp only [show (2 : Int).toNat = 2 from rfl, Nat.reduceMul, Nat.reduceEqDiff, Go.Addr.add, ↓reduceIte] at hx2)
  have i2 : (2 < l1.length) = True := eq_true (by omega)
  have j2 : (2 < (l1.length : Int)) = True := eq_true (by omega)
  clear p2 q2
  clear e2
  clear hn
  go_enter Try.func22, Try.ntmps22
  go_wp2_with fail
  go_quiet (first | (go_at_call 25; (with_reducible refine (impl_u.calls _ _ _ rfl).mono ?_); rintro e w' ⟨rfl, ⟨nd, rfl⟩⟩; (try first | exact ⟨rfl, _, World.drewN_drewN _ _ _⟩ | exact ⟨rfl, _, Eq.trans (World.drewN_drewN _ _ _) (congrArg (World.drewN _) (Nat.add_assoc _ _ _))⟩)) | (go_at_call 53; (with_reducible refine (ppc64obj_OP_BR.calls _ _ _ r _ A9.out).mono ?_); rintro e w' ⟨rfl, ⟨nd, rfl⟩⟩; (try first | exact ⟨rfl, _, World.drewN_drewN _ _ _⟩ | exact ⟨rfl, _, Eq.trans (World.drewN_drewN _ _ _) (congrArg (World.drewN _) (Nat.add_assoc _ _ _))⟩)))
  go_wp2_with fail
  go_ret
  exact ⟨by first | rfl | (simp; done) | (simp [*]; done), by repeat (first | exact Drawn0.refl _ | apply Drawn0.step)⟩

set_option maxHeartbeats 8000000 in
set_option maxRecDepth 100000 in
theorem encoded_OP_BC (A1 : Option Addr) (c1 : Nat) (l1 : List Int) (r : Int) (w : World) (hr1 : Kd.C (Kd.int .i64) w A1 l1.length l1) (hn : l1.length = 5) (h : ppc64obj_OP_BC.f ((rd l1 0) % 4294967296) ((rd l1 1) % 4294967296) ((rd l1 2) % 4294967296) ((rd l1 3) % 4294967296) ((rd l1 4) % 4294967296) = some r) :
    Calls Try.prog 22 #[.string (⟨#[79, 80, 95, 66, 67]⟩ : ByteArray), .slice A1 l1.length c1] w fun e w' => e = .returned (.int .u32 r) ∧ Drawn0 w w' := by
  have A9 := Aside0.mk h
  clear h
  have HR1 := Aside0.mk hr1
  clear hr1
  have p0 : 0 ≤ (0 : Int) := by omega
  have q0 : 0 < (l1.length : Int) := by omega
  obtain ⟨ad0, e0, hx0⟩ := Kd.at_int HR1.out 0 p0 q0
  cases e0
  (try simp only [show (0 : Int).toNat = 0 from rfl, Nat.reduceMul, Nat.reduceEqDiff, Go.Addr.add, ↓reduceIte] at hx0)
  (try rw [Addr.add_zero'] at hx0)
  have i0 : (0 < l1.length) = True := eq_true (by omega)
  have j0 : (0 < (l1.length : Int)) = True := eq_true (by omega)
  clear p0 q0
  have p1 : 0 ≤ (1 : Int) := by omega
  have q1 : 1 < (l1.length : Int) := by omega
  obtain ⟨ad1, e1, hx1⟩ := Kd.at_int HR1.out 1 p1 q1
  obtain rfl : ad0 = ad1 := (by injection e1)
  (try simp only [show (1 : Int).toNat = 1 from rfl, Nat.reduceMul, Nat.reduceEqDiff, Go.Addr.add, ↓reduceIte] at hx1)
  have i1 : (1 < l1.length) = True := eq_true (by omega)
  have j1 : (1 < (l1.length : Int)) = True := eq_true (by omega)
  clear p1 q1
  clear e1
  have p2 : 0 ≤ (2 : Int) := by omega
  have q2 : 2 < (l1.length : Int) := by omega
  obtain ⟨ad2, e2, hx2⟩ := Kd.at_int HR1.out 2 p2 q2
  obtain rfl : ad0 = ad2 := (by injection e2)
  (try simp only [show (2 : Int).toNat = 2 from rfl, Nat.reduceMul, Nat.reduceEqDiff, Go.Addr.add, ↓reduceIte] at hx2)
  have i2 : (2 < l1.length) = True := eq_true (by omega)
  have j2 : (2 < (l1.length : Int)) = True := eq_true (by omega)
  clear p2 q2
  clear e2
  have p3 : 0 ≤ (3 : Int) := by omega
  have q3 : 3 < (l1.length : Int) := by omega
  obtain ⟨ad3, e3, hx3⟩ := Kd.at_int HR1.out 3 p3 q3
  obtain rfl : ad0 = ad3 := (by injection e3)
  (try simp only [show (3 : Int).toNat = 3 from rfl, Nat.reduceMul, Nat.reduceEqDiff, Go.Addr.add, ↓reduceIte] at hx3)
  have i3 : (3 < l1.length) = True := eq_true (by omega)
  have j3 : (3 < (l1.length : Int)) = True := eq_true (by omega)
  clear p3 q3
  clear e3
  have p4 : 0 ≤ (4 : Int) := by omega
  have q4 : 4 < (l1.length : Int) := by omega
  obtain ⟨ad4, e4, hx4⟩ := Kd.at_int HR1.out 4 p4 q4
  obtain rfl : ad0 = ad4 := (by injection e4)
  (try simp only [show (4 : Int).toNat = 4 from rfl, Nat.reduceMul, Nat.reduceEqDiff, Go.Addr.add, ↓reduceIte] at hx4)
  have i4 : (4 < l1.length) = True := eq_true (by omega)
  have j4 : (4 < (l1.length : Int)) = True := eq_true (by omega)
  clear p4 q4
  clear e4
  clear hn
  go_enter Try.func22, Try.ntmps22
  go_wp2_with fail
  go_quiet (first | (go_at_call 25; (with_reducible refine (impl_u.calls _ _ _ rfl).mono ?_); rintro e w' ⟨rfl, ⟨nd, rfl⟩⟩; (try first | exact ⟨rfl, _, World.drewN_drewN _ _ _⟩ | exact ⟨rfl, _, Eq.trans (World.drewN_drewN _ _ _) (congrArg (World.drewN _) (Nat.add_assoc _ _ _))⟩)) | (go_at_call 54; (with_reducible refine (ppc64obj_OP_BC.calls _ _ _ _ _ r _ A9.out).mono ?_); rintro e w' ⟨rfl, ⟨nd, rfl⟩⟩; (try first | exact ⟨rfl, _, World.drewN_drewN _ _ _⟩ | exact ⟨rfl, _, Eq.trans (World.drewN_drewN _ _ _) (congrArg (World.drewN _) (Nat.add_assoc _ _ _))⟩)))
  go_wp2_with fail
  go_ret
  exact ⟨by first | rfl | (simp; done) | (simp [*]; done), by repeat (first | exact Drawn0.refl _ | apply Drawn0.step)⟩

set_option maxHeartbeats 8000000 in
set_option maxRecDepth 100000 in
theorem encoded_OP_BCR (A1 : Option Addr) (c1 : Nat) (l1 : List Int) (r : Int) (w : World) (hr1 : Kd.C (Kd.int .i64) w A1 l1.length l1) (hn : l1.length = 3) (h : ppc64obj_OP_BCR.f ((rd l1 0) % 4294967296) ((rd l1 1) % 4294967296) ((rd l1 2) % 4294967296) = some r) :
    Calls Try.prog 22 #[.string (⟨#[79, 80, 95, 66, 67, 82]⟩ : ByteArray), .slice A1 l1.length c1] w fun e w' => e = .returned (.int .u32 r) ∧ Drawn0 w w' := by
  have A9 := Aside0.mk h
  clear h
  have HR1 := Aside0.mk hr1
  clear hr1
  have p0 : 0 ≤ (0 : Int) := by omega
  have q0 : 0 < (l1.length : Int) := by omega
  obtain ⟨ad0, e0, hx0⟩ := Kd.at_int HR1.out 0 p0 q0
  cases e0
  (try simp only [show (0 : Int).toNat = 0 from rfl, Nat.reduceMul, Nat.reduceEqDiff, Go.Addr.add, ↓reduceIte] at hx0)
  (try rw [Addr.add_zero'] at hx0)
  have i0 : (0 < l1.length) = True := eq_true (by omega)
  have j0 : (0 < (l1.length : Int)) = True := eq_true (by omega)
  clear p0 q0
  have p1 : 0 ≤ (1 : Int) := by omega
  have q1 : 1 < (l1.length : Int) := by omega
  obtain ⟨ad1, e1, hx1⟩ := Kd.at_int HR1.out 1 p1 q1
  obtain rfl : ad0 = ad1 := (by injection e1)
  (try simp only [show (1 : Int).toNat = 1 from rfl, Nat.reduceMul, Nat.reduceEqDiff, Go.Addr.add, ↓reduceIte] at hx1)
  have i1 : (1 < l1.length) = True := eq_true (by omega)
  have j1 : (1 < (l1.length : Int)) = True := eq_true (by omega)
  clear p1 q1
  clear e1
  have p2 : 0 ≤ (2 : Int) := by omega
  have q2 : 2 < (l1.length : Int) := by omega
  obtain ⟨ad2, e2, hx2⟩ := Kd.at_int HR1.out 2 p2 q2
  obtain rfl : ad0 = ad2 := (by injection e2)
  (try simp only [show (2 : Int).toNat = 2 from rfl, Nat.reduceMul, Nat.reduceEqDiff, Go.Addr.add, ↓reduceIte] at hx2)
  have i2 : (2 < l1.length) = True := eq_true (by omega)
  have j2 : (2 < (l1.length : Int)) = True := eq_true (by omega)
  clear p2 q2
  clear e2
  clear hn
  go_enter Try.func22, Try.ntmps22
  go_wp2_with fail
  go_quiet (first | (go_at_call 25; (with_reducible refine (impl_u.calls _ _ _ rfl).mono ?_); rintro e w' ⟨rfl, ⟨nd, rfl⟩⟩; (try first | exact ⟨rfl, _, World.drewN_drewN _ _ _⟩ | exact ⟨rfl, _, Eq.trans (World.drewN_drewN _ _ _) (congrArg (World.drewN _) (Nat.add_assoc _ _ _))⟩)) | (go_at_call 55; (with_reducible refine (ppc64obj_OP_BCR.calls _ _ _ r _ A9.out).mono ?_); rintro e w' ⟨rfl, ⟨nd, rfl⟩⟩; (try first | exact ⟨rfl, _, World.drewN_drewN _ _ _⟩ | exact ⟨rfl, _, Eq.trans (World.drewN_drewN _ _ _) (congrArg (World.drewN _) (Nat.add_assoc _ _ _))⟩)))
  go_wp2_with fail
  go_ret
  exact ⟨by first | rfl | (simp; done) | (simp [*]; done), by repeat (first | exact Drawn0.refl _ | apply Drawn0.step)⟩

set_option maxHeartbeats 8000000 in
set_option maxRecDepth 100000 in
theorem encoded_OP_RLW (A1 : Option Addr) (c1 : Nat) (l1 : List Int) (r : Int) (w : World) (hr1 : Kd.C (Kd.int .i64) w A1 l1.length l1) (hn : l1.length = 6) (h : ppc64obj_OP_RLW.f ((rd l1 0) % 4294967296) ((rd l1 1) % 4294967296) ((rd l1 2) % 4294967296) ((rd l1 3) % 4294967296) ((rd l1 4) % 4294967296) ((rd l1 5) % 4294967296) = some r) :
    Calls Try.prog 22 #[.string (⟨#[79, 80, 95, 82, 76, 87]⟩ : ByteArray), .slice A1 l1.length c1] w fun e w' => e = .returned (.int .u32 r) ∧ Drawn0 w w' := by
  have A9 := Aside0.mk h
  clear h
  have HR1 := Aside0.mk hr1
  clear hr1
  have p0 : 0 ≤ (0 : Int) := by omega
  have q0 : 0 < (l1.length : Int) := by omega
  obtain ⟨ad0, e0, hx0⟩ := Kd.at_int HR1.out 0 p0 q0
  cases e0
  (try simp only [show (0 : Int).toNat = 0 from rfl, Nat.reduceMul, Nat.reduceEqDiff, Go.Addr.add, ↓reduceIte] at hx0)
  (try rw [Addr.add_zero'] at hx0)
  have i0 : (0 < l1.length) = True := eq_true (by omega)
  have j0 : (0 < (l1.length : Int)) = True := eq_true (by omega)
  clear p0 q0
  have p1 : 0 ≤ (1 : Int) := by omega
  have q1 : 1 < (l1.length : Int) := by omega
  obtain ⟨ad1, e1, hx1⟩ := Kd.at_int HR1.out 1 p1 q1
  obtain rfl : ad0 = ad1 := (by injection e1)
  (try simp only [show (1 : Int).toNat = 1 from rfl, Nat.reduceMul, Nat.reduceEqDiff, Go.Addr.add, ↓reduceIte] at hx1)
  have i1 : (1 < l1.length) = True := eq_true (by omega)
  have j1 : (1 < (l1.length : Int)) = True := eq_true (by omega)
  clear p1 q1
  clear e1
  have p2 : 0 ≤ (2 : Int) := by omega
  have q2 : 2 < (l1.length : Int) := by omega
  obtain ⟨ad2, e2, hx2⟩ := Kd.at_int HR1.out 2 p2 q2
  obtain rfl : ad0 = ad2 := (by injection e2)
  (try simp only [show (2 : Int).toNat = 2 from rfl, Nat.reduceMul, Nat.reduceEqDiff, Go.Addr.add, ↓reduceIte] at hx2)
  have i2 : (2 < l1.length) = True := eq_true (by omega)
  have j2 : (2 < (l1.length : Int)) = True := eq_true (by omega)
  clear p2 q2
  clear e2
  have p3 : 0 ≤ (3 : Int) := by omega
  have q3 : 3 < (l1.length : Int) := by omega
  obtain ⟨ad3, e3, hx3⟩ := Kd.at_int HR1.out 3 p3 q3
  obtain rfl : ad0 = ad3 := (by injection e3)
  (try simp only [show (3 : Int).toNat = 3 from rfl, Nat.reduceMul, Nat.reduceEqDiff, Go.Addr.add, ↓reduceIte] at hx3)
  have i3 : (3 < l1.length) = True := eq_true (by omega)
  have j3 : (3 < (l1.length : Int)) = True := eq_true (by omega)
  clear p3 q3
  clear e3
  have p4 : 0 ≤ (4 : Int) := by omega
  have q4 : 4 < (l1.length : Int) := by omega
  obtain ⟨ad4, e4, hx4⟩ := Kd.at_int HR1.out 4 p4 q4
  obtain rfl : ad0 = ad4 := (by injection e4)
  (try simp only [show (4 : Int).toNat = 4 from rfl, Nat.reduceMul, Nat.reduceEqDiff, Go.Addr.add, ↓reduceIte] at hx4)
  have i4 : (4 < l1.length) = True := eq_true (by omega)
  have j4 : (4 < (l1.length : Int)) = True := eq_true (by omega)
  clear p4 q4
  clear e4
  have p5 : 0 ≤ (5 : Int) := by omega
  have q5 : 5 < (l1.length : Int) := by omega
  obtain ⟨ad5, e5, hx5⟩ := Kd.at_int HR1.out 5 p5 q5
  obtain rfl : ad0 = ad5 := (by injection e5)
  (try simp only [show (5 : Int).toNat = 5 from rfl, Nat.reduceMul, Nat.reduceEqDiff, Go.Addr.add, ↓reduceIte] at hx5)
  have i5 : (5 < l1.length) = True := eq_true (by omega)
  have j5 : (5 < (l1.length : Int)) = True := eq_true (by omega)
  clear p5 q5
  clear e5
  clear hn
  go_enter Try.func22, Try.ntmps22
  go_wp2_with fail
  go_quiet (first | (go_at_call 25; (with_reducible refine (impl_u.calls _ _ _ rfl).mono ?_); rintro e w' ⟨rfl, ⟨nd, rfl⟩⟩; (try first | exact ⟨rfl, _, World.drewN_drewN _ _ _⟩ | exact ⟨rfl, _, Eq.trans (World.drewN_drewN _ _ _) (congrArg (World.drewN _) (Nat.add_assoc _ _ _))⟩)) | (go_at_call 56; (with_reducible refine (ppc64obj_OP_RLW.calls _ _ _ _ _ _ r _ A9.out).mono ?_); rintro e w' ⟨rfl, ⟨nd, rfl⟩⟩; (try first | exact ⟨rfl, _, World.drewN_drewN _ _ _⟩ | exact ⟨rfl, _, Eq.trans (World.drewN_drewN _ _ _) (congrArg (World.drewN _) (Nat.add_assoc _ _ _))⟩)))
  go_wp2_with fail
  go_ret
  exact ⟨by first | rfl | (simp; done) | (simp [*]; done), by repeat (first | exact Drawn0.refl _ | apply Drawn0.step)⟩

set_option maxHeartbeats 8000000 in
set_option maxRecDepth 100000 in
theorem encoded_AOP_EXTSWSLI (A1 : Option Addr) (c1 : Nat) (l1 : List Int) (r : Int) (w : World) (hr1 : Kd.C (Kd.int .i64) w A1 l1.length l1) (hn : l1.length = 4) (h : ppc64obj_AOP_EXTSWSLI.f ((rd l1 0) % 4294967296) ((rd l1 1) % 4294967296) ((rd l1 2) % 4294967296) ((rd l1 3) % 4294967296) = some r) :
    Calls Try.prog 22 #[.string (⟨#[65, 79, 80, 95, 69, 88, 84, 83, 87, 83, 76, 73]⟩ : ByteArray), .slice A1 l1.length c1] w fun e w' => e = .returned (.int .u32 r) ∧ Drawn0 w w' := by
  have A9 := Aside0.mk h
  clear h
  have HR1 := Aside0.mk hr1
  clear hr1
  have p0 : 0 ≤ (0 : Int) := by omega
  have q0 : 0 < (l1.length : Int) := by omega
  obtain ⟨ad0, e0, hx0⟩ := Kd.at_int HR1.out 0 p0 q0
  cases e0
  (try simp only [show (0 : Int).toNat = 0 from rfl, Nat.reduceMul, Nat.reduceEqDiff, Go.Addr.add, ↓reduceIte] at hx0)
  (try rw [Addr.add_zero'] at hx0)
  have i0 : (0 < l1.length) = True := eq_true (by omega)
  have j0 : (0 < (l1.length : Int)) = True := eq_true (by omega)
  clear p0 q0
  have p1 : 0 ≤ (1 : Int) := by omega
  have q1 : 1 < (l1.length : Int) := by omega
  obtain ⟨ad1, e1, hx1⟩ := Kd.at_int HR1.out 1 p1 q1
  obtain rfl : ad0 = ad1 := (by injection e1)
  (try simp only [show (1 : Int).toNat = 1 from rfl, Nat.reduceMul, Nat.reduceEqDiff, Go.Addr.add, ↓reduceIte] at hx1)
  have i1 : (1 < l1.length) = True := eq_true (by omega)
  have j1 : (1 < (l1.length : Int)) = True := eq_true (by omega)
  clear p1 q1
  clear e1
  have p2 : 0 ≤ (2 : Int) := by omega
  have q2 : 2 < (l1.length : Int) := by omega
  obtain ⟨ad2, e2, hx2⟩ := Kd.at_int HR1.out 2 p2 q2
  obtain rfl : ad0 = ad2 := (by injection e2)
  (try simp only [show (2 : Int).toNat = 2 from rfl, Nat.reduceMul, Nat.reduceEqDiff, Go.Addr.add, ↓reduceIte] at hx2)
  have i2 : (2 < l1.length) = True := eq_true (by omega)
  have j2 : (2 < (l1.length : Int)) = True := eq_true (by omega)
  clear p2 q2
  clear e2
  have p3 : 0 ≤ (3 : Int) := by omega
  have q3 : 3 < (l1.length : Int) := by omega
  obtain ⟨ad3, e3, hx3⟩ := Kd.at_int HR1.out 3 p3 q3
  obtain rfl : ad0 = ad3 := (by injection e3)
  (try simp only [show (3 : Int).toNat = 3 from rfl, Nat.reduceMul, Nat.reduceEqDiff, Go.Addr.add, ↓reduceIte] at hx3)
  have i3 : (3 < l1.length) = True := eq_true (by omega)
  have j3 : (3 < (l1.length : Int)) = True := eq_true (by omega)
  clear p3 q3
  clear e3
  clear hn
  go_enter Try.func22, Try.ntmps22
  go_wp2_with fail
  go_quiet (first | (go_at_call 25; (with_reducible refine (impl_u.calls _ _ _ rfl).mono ?_); rintro e w' ⟨rfl, ⟨nd, rfl⟩⟩; (try first | exact ⟨rfl, _, World.drewN_drewN _ _ _⟩ | exact ⟨rfl, _, Eq.trans (World.drewN_drewN _ _ _) (congrArg (World.drewN _) (Nat.add_assoc _ _ _))⟩)) | (go_at_call 57; (with_reducible refine (ppc64obj_AOP_EXTSWSLI.calls _ _ _ _ r _ A9.out).mono ?_); rintro e w' ⟨rfl, ⟨nd, rfl⟩⟩; (try first | exact ⟨rfl, _, World.drewN_drewN _ _ _⟩ | exact ⟨rfl, _, Eq.trans (World.drewN_drewN _ _ _) (congrArg (World.drewN _) (Nat.add_assoc _ _ _))⟩)))
  go_wp2_with fail
  go_ret
  exact ⟨by first | rfl | (simp; done) | (simp [*]; done), by repeat (first | exact Drawn0.refl _ | apply Drawn0.step)⟩

set_option maxHeartbeats 8000000 in
set_option maxRecDepth 100000 in
theorem encoded_AOP_ISEL (A1 : Option Addr) (c1 : Nat) (l1 : List Int) (r : Int) (w : World) (hr1 : Kd.C (Kd.int .i64) w A1 l1.length l1) (hn : l1.length = 5) (h : ppc64obj_AOP_ISEL.f ((rd l1 0) % 4294967296) ((rd l1 1) % 4294967296) ((rd l1 2) % 4294967296) ((rd l1 3) % 4294967296) ((rd l1 4) % 4294967296) = some r) :
    Calls Try.prog 22 #[.string (⟨#[65, 79, 80, 95, 73, 83, 69, 76]⟩ : ByteArray), .slice A1 l1.length c1] w fun e w' => e = .returned (.int .u32 r) ∧ Drawn0 w w' := by
  have A9 := Aside0.mk h
  clear h
  have HR1 := Aside0.mk hr1
  clear hr1
  have p0 : 0 ≤ (0 : Int) := by omega
  have q0 : 0 < (l1.length : Int) := by omega
  obtain ⟨ad0, e0, hx0⟩ := Kd.at_int HR1.out 0 p0 q0
  cases e0
  (try simp only [show (0 : Int).toNat = 0 from rfl, Nat.reduceMul, Nat.reduceEqDiff, Go.Addr.add, ↓reduceIte] at hx0)
  (try rw [Addr.add_zero'] at hx0)
  have i0 : (0 < l1.length) = True := eq_true (by omega)
  have j0 : (0 < (l1.length : Int)) = True := eq_true (by omega)
  clear p0 q0
  have p1 : 0 ≤ (1 : Int) := by omega
  have q1 : 1 < (l1.length : Int) := by omega
  obtain ⟨ad1, e1, hx1⟩ := Kd.at_int HR1.out 1 p1 q1
  obtain rfl : ad0 = ad1 := (by injection e1)
  (try simp only [show (1 : Int).toNat = 1 from rfl, Nat.reduceMul, Nat.reduceEqDiff, Go.Addr.add, ↓reduceIte] at hx1)
  have i1 : (1 < l1.length) = True := eq_true (by omega)
  have j1 : (1 < (l1.length : Int)) = True := eq_true (by omega)
  clear p1 q1
  clear e1
  have p2 : 0 ≤ (2 : Int) := by omega
  have q2 : 2 < (l1.length : Int) := by omega
  obtain ⟨ad2, e2, hx2⟩ := Kd.at_int HR1.out 2 p2 q2
  obtain rfl : ad0 = ad2 := (by injection e2)
  (try simp only [show (2 : Int).toNat = 2 from rfl, Nat.reduceMul, Nat.reduceEqDiff, Go.Addr.add, ↓reduceIte] at hx2)
  have i2 : (2 < l1.length) = True := eq_true (by omega)
  have j2 : (2 < (l1.length : Int)) = True := eq_true (by omega)
  clear p2 q2
  clear e2
  have p3 : 0 ≤ (3 : Int) := by omega
  have q3 : 3 < (l1.length : Int) := by omega
  obtain ⟨ad3, e3, hx3⟩ := Kd.at_int HR1.out 3 p3 q3
  obtain rfl : ad0 = ad3 := (by injection e3)
  (try simp only [show (3 : Int).toNat = 3 from rfl, Nat.reduceMul, Nat.reduceEqDiff, Go.Addr.add, ↓reduceIte] at hx3)
  have i3 : (3 < l1.length) = True := eq_true (by omega)
  have j3 : (3 < (l1.length : Int)) = True := eq_true (by omega)
  clear p3 q3
  clear e3
  have p4 : 0 ≤ (4 : Int) := by omega
  have q4 : 4 < (l1.length : Int) := by omega
  obtain ⟨ad4, e4, hx4⟩ := Kd.at_int HR1.out 4 p4 q4
  obtain rfl : ad0 = ad4 := (by injection e4)
  (try simp only [show (4 : Int).toNat = 4 from rfl, Nat.reduceMul, Nat.reduceEqDiff, Go.Addr.add, ↓reduceIte] at hx4)
  have i4 : (4 < l1.length) = True := eq_true (by omega)
  have j4 : (4 < (l1.length : Int)) = True := eq_true (by omega)
  clear p4 q4
  clear e4
  clear hn
  go_enter Try.func22, Try.ntmps22
  go_wp2_with fail
  go_quiet (first | (go_at_call 25; (with_reducible refine (impl_u.calls _ _ _ rfl).mono ?_); rintro e w' ⟨rfl, ⟨nd, rfl⟩⟩; (try first | exact ⟨rfl, _, World.drewN_drewN _ _ _⟩ | exact ⟨rfl, _, Eq.trans (World.drewN_drewN _ _ _) (congrArg (World.drewN _) (Nat.add_assoc _ _ _))⟩)) | (go_at_call 58; (with_reducible refine (ppc64obj_AOP_ISEL.calls _ _ _ _ _ r _ A9.out).mono ?_); rintro e w' ⟨rfl, ⟨nd, rfl⟩⟩; (try first | exact ⟨rfl, _, World.drewN_drewN _ _ _⟩ | exact ⟨rfl, _, Eq.trans (World.drewN_drewN _ _ _) (congrArg (World.drewN _) (Nat.add_assoc _ _ _))⟩)))
  go_wp2_with fail
  go_ret
  exact ⟨by first | rfl | (simp; done) | (simp [*]; done), by repeat (first | exact Drawn0.refl _ | apply Drawn0.step)⟩

set_option maxHeartbeats 8000000 in
set_option maxRecDepth 100000 in
theorem encoded_AOP_MD (A1 : Option Addr) (c1 : Nat) (l1 : List Int) (r : Int) (w : World) (hr1 : Kd.C (Kd.int .i64) w A1 l1.length l1) (hn : l1.length = 5) (h : ppc64obj_AOP_MD.f ((rd l1 0) % 4294967296) ((rd l1 1) % 4294967296) ((rd l1 2) % 4294967296) ((rd l1 3) % 4294967296) ((rd l1 4) % 4294967296) = some r) :
    Calls Try.prog 22 #[.string (⟨#[65, 79, 80, 95, 77, 68]⟩ : ByteArray), .slice A1 l1.length c1] w fun e w' => e = .returned (.int .u32 r) ∧ Drawn0 w w' := by
  have A9 := Aside0.mk h
  clear h
  have HR1 := Aside0.mk hr1
  clear hr1
  have p0 : 0 ≤ (0 : Int) := by omega
  have q0 : 0 < (l1.length : Int) := by omega
  obtain ⟨ad0, e0, hx0⟩ := Kd.at_int HR1.out 0 p0 q0
  cases e0
  (try simp only [show (0 : Int).toNat = 0 from rfl, Nat.reduceMul, Nat.reduceEqDiff, Go.Addr.add, ↓reduceIte] at hx0)
  (try rw [Addr.add_zero'] at hx0)
  have i0 : (0 < l1.length) = True := eq_true (by omega)
  have j0 : (0 < (l1.length : Int)) = True := eq_true (by omega)
  clear p0 q0
  have p1 : 0 ≤ (1 : Int) := by omega
  have q1 : 1 < (l1.length : Int) := by omega
  obtain ⟨ad1, e1, hx1⟩ := Kd.at_int HR1.out 1 p1 q1
  obtain rfl : ad0 = ad1 := (by injection e1)
  (try simp only [show (1 : Int).toNat = 1 from rfl, Nat.reduceMul, Nat.reduceEqDiff, Go.Addr.add, ↓reduceIte] at hx1)
  have i1 : (1 < l1.length) = True := eq_true (by omega)
  have j1 : (1 < (l1.length : Int)) = True := eq_true (by omega)
  clear p1 q1
  clear e1
  have p2 : 0 ≤ (2 : Int) := by omega
  have q2 : 2 < (l1.length : Int) := by omega
  obtain ⟨ad2, e2, hx2⟩ := Kd.at_int HR1.out 2 p2 q2
  obtain rfl : ad0 = ad2 := (by injection e2)
  (try simp only [show (2 : Int).toNat = 2 from rfl, Nat.reduceMul, Nat.reduceEqDiff, Go.Addr.add, ↓reduceIte] at hx2)
  have i2 : (2 < l1.length) = True := eq_true (by omega)
  have j2 : (2 < (l1.length : Int)) = True := eq_true (by omega)
  clear p2 q2
  clear e2
  have p3 : 0 ≤ (3 : Int) := by omega
  have q3 : 3 < (l1.length : Int) := by omega
  obtain ⟨ad3, e3, hx3⟩ := Kd.at_int HR1.out 3 p3 q3
  obtain rfl : ad0 = ad3 := (by injection e3)
  (try simp only [show (3 : Int).toNat = 3 from rfl, Nat.reduceMul, Nat.reduceEqDiff, Go.Addr.add, ↓reduceIte] at hx3)
  have i3 : (3 < l1.length) = True := eq_true (by omega)
  have j3 : (3 < (l1.length : Int)) = True := eq_true (by omega)
  clear p3 q3
  clear e3
  have p4 : 0 ≤ (4 : Int) := by omega
  have q4 : 4 < (l1.length : Int) := by omega
  obtain ⟨ad4, e4, hx4⟩ := Kd.at_int HR1.out 4 p4 q4
  obtain rfl : ad0 = ad4 := (by injection e4)
  (try simp only [show (4 : Int).toNat = 4 from rfl, Nat.reduceMul, Nat.reduceEqDiff, Go.Addr.add, ↓reduceIte] at hx4)
  have i4 : (4 < l1.length) = True := eq_true (by omega)
  have j4 : (4 < (l1.length : Int)) = True := eq_true (by omega)
  clear p4 q4
  clear e4
  clear hn
  go_enter Try.func22, Try.ntmps22
  go_wp2_with fail
  go_quiet (first | (go_at_call 25; (with_reducible refine (impl_u.calls _ _ _ rfl).mono ?_); rintro e w' ⟨rfl, ⟨nd, rfl⟩⟩; (try first | exact ⟨rfl, _, World.drewN_drewN _ _ _⟩ | exact ⟨rfl, _, Eq.trans (World.drewN_drewN _ _ _) (congrArg (World.drewN _) (Nat.add_assoc _ _ _))⟩)) | (go_at_call 59; (with_reducible refine (ppc64obj_AOP_MD.calls _ _ _ _ _ r _ A9.out).mono ?_); rintro e w' ⟨rfl, ⟨nd, rfl⟩⟩; (try first | exact ⟨rfl, _, World.drewN_drewN _ _ _⟩ | exact ⟨rfl, _, Eq.trans (World.drewN_drewN _ _ _) (congrArg (World.drewN _) (Nat.add_assoc _ _ _))⟩)))
  go_wp2_with fail
  go_ret
  exact ⟨by first | rfl | (simp; done) | (simp [*]; done), by repeat (first | exact Drawn0.refl _ | apply Drawn0.step)⟩

set_option maxHeartbeats 8000000 in
set_option maxRecDepth 100000 in
theorem encoded_AOP_MDS (A1 : Option Addr) (c1 : Nat) (l1 : List Int) (r : Int) (w : World) (hr1 : Kd.C (Kd.int .i64) w A1 l1.length l1) (hn : l1.length = 5) (h : ppc64obj_AOP_MDS.f ((rd l1 0) % 4294967296) ((rd l1 1) % 4294967296) ((rd l1 2) % 4294967296) ((rd l1 3) % 4294967296) ((rd l1 4) % 4294967296) = some r) :
    Calls Try.prog 22 #[.string (⟨#[65, 79, 80, 95, 77, 68, 83]⟩ : ByteArray), .slice A1 l1.length c1] w fun e w' => e = .returned (.int .u32 r) ∧ Drawn0 w w' := by
  have A9 := Aside0.mk h
  clear h
  have HR1 := Aside0.mk hr1
  clear hr1
  have p0 : 0 ≤ (0 : Int) := by omega
  have q0 : 0 < (l1.length : Int) := by omega
  obtain ⟨ad0, e0, hx0⟩ := Kd.at_int HR1.out 0 p0 q0
  cases e0
  (try simp only [show (0 : Int).toNat = 0 from rfl, Nat.reduceMul, Nat.reduceEqDiff, Go.Addr.add, ↓reduceIte] at hx0)
  (try rw [Addr.add_zero'] at hx0)
  have i0 : (0 < l1.length) = True := eq_true (by omega)
  have j0 : (0 < (l1.length : Int)) = True := eq_true (by omega)
  clear p0 q0
  have p1 : 0 ≤ (1 : Int) := by omega
  have q1 : 1 < (l1.length : Int) := by omega
  obtain ⟨ad1, e1, hx1⟩ := Kd.at_int HR1.out 1 p1 q1
  obtain rfl : ad0 = ad1 := (by injection e1)
  (try simp only [show (1 : Int).toNat = 1 from rfl, Nat.reduceMul, Nat.reduceEqDiff, Go.Addr.add, ↓reduceIte] at hx1)
  have i1 : (1 < l1.length) = True := eq_true (by omega)
  have j1 : (1 < (l1.length : Int)) = True := eq_true (by omega)
  clear p1 q1
  clear e1
  have p2 : 0 ≤ (2 : Int) := by omega
  have q2 : 2 < (l1.length : Int) := by omega
  obtain ⟨ad2, e2, hx2⟩ := Kd.at_int HR1.out 2 p2 q2
  obtain rfl : ad0 = ad2 := (by injection e2)
  (try simp only [show (2 : Int).toNat = 2 from rfl, Nat.reduceMul, Nat.reduceEqDiff, Go.Addr.add, ↓reduceIte] at hx2)
  have i2 : (2 < l1.length) = True := eq_true (by omega)
  have j2 : (2 < (l1.length : Int)) = True := eq_true (by omega)
  clear p2 q2
  clear e2
  have p3 : 0 ≤ (3 : Int) := by omega
  have q3 : 3 < (l1.length : Int) := by omega
  obtain ⟨ad3, e3, hx3⟩ := Kd.at_int HR1.out 3 p3 q3
  obtain rfl : ad0 = ad3 := (by injection e3)
  (try simp only [show (3 : Int).toNat = 3 from rfl, Nat.reduceMul, Nat.reduceEqDiff, Go.Addr.add, ↓reduceIte] at hx3)
  have i3 : (3 < l1.length) = True := eq_true (by omega)
  have j3 : (3 < (l1.length : Int)) = True := eq_true (by omega)
  clear p3 q3
  clear e3
  have p4 : 0 ≤ (4 : Int) := by omega
  have q4 : 4 < (l1.length : Int) := by omega
  obtain ⟨ad4, e4, hx4⟩ := Kd.at_int HR1.out 4 p4 q4
  obtain rfl : ad0 = ad4 := (by injection e4)
  (try simp only [show (4 : Int).toNat = 4 from rfl, Nat.reduceMul, Nat.reduceEqDiff, Go.Addr.add, ↓reduceIte] at hx4)
  have i4 : (4 < l1.length) = True := eq_true (by omega)
  have j4 : (4 < (l1.length : Int)) = True := eq_true (by omega)
  clear p4 q4
  clear e4
  clear hn
  go_enter Try.func22, Try.ntmps22
  go_wp2_with fail
  go_quiet (first | (go_at_call 25; (with_reducible refine (impl_u.calls _ _ _ rfl).mono ?_); rintro e w' ⟨rfl, ⟨nd, rfl⟩⟩; (try first | exact ⟨rfl, _, World.drewN_drewN _ _ _⟩ | exact ⟨rfl, _, Eq.trans (World.drewN_drewN _ _ _) (congrArg (World.drewN _) (Nat.add_assoc _ _ _))⟩)) | (go_at_call 60; (with_reducible refine (ppc64obj_AOP_MDS.calls _ _ _ _ _ r _ A9.out).mono ?_); rintro e w' ⟨rfl, ⟨nd, rfl⟩⟩; (try first | exact ⟨rfl, _, World.drewN_drewN _ _ _⟩ | exact ⟨rfl, _, Eq.trans (World.drewN_drewN _ _ _) (congrArg (World.drewN _) (Nat.add_assoc _ _ _))⟩)))
  go_wp2_with fail
  go_ret
  exact ⟨by first | rfl | (simp; done) | (simp [*]; done), by repeat (first | exact Drawn0.refl _ | apply Drawn0.step)⟩

set_option maxHeartbeats 8000000 in
set_option maxRecDepth 100000 in
theorem encoded_AOP_PFX_00_8LS (A1 : Option Addr) (c1 : Nat) (l1 : List Int) (r : Int) (w : World) (hr1 : Kd.C (Kd.int .i64) w A1 l1.length l1) (hn : l1.length = 2) (h : ppc64obj_AOP_PFX_00_8LS.f ((rd l1 0) % 4294967296) ((rd l1 1) % 4294967296) = some r) :
    Calls Try.prog 22 #[.string (⟨#[65, 79, 80, 95, 80, 70, 88, 95, 48, 48, 95, 56, 76, 83]⟩ : ByteArray), .slice A1 l1.length c1] w fun e w' => e = .returned (.int .u32 r) ∧ Drawn0 w w' := by
  have A9 := Aside0.mk h
  clear h
  have HR1 := Aside0.mk hr1
  clear hr1
  have p0 : 0 ≤ (0 : Int) := by omega
  have q0 : 0 < (l1.length : Int) := by omega
  obtain ⟨ad0, e0, hx0⟩ := Kd.at_int HR1.out 0 p0 q0
  cases e0
  (try simp only [show (0 : Int).toNat = 0 from rfl, Nat.reduceMul, Nat.reduceEqDiff, Go.Addr.add, ↓reduceIte] at hx0)
  (try rw [Addr.add_zero'] at hx0)
  have i0 : (0 < l1.length) = True := eq_true (by omega)
  have j0 : (0 < (l1.length : Int)) = True := eq_true (by omega)
  clear p0 q0
  have p1 : 0 ≤ (1 : Int) := by omega
  have q1 : 1 < (l1.length : Int) := by omega
  obtain ⟨ad1, e1, hx1⟩ := Kd.at_int HR1.out 1 p1 q1
  obtain rfl : ad0 = ad1 := (by injection e1)
  (try simp only [show (1 : Int).toNat = 1 from rfl, Nat.reduceMul, Nat.reduceEqDiff, Go.Addr.add, ↓reduceIte] at hx1)
  have i1 : (1 < l1.length) = True := eq_true (by omega)
  have j1 : (1 < (l1.length : Int)) = True := eq_true (by omega)
  clear p1 q1
  clear e1
  clear hn
  go_enter Try.func22, Try.ntmps22
  go_wp2_with fail
  go_quiet (first | (go_at_call 25; (with_reducible refine (impl_u.calls _ _ _ rfl).mono ?_); rintro e w' ⟨rfl, ⟨nd, rfl⟩⟩; (try first | exact ⟨rfl, _, World.drewN_drewN _ _ _⟩ | exact ⟨rfl, _, Eq.trans (World.drewN_drewN _ _ _) (congrArg (World.drewN _) (Nat.add_assoc _ _ _))⟩)) | (go_at_call 61; (with_reducible refine (ppc64obj_AOP_PFX_00_8LS.calls _ _ r _ A9.out).mono ?_); rintro e w' ⟨rfl, ⟨nd, rfl⟩⟩; (try first | exact ⟨rfl, _, World.drewN_drewN _ _ _⟩ | exact ⟨rfl, _, Eq.trans (World.drewN_drewN _ _ _) (congrArg (World.drewN _) (Nat.add_assoc _ _ _))⟩)))
  go_wp2_with fail
  go_ret
  exact ⟨by first | rfl | (simp; done) | (simp [*]; done), by repeat (first | exact Drawn0.refl _ | apply Drawn0.step)⟩

set_option maxHeartbeats 8000000 in
set_option maxRecDepth 100000 in
theorem encoded_AOP_PFX_10_MLS (A1 : Option Addr) (c1 : Nat) (l1 : List Int) (r : Int) (w : World) (hr1 : Kd.C (Kd.int .i64) w A1 l1.length l1) (hn : l1.length = 2) (h : ppc64obj_AOP_PFX_10_MLS.f ((rd l1 0) % 4294967296) ((rd l1 1) % 4294967296) = some r) :
    Calls Try.prog 22 #[.string (⟨#[65, 79, 80, 95, 80, 70, 88, 95, 49, 48, 95, 77, 76, 83]⟩ : ByteArray), .slice A1 l1.length c1] w fun e w' => e = .returned (.int .u32 r) ∧ Drawn0 w w' := by
  have A9 := Aside0.mk h
  clear h
  have HR1 := Aside0.mk hr1
  clear hr1
  have p0 : 0 ≤ (0 : Int) := by omega
  have q0 : 0 < (l1.length : Int) := by omega
  obtain ⟨ad0, e0, hx0⟩ := Kd.at_int HR1.out 0 p0 q0
  cases e0
  (try simp only [show (0 : Int).toNat = 0 from rfl, Nat.reduceMul, Nat.reduceEqDiff, Go.Addr.add, ↓reduceIte] at hx0)
  (try rw [Addr.add_zero'] at hx0)
  have i0 : (0 < l1.length) = True := eq_true (by omega)
  have j0 : (0 < (l1.length : Int)) = True := eq_true (by omega)
  clear p0 q0
  have p1 : 0 ≤ (1 : Int) := by omega
  have q1 : 1 < (l1.length : Int) := by omega
  obtain ⟨ad1, e1, hx1⟩ := Kd.at_int HR1.out 1 p1 q1
  obtain rfl : ad0 = ad1 := (by injection e1)
  (try simp only [show (1 : Int).toNat = 1 from rfl, Nat.reduceMul, Nat.reduceEqDiff, Go.Addr.add, ↓reduceIte] at hx1)
  have i1 : (1 < l1.length) = True := eq_true (by omega)
  have j1 : (1 < (l1.length : Int)) = True := eq_true (by omega)
  clear p1 q1
  clear e1
  clear hn
  go_enter Try.func22, Try.ntmps22
  go_wp2_with fail
  go_quiet (first | (go_at_call 25; (with_reducible refine (impl_u.calls _ _ _ rfl).mono ?_); rintro e w' ⟨rfl, ⟨nd, rfl⟩⟩; (try first | exact ⟨rfl, _, World.drewN_drewN _ _ _⟩ | exact ⟨rfl, _, Eq.trans (World.drewN_drewN _ _ _) (congrArg (World.drewN _) (Nat.add_assoc _ _ _))⟩)) | (go_at_call 62; (with_reducible refine (ppc64obj_AOP_PFX_10_MLS.calls _ _ r _ A9.out).mono ?_); rintro e w' ⟨rfl, ⟨nd, rfl⟩⟩; (try first | exact ⟨rfl, _, World.drewN_drewN _ _ _⟩ | exact ⟨rfl, _, Eq.trans (World.drewN_drewN _ _ _) (congrArg (World.drewN _) (Nat.add_assoc _ _ _))⟩)))
  go_wp2_with fail
  go_ret
  exact ⟨by first | rfl | (simp; done) | (simp [*]; done), by repeat (first | exact Drawn0.refl _ | apply Drawn0.step)⟩

end Go.Proofs.Ytnfkdmoblncclaa.X
