/- The call of an encoder, for each form of this part: the numbers are cut to 32 bits and handed on. -/
import Derived.Test.YtnfkdmoblncclaaXPre
import Derived.Test.YtnfkdmoblncclaaXLeaf
namespace Go.Proofs.Ytnfkdmoblncclaa.X
open Go.RowKit Go.Proofs.YtnfkdmoblncclaaW.PrintWords Go.Proofs.YtnfkdmoblncclaaW.PrintLast Go.Proofs.YtnfkdmoblncclaaW.PrintMore
attribute [local go_sem] max2_int min2_int max_two min_two max_three min_three max_four min_four   -- for this text's walks alone
set_option linter.unusedVariables false
set_option linter.unusedSimpArgs false

set_option maxHeartbeats 8000000 in
set_option maxRecDepth 100000 in
theorem encoded_OPVXX1 (A1 : Option Addr) (c1 : Nat) (l1 : List Int) (r : Int) (w : World) (hr1 : Kd.C (Kd.int .i64) w A1 l1.length l1) (hn : l1.length = 3) (h : ppc64obj_OPVXX1.f ((rd l1 0) % 4294967296) ((rd l1 1) % 4294967296) ((rd l1 2) % 4294967296) = some r) :
    Calls Try.prog 22 #[.string (⟨#[79, 80, 86, 88, 88, 49]⟩ : ByteArray), .slice A1 l1.length c1] w fun e w' => e = .returned (.int .u32 r) ∧ Drawn0 w w' := by
  have A9 := Aside0.mk h
  clear h
  have HR1 := Aside0.mk hr1
  clear hr1
  have p0 : 0 ≤ (0 : Int) := by omega
  have q0 : 0 < (l1.length : Int) := by omega
  obtain ⟨ad0, e0, hx0⟩ := Kd.at_int HR1.out 0 p0 q0
  cases e0
  (try simp only [show (0 : Int).toNat = 0 from rfl, Nat.reduceMul, Nat.reduceEqDiff, Go.Addr.add, ↓reduceIte] at hx0)
  (try rw [Addr.add_zero'] at hx0)
  have i0 : (0 < l1.length) = True := eq_true (by omega)
  have j0 : (0 < (l1.length : Int)) = True := eq_true (by omega)
  clear p0 q0
  have p1 : 0 ≤ (1 : Int) := by omega
  have q1 : 1 < (l1.length : Int) := by omega
  obtain ⟨ad1, e1, hx1⟩ := Kd.at_int HR1.out 1 p1 q1
  obtain rfl : ad0 = ad1 := (by injection e1)
  (try simp only [show (1 : Int).toNat = 1 from rfl, Nat.reduceMul, Nat.reduceEqDiff, Go.Addr.add, ↓reduceIte] at hx1)
  have i1 : (1 < l1.length) = True := eq_true (by omega)
  have j1 : (1 < (l1.length : Int)) = True := eq_true (by omega)
  clear p1 q1
  clear e1
  have p2 : 0 ≤ (2 : Int) := by omega
  have q2 : 2 < (l1.length : Int) := by omega
  obtain ⟨ad2, e2, hx2⟩ := Kd.at_int HR1.out 2 p2 q2
  obtain rfl : ad0 = ad2 := (by injection e2)
  (try simp only [show (2 : Int).toNat = 2 from rfl, Nat.reduceMul, Nat.reduceEqDiff, Go.Addr.add, ↓reduceIte] at hx2)
  have i2 : (2 < l1.length) = True := eq_true (by omega)
  have j2 : (2 < (l1.length : Int)) = True := eq_true (by omega)
  clear p2 q2
  clear e2
  clear hn
  go_enter Try.func22, Try.ntmps22
  go_wp2_with fail
  go_quiet (first | (go_at_call 25; (with_reducible refine (impl_u.calls _ _ _ rfl).mono ?_); rintro e w' ⟨rfl, ⟨nd, rfl⟩⟩; (try first | exact ⟨rfl, _, World.drewN_drewN _ _ _⟩ | exact ⟨rfl, _, Eq.trans (World.drewN_drewN _ _ _) (congrArg (World.drewN _) (Nat.add_assoc _ _ _))⟩)) | (go_at_call 24; (with_reducible refine (ppc64obj_OPVXX1.calls _ _ _ r _ A9.out).mono ?_); rintro e w' ⟨rfl, ⟨nd, rfl⟩⟩; (try first | exact ⟨rfl, _, World.drewN_drewN _ _ _⟩ | exact ⟨rfl, _, Eq.trans (World.drewN_drewN _ _ _) (congrArg (World.drewN _) (Nat.add_assoc _ _ _))⟩)))
  go_wp2_with fail
  go_ret
  exact ⟨by first | rfl | (simp; done) | (simp [*]; done), by repeat (first | exact Drawn0.refl _ | apply Drawn0.step)⟩

set_option maxHeartbeats 8000000 in
set_option maxRecDepth 100000 in
theorem encoded_OPVXX2 (A1 : Option Addr) (c1 : Nat) (l1 : List Int) (r : Int) (w : World) (hr1 : Kd.C (Kd.int .i64) w A1 l1.length l1) (hn : l1.length = 3) (h : ppc64obj_OPVXX2.f ((rd l1 0) % 4294967296) ((rd l1 1) % 4294967296) ((rd l1 2) % 4294967296) = some r) :
    Calls Try.prog 22 #[.string (⟨#[79, 80, 86, 88, 88, 50]⟩ : ByteArray), .slice A1 l1.length c1] w fun e w' => e = .returned (.int .u32 r) ∧ Drawn0 w w' := by
  have A9 := Aside0.mk h
  clear h
  have HR1 := Aside0.mk hr1
  clear hr1
  have p0 : 0 ≤ (0 : Int) := by omega
  have q0 : 0 < (l1.length : Int) := by omega
  obtain ⟨ad0, e0, hx0⟩ := Kd.at_int HR1.out 0 p0 q0
  cases e0
  (try simp only [show (0 : Int).toNat = 0 from rfl, Nat.reduceMul, Nat.reduceEqDiff, Go.Addr.add, ↓reduceIte] at hx0)
  (try rw [Addr.add_zero'] at hx0)
  have i0 : (0 < l1.length) = True := eq_true (by omega)
  have j0 : (0 < (l1.length : Int)) = True := eq_true (by omega)
  clear p0 q0
  have p1 : 0 ≤ (1 : Int) := by omega
  have q1 : 1 < (l1.length : Int) := by omega
  obtain ⟨ad1, e1, hx1⟩ := Kd.at_int HR1.out 1 p1 q1
  obtain rfl : ad0 = ad1 := (by injection e1)
  (try simp only [show (1 : Int).toNat = 1 from rfl, Nat.reduceMul, Nat.reduceEqDiff, Go.Addr.add, ↓reduceIte] at hx1)
  have i1 : (1 < l1.length) = True := eq_true (by omega)
  have j1 : (1 < (l1.length : Int)) = True := eq_true (by omega)
  clear p1 q1
  clear e1
  have p2 : 0 ≤ (2 : Int) := by omega
  have q2 : 2 < (l1.length : Int) := by omega
  obtain ⟨ad2, e2, hx2⟩ := Kd.at_int HR1.out 2 p2 q2
  obtain rfl : ad0 = ad2 := (by injection e2)
  (try simp only [show (2 : Int).toNat = 2 from rfl, Nat.reduceMul, Nat.reduceEqDiff, Go.Addr.add, ↓reduceIte] at hx2)
  have i2 : (2 < l1.length) = True := eq_true (by omega)
  have j2 : (2 < (l1.length : Int)) = True := eq_true (by omega)
  clear p2 q2
  clear e2
  clear hn
  go_enter Try.func22, Try.ntmps22
  go_wp2_with fail
  go_quiet (first | (go_at_call 25; (with_reducible refine (impl_u.calls _ _ _ rfl).mono ?_); rintro e w' ⟨rfl, ⟨nd, rfl⟩⟩; (try first | exact ⟨rfl, _, World.drewN_drewN _ _ _⟩ | exact ⟨rfl, _, Eq.trans (World.drewN_drewN _ _ _) (congrArg (World.drewN _) (Nat.add_assoc _ _ _))⟩)) | (go_at_call 26; (with_reducible refine (ppc64obj_OPVXX2.calls _ _ _ r _ A9.out).mono ?_); rintro e w' ⟨rfl, ⟨nd, rfl⟩⟩; (try first | exact ⟨rfl, _, World.drewN_drewN _ _ _⟩ | exact ⟨rfl, _, Eq.trans (World.drewN_drewN _ _ _) (congrArg (World.drewN _) (Nat.add_assoc _ _ _))⟩)))
  go_wp2_with fail
  go_ret
  exact ⟨by first | rfl | (simp; done) | (simp [*]; done), by repeat (first | exact Drawn0.refl _ | apply Drawn0.step)⟩

set_option maxHeartbeats 8000000 in
set_option maxRecDepth 100000 in
theorem encoded_OPVXX2VA (A1 : Option Addr) (c1 : Nat) (l1 : List Int) (r : Int) (w : World) (hr1 : Kd.C (Kd.int .i64) w A1 l1.length l1) (hn : l1.length = 3) (h : ppc64obj_OPVXX2VA.f ((rd l1 0) % 4294967296) ((rd l1 1) % 4294967296) ((rd l1 2) % 4294967296) = some r) :
    Calls Try.prog 22 #[.string (⟨#[79, 80, 86, 88, 88, 50, 86, 65]⟩ : ByteArray), .slice A1 l1.length c1] w fun e w' => e = .returned (.int .u32 r) ∧ Drawn0 w w' := by
  have A9 := Aside0.mk h
  clear h
  have HR1 := Aside0.mk hr1
  clear hr1
  have p0 : 0 ≤ (0 : Int) := by omega
  have q0 : 0 < (l1.length : Int) := by omega
  obtain ⟨ad0, e0, hx0⟩ := Kd.at_int HR1.out 0 p0 q0
  cases e0
  (try simp only [show (0 : Int).toNat = 0 from rfl, Nat.reduceMul, Nat.reduceEqDiff, Go.Addr.add, ↓reduceIte] at hx0)
  (try rw [Addr.add_zero'] at hx0)
  have i0 : (0 < l1.length) = True := eq_true (by omega)
  have j0 : (0 < (l1.length : Int)) = True := eq_true (by omega)
  clear p0 q0
  have p1 : 0 ≤ (1 : Int) := by omega
  have q1 : 1 < (l1.length : Int) := by omega
  obtain ⟨ad1, e1, hx1⟩ := Kd.at_int HR1.out 1 p1 q1
  obtain rfl : ad0 = ad1 := (by injection e1)
  (try simp only [show (1 : Int).toNat = 1 from rfl, Nat.reduceMul, Nat.reduceEqDiff, Go.Addr.add, ↓reduceIte] at hx1)
  have i1 : (1 < l1.length) = True := eq_true (by omega)
  have j1 : (1 < (l1.length : Int)) = True := eq_true (by omega)
  clear p1 q1
  clear e1
  have p2 : 0 ≤ (2 : Int) := by omega
  have q2 : 2 < (l1.length : Int) := by omega
  obtain ⟨ad2, e2, hx2⟩ := Kd.at_int HR1.out 2 p2 q2
  obtain rfl : ad0 = ad2 := (by injection e2)
  (try simp only [show (2 : Int).toNat = 2 from rfl, Nat.reduceMul, Nat.reduceEqDiff, Go.Addr.add, ↓reduceIte] at hx2)
  have i2 : (2 < l1.length) = True := eq_true (by omega)
  have j2 : (2 < (l1.length : Int)) = True := eq_true (by omega)
  clear p2 q2
  clear e2
  clear hn
  go_enter Try.func22, Try.ntmps22
  go_wp2_with fail
  go_quiet (first | (go_at_call 25; (with_reducible refine (impl_u.calls _ _ _ rfl).mono ?_); rintro e w' ⟨rfl, ⟨nd, rfl⟩⟩; (try first | exact ⟨rfl, _, World.drewN_drewN _ _ _⟩ | exact ⟨rfl, _, Eq.trans (World.drewN_drewN _ _ _) (congrArg (World.drewN _) (Nat.add_assoc _ _ _))⟩)) | (go_at_call 27; (with_reducible refine (ppc64obj_OPVXX2VA.calls _ _ _ r _ A9.out).mono ?_); rintro e w' ⟨rfl, ⟨nd, rfl⟩⟩; (try first | exact ⟨rfl, _, World.drewN_drewN _ _ _⟩ | exact ⟨rfl, _, Eq.trans (World.drewN_drewN _ _ _) (congrArg (World.drewN _) (Nat.add_assoc _ _ _))⟩)))
  go_wp2_with fail
  go_ret
  exact ⟨by first | rfl | (simp; done) | (simp [*]; done), by repeat (first | exact Drawn0.refl _ | apply Drawn0.step)⟩

set_option maxHeartbeats 8000000 in
set_option maxRecDepth 100000 in
theorem encoded_OPVXX3 (A1 : Option Addr) (c1 : Nat) (l1 : List Int) (r : Int) (w : World) (hr1 : Kd.C (Kd.int .i64) w A1 l1.length l1) (hn : l1.length = 3) (h : ppc64obj_OPVXX3.f ((rd l1 0) % 4294967296) ((rd l1 1) % 4294967296) ((rd l1 2) % 4294967296) = some r) :
    Calls Try.prog 22 #[.string (⟨#[79, 80, 86, 88, 88, 51]⟩ : ByteArray), .slice A1 l1.length c1] w fun e w' => e = .returned (.int .u32 r) ∧ Drawn0 w w' := by
  have A9 := Aside0.mk h
  clear h
  have HR1 := Aside0.mk hr1
  clear hr1
  have p0 : 0 ≤ (0 : Int) := by omega
  have q0 : 0 < (l1.length : Int) := by omega
  obtain ⟨ad0, e0, hx0⟩ := Kd.at_int HR1.out 0 p0 q0
  cases e0
  (try simp only [show (0 : Int).toNat = 0 from rfl, Nat.reduceMul, Nat.reduceEqDiff, Go.Addr.add, ↓reduceIte] at hx0)
  (try rw [Addr.add_zero'] at hx0)
  have i0 : (0 < l1.length) = True := eq_true (by omega)
  have j0 : (0 < (l1.length : Int)) = True := eq_true (by omega)
  clear p0 q0
  have p1 : 0 ≤ (1 : Int) := by omega
  have q1 : 1 < (l1.length : Int) := by omega
  obtain ⟨ad1, e1, hx1⟩ := Kd.at_int HR1.out 1 p1 q1
  obtain rfl : ad0 = ad1 := (by injection e1)
  (try simp only [show (1 : Int).toNat = 1 from rfl, Nat.reduceMul, Nat.reduceEqDiff, Go.Addr.add, ↓reduceIte] at hx1)
  have i1 : (1 < l1.length) = True := eq_true (by omega)
  have j1 : (1 < (l1.length : Int)) = True := eq_true (by omega)
  clear p1 q1
  clear e1
  have p2 : 0 ≤ (2 : Int) := by omega
  have q2 : 2 < (l1.length : Int) := by omega
  obtain ⟨ad2, e2, hx2⟩ := Kd.at_int HR1.out 2 p2 q2
  obtain rfl : ad0 = ad2 := (by injection e2)
  (try simp only [show (2 : Int).toNat = 2 from rfl, Nat.reduceMul, Nat.reduceEqDiff, Go.Addr.add, ↓reduceIte] at hx2)
  have i2 : (2 < l1.length) = True := eq_true (by omega)
  have j2 : (2 < (l1.length : Int)) = True := eq_true (by omega)
  clear p2 q2
  clear e2
  clear hn
  go_enter Try.func22, Try.ntmps22
  go_wp2_with fail
  go_quiet (first | (go_at_call 25; (with_reducible refine (impl_u.calls _ _ _ rfl).mono ?_); rintro e w' ⟨rfl, ⟨nd, rfl⟩⟩; (try first | exact ⟨rfl, _, World.drewN_drewN _ _ _⟩ | exact ⟨rfl, _, Eq.trans (World.drewN_drewN _ _ _) (congrArg (World.drewN _) (Nat.add_assoc _ _ _))⟩)) | (go_at_call 28; (with_reducible refine (ppc64obj_OPVXX3.calls _ _ _ r _ A9.out).mono ?_); rintro e w' ⟨rfl, ⟨nd, rfl⟩⟩; (try first | exact ⟨rfl, _, World.drewN_drewN _ _ _⟩ | exact ⟨rfl, _, Eq.trans (World.drewN_drewN _ _ _) (congrArg (World.drewN _) (Nat.add_assoc _ _ _))⟩)))
  go_wp2_with fail
  go_ret
  exact ⟨by first | rfl | (simp; done) | (simp [*]; done), by repeat (first | exact Drawn0.refl _ | apply Drawn0.step)⟩

set_option maxHeartbeats 8000000 in
set_option maxRecDepth 100000 in
theorem encoded_OPVXX4 (A1 : Option Addr) (c1 : Nat) (l1 : List Int) (r : Int) (w : World) (hr1 : Kd.C (Kd.int .i64) w A1 l1.length l1) (hn : l1.length = 3) (h : ppc64obj_OPVXX4.f ((rd l1 0) % 4294967296) ((rd l1 1) % 4294967296) ((rd l1 2) % 4294967296) = some r) :
    Calls Try.prog 22 #[.string (⟨#[79, 80, 86, 88, 88, 52]⟩ : ByteArray), .slice A1 l1.length c1] w fun e w' => e = .returned (.int .u32 r) ∧ Drawn0 w w' := by
  have A9 := Aside0.mk h
  clear h
  have HR1 := Aside0.mk hr1
  clear hr1
  have p0 : 0 ≤ (0 : Int) := by omega
  have q0 : 0 < (l1.length : Int) := by omega
  obtain ⟨ad0, e0, hx0⟩ := Kd.at_int HR1.out 0 p0 q0
  cases e0
  (try simp only [show (0 : Int).toNat = 0 from rfl, Nat.reduceMul, Nat.reduceEqDiff, Go.Addr.add, ↓reduceIte] at hx0)
  (try rw [Addr.add_zero'] at hx0)
  have i0 : (0 < l1.length) = True := eq_true (by omega)
  have j0 : (0 < (l1.length : Int)) = True := eq_true (by omega)
  clear p0 q0
  have p1 : 0 ≤ (1 : Int) := by omega
  have q1 : 1 < (l1.length : Int) := by omega
  obtain ⟨ad1, e1, hx1⟩ := Kd.at_int HR1.out 1 p1 q1
  obtain rfl : ad0 = ad1 := (by injection e1)
  (try simp only [show (1 : Int).toNat = 1 from rfl, Nat.reduceMul, Nat.reduceEqDiff, Go.Addr.add, ↓reduceIte] at hx1)
  have i1 : (1 < l1.length) = True := eq_true (by omega)
  have j1 : (1 < (l1.length : Int)) = True := eq_true (by omega)
  clear p1 q1
  clear e1
  have p2 : 0 ≤ (2 : Int) := by omega
  have q2 : 2 < (l1.length : Int) := by omega
  obtain ⟨ad2, e2, hx2⟩ := Kd.at_int HR1.out 2 p2 q2
  obtain rfl : ad0 = ad2 := (by injection e2)
  (try simp only [show (2 : Int).toNat = 2 from rfl, Nat.reduceMul, Nat.reduceEqDiff, Go.Addr.add, ↓reduceIte] at hx2)
  have i2 : (2 < l1.length) = True := eq_true (by omega)
  have j2 : (2 < (l1.length : Int)) = True := eq_true (by omega)
  clear p2 q2
  clear e2
  clear hn
  go_enter Try.func22, Try.ntmps22
  go_wp2_with fail
  go_quiet (first | (go_at_call 25; (with_reducible refine (impl_u.calls _ _ _ rfl).mono ?_); rintro e w' ⟨rfl, ⟨nd, rfl⟩⟩; (try first | exact ⟨rfl, _, World.drewN_drewN _ _ _⟩ | exact ⟨rfl, _, Eq.trans (World.drewN_drewN _ _ _) (congrArg (World.drewN _) (Nat.add_assoc _ _ _))⟩)) | (go_at_call 29; (with_reducible refine (ppc64obj_OPVXX4.calls _ _ _ r _ A9.out).mono ?_); rintro e w' ⟨rfl, ⟨nd, rfl⟩⟩; (try first | exact ⟨rfl, _, World.drewN_drewN _ _ _⟩ | exact ⟨rfl, _, Eq.trans (World.drewN_drewN _ _ _) (congrArg (World.drewN _) (Nat.add_assoc _ _ _))⟩)))
  go_wp2_with fail
  go_ret
  exact ⟨by first | rfl | (simp; done) | (simp [*]; done), by repeat (first | exact Drawn0.refl _ | apply Drawn0.step)⟩

set_option maxHeartbeats 8000000 in
set_option maxRecDepth 100000 in
theorem encoded_OPDQ (A1 : Option Addr) (c1 : Nat) (l1 : List Int) (r : Int) (w : World) (hr1 : Kd.C (Kd.int .i64) w A1 l1.length l1) (hn : l1.length = 3) (h : ppc64obj_OPDQ.f ((rd l1 0) % 4294967296) ((rd l1 1) % 4294967296) ((rd l1 2) % 4294967296) = some r) :
    Calls Try.prog 22 #[.string (⟨#[79, 80, 68, 81]⟩ : ByteArray), .slice A1 l1.length c1] w fun e w' => e = .returned (.int .u32 r) ∧ Drawn0 w w' := by
  have A9 := Aside0.mk h
  clear h
  have HR1 := Aside0.mk hr1
  clear hr1
  have p0 : 0 ≤ (0 : Int) := by omega
  have q0 : 0 < (l1.length : Int) := by omega
  obtain ⟨ad0, e0, hx0⟩ := Kd.at_int HR1.out 0 p0 q0
  cases e0
  (try simp only [show (0 : Int).toNat = 0 from rfl, Nat.reduceMul, Nat.reduceEqDiff, Go.Addr.add, ↓reduceIte] at hx0)
  (try rw [Addr.add_zero'] at hx0)
  have i0 : (0 < l1.length) = True := eq_true (by omega)
  have j0 : (0 < (l1.length : Int)) = True := eq_true (by omega)
  clear p0 q0
  have p1 : 0 ≤ (1 : Int) := by omega
  have q1 : 1 < (l1.length : Int) := by omega
  obtain ⟨ad1, e1, hx1⟩ := Kd.at_int HR1.out 1 p1 q1
  obtain rfl : ad0 = ad1 := (by injection e1)
  (try simp only [show (1 : Int).toNat = 1 from rfl, Nat.reduceMul, Nat.reduceEqDiff, Go.Addr.add, ↓reduceIte] at hx1)
  have i1 : (1 < l1.length) = True := eq_true (by omega)
  have j1 : (1 < (l1.length : Int)) = True := eq_true (by omega)
  clear p1 q1
  clear e1
  have p2 : 0 ≤ (2 : Int) := by omega
  have q2 : 2 < (l1.length : Int) := by omega
  obtain ⟨ad2, e2, hx2⟩ := Kd.at_int HR1.out 2 p2 q2
  obtain rfl : ad0 = ad2 := (by injection e2)
  (try simp only [show (2 : Int).toNat = 2 from rfl, Nat.reduceMul, Nat.reduceEqDiff, Go.Addr.add, ↓reduceIte] at hx2)
  have i2 : (2 < l1.length) = True := eq_true (by omega)
  have j2 : (2 < (l1.length : Int)) = True := eq_true (by omega)
  clear p2 q2
  clear e2
  clear hn
  go_enter Try.func22, Try.ntmps22
  go_wp2_with fail
  go_quiet (first | (go_at_call 25; (with_reducible refine (impl_u.calls _ _ _ rfl).mono ?_); rintro e w' ⟨rfl, ⟨nd, rfl⟩⟩; (try first | exact ⟨rfl, _, World.drewN_drewN _ _ _⟩ | exact ⟨rfl, _, Eq.trans (World.drewN_drewN _ _ _) (congrArg (World.drewN _) (Nat.add_assoc _ _ _))⟩)) | (go_at_call 30; (with_reducible refine (ppc64obj_OPDQ.calls _ _ _ r _ A9.out).mono ?_); rintro e w' ⟨rfl, ⟨nd, rfl⟩⟩; (try first | exact ⟨rfl, _, World.drewN_drewN _ _ _⟩ | exact ⟨rfl, _, Eq.trans (World.drewN_drewN _ _ _) (congrArg (World.drewN _) (Nat.add_assoc _ _ _))⟩)))
  go_wp2_with fail
  go_ret
  exact ⟨by first | rfl | (simp; done) | (simp [*]; done), by repeat (first | exact Drawn0.refl _ | apply Drawn0.step)⟩

set_option maxHeartbeats 8000000 in
set_option maxRecDepth 100000 in
theorem encoded_OPVX (A1 : Option Addr) (c1 : Nat) (l1 : List Int) (r : Int) (w : World) (hr1 : Kd.C (Kd.int .i64) w A1 l1.length l1) (hn : l1.length = 4) (h : ppc64obj_OPVX.f ((rd l1 0) % 4294967296) ((rd l1 1) % 4294967296) ((rd l1 2) % 4294967296) ((rd l1 3) % 4294967296) = some r) :
    Calls Try.prog 22 #[.string (⟨#[79, 80, 86, 88]⟩ : ByteArray), .slice A1 l1.length c1] w fun e w' => e = .returned (.int .u32 r) ∧ Drawn0 w w' := by
  have A9 := Aside0.mk h
  clear h
  have HR1 := Aside0.mk hr1
  clear hr1
  have p0 : 0 ≤ (0 : Int) := by omega
  have q0 : 0 < (l1.length : Int) := by omega
  obtain ⟨ad0, e0, hx0⟩ := Kd.at_int HR1.out 0 p0 q0
  cases e0
  (try simp only [show (0 : Int).toNat = 0 from rfl, Nat.reduceMul, Nat.reduceEqDiff, Go.Addr.add, ↓reduceIte] at hx0)
  (try rw [Addr.add_zero'] at hx0)
  have i0 : (0 < l1.length) = True := eq_true (by omega)
  have j0 : (0 < (l1.length : Int)) = True := eq_true (by omega)
  clear p0 q0
  have p1 : 0 ≤ (1 : Int) := by omega
  have q1 : 1 < (l1.length : Int) := by omega
  obtain ⟨ad1, e1, hx1⟩ := Kd.at_int HR1.out 1 p1 q1
  obtain rfl : ad0 = ad1 := (by injection e1)
  (try simp only [show (1 : Int).toNat = 1 from rfl, Nat.reduceMul, Nat.reduceEqDiff, Go.Addr.add, ↓reduceIte] at hx1)
  have i1 : (1 < l1.length) = True := eq_true (by omega)
  have j1 : (1 < (l1.length : Int)) = True := eq_true (by omega)
  clear p1 q1
  clear e1
  have p2 : 0 ≤ (2 : Int) := by omega
  have q2 : 2 < (l1.length : Int) := by omega
  obtain ⟨ad2, e2, hx2⟩ := Kd.at_int HR1.out 2 p2 q2
  obtain rfl : ad0 = ad2 := (by injection e2)
  (try simp only [show (2 : Int).toNat = 2 from rfl, Nat.reduceMul, Nat.reduceEqDiff, Go.Addr.add, ↓reduceIte] at hx2)
  have i2 : (2 < l1.length) = True := eq_true (by omega)
  have j2 : (2 < (l1.length : Int)) = True := eq_true (by omega)
  clear p2 q2
  clear e2
  have p3 : 0 ≤ (3 : Int) := by omega
  have q3 : 3 < (l1.length : Int) := by omega
  obtain ⟨ad3, e3, hx3⟩ := Kd.at_int HR1.out 3 p3 q3
  obtain rfl : ad0 = ad3 := (by injection e3)
  (try simp only [show (3 : Int).toNat = 3 from rfl, Nat.reduceMul, Nat.reduceEqDiff, Go.Addr.add, ↓reduceIte] at hx3)
  have i3 : (3 < l1.length) = True := eq_true (by omega)
  have j3 : (3 < (l1.length : Int)) = True := eq_true (by omega)
  clear p3 q3
  clear e3
  clear hn
  go_enter Try.func22, Try.ntmps22
  go_wp2_with fail
  go_quiet (first | (go_at_call 25; (with_reducible refine (impl_u.calls _ _ _ rfl).mono ?_); rintro e w' ⟨rfl, ⟨nd, rfl⟩⟩; (try first | exact ⟨rfl, _, World.drewN_drewN _ _ _⟩ | exact ⟨rfl, _, Eq.trans (World.drewN_drewN _ _ _) (congrArg (World.drewN _) (Nat.add_assoc _ _ _))⟩)) | (go_at_call 31; (with_reducible refine (ppc64obj_OPVX.calls _ _ _ _ r _ A9.out).mono ?_); rintro e w' ⟨rfl, ⟨nd, rfl⟩⟩; (try first | exact ⟨rfl, _, World.drewN_drewN _ _ _⟩ | exact ⟨rfl, _, Eq.trans (World.drewN_drewN _ _ _) (congrArg (World.drewN _) (Nat.add_assoc _ _ _))⟩)))
  go_wp2_with fail
  go_ret
  exact ⟨by first | rfl | (simp; done) | (simp [*]; done), by repeat (first | exact Drawn0.refl _ | apply Drawn0.step)⟩

set_option maxHeartbeats 8000000 in
set_option maxRecDepth 100000 in
theorem encoded_OPVC (A1 : Option Addr) (c1 : Nat) (l1 : List Int) (r : Int) (w : World) (hr1 : Kd.C (Kd.int .i64) w A1 l1.length l1) (hn : l1.length = 4) (h : ppc64obj_OPVC.f ((rd l1 0) % 4294967296) ((rd l1 1) % 4294967296) ((rd l1 2) % 4294967296) ((rd l1 3) % 4294967296) = some r) :
    Calls Try.prog 22 #[.string (⟨#[79, 80, 86, 67]⟩ : ByteArray), .slice A1 l1.length c1] w fun e w' => e = .returned (.int .u32 r) ∧ Drawn0 w w' := by
  have A9 := Aside0.mk h
  clear h
  have HR1 := Aside0.mk hr1
  clear hr1
  have p0 : 0 ≤ (0 : Int) := by omega
  have q0 : 0 < (l1.length : Int) := by omega
  obtain ⟨ad0, e0, hx0⟩ := Kd.at_int HR1.out 0 p0 q0
  cases e0
  (try simp only [show (0 : Int).toNat = 0 from rfl, Nat.reduceMul, Nat.reduceEqDiff, Go.Addr.add, ↓reduceIte] at hx0)
  (try rw [Addr.add_zero'] at hx0)
  have i0 : (0 < l1.length) = True := eq_true (by omega)
  have j0 : (0 < (l1.length : Int)) = True := eq_true (by omega)
  clear p0 q0
  have p1 : 0 ≤ (1 : Int) := by omega
  have q1 : 1 < (l1.length : Int) := by omega
  obtain ⟨ad1, e1, hx1⟩ := Kd.at_int HR1.out 1 p1 q1
  obtain rfl : ad0 = ad1 := (by injection e1)
  (try simp only [show (1 : Int).toNat = 1 from rfl, Nat.reduceMul, Nat.reduceEqDiff, Go.Addr.add, ↓reduceIte] at hx1)
  have i1 : (1 < l1.length) = True := eq_true (by omega)
  have j1 : (1 < (l1.length : Int)) = True := eq_true (by omega)
  clear p1 q1
  clear e1
  have p2 : 0 ≤ (2 : Int) := by omega
  have q2 : 2 < (l1.length : Int) := by omega
  obtain ⟨ad2, e2, hx2⟩ := Kd.at_int HR1.out 2 p2 q2
  obtain rfl : ad0 = ad2 := (by injection e2)
  (try simp only [show (2 : Int).toNat = 2 from rfl, Nat.reduceMul, Nat.reduceEqDiff, Go.Addr.add, ↓reduceIte] at hx2)
  have i2 : (2 < l1.length) = True := eq_true (by omega)
  have j2 : (2 < (l1.length : Int)) = True := eq_true (by omega)
  clear p2 q2
  clear e2
  have p3 : 0 ≤ (3 : Int) := by omega
  have q3 : 3 < (l1.length : Int) := by omega
  obtain ⟨ad3, e3, hx3⟩ := Kd.at_int HR1.out 3 p3 q3
  obtain rfl : ad0 = ad3 := (by injection e3)
  (try simp only [show (3 : Int).toNat = 3 from rfl, Nat.reduceMul, Nat.reduceEqDiff, Go.Addr.add, ↓reduceIte] at hx3)
  have i3 : (3 < l1.length) = True := eq_true (by omega)
  have j3 : (3 < (l1.length : Int)) = True := eq_true (by omega)
  clear p3 q3
  clear e3
  clear hn
  go_enter Try.func22, Try.ntmps22
  go_wp2_with fail
  go_quiet (first | (go_at_call 25; (with_reducible refine (impl_u.calls _ _ _ rfl).mono ?_); rintro e w' ⟨rfl, ⟨nd, rfl⟩⟩; (try first | exact ⟨rfl, _, World.drewN_drewN _ _ _⟩ | exact ⟨rfl, _, Eq.trans (World.drewN_drewN _ _ _) (congrArg (World.drewN _) (Nat.add_assoc _ _ _))⟩)) | (go_at_call 32; (with_reducible refine (ppc64obj_OPVC.calls _ _ _ _ r _ A9.out).mono ?_); rintro e w' ⟨rfl, ⟨nd, rfl⟩⟩; (try first | exact ⟨rfl, _, World.drewN_drewN _ _ _⟩ | exact ⟨rfl, _, Eq.trans (World.drewN_drewN _ _ _) (congrArg (World.drewN _) (Nat.add_assoc _ _ _))⟩)))
  go_wp2_with fail
  go_ret
  exact ⟨by first | rfl | (simp; done) | (simp [*]; done), by repeat (first | exact Drawn0.refl _ | apply Drawn0.step)⟩

set_option maxHeartbeats 8000000 in
set_option maxRecDepth 100000 in
theorem encoded_OPVCC (A1 : Option Addr) (c1 : Nat) (l1 : List Int) (r : Int) (w : World) (hr1 : Kd.C (Kd.int .i64) w A1 l1.length l1) (hn : l1.length = 4) (h : ppc64obj_OPVCC.f ((rd l1 0) % 4294967296) ((rd l1 1) % 4294967296) ((rd l1 2) % 4294967296) ((rd l1 3) % 4294967296) = some r) :
    Calls Try.prog 22 #[.string (⟨#[79, 80, 86, 67, 67]⟩ : ByteArray), .slice A1 l1.length c1] w fun e w' => e = .returned (.int .u32 r) ∧ Drawn0 w w' := by
  have A9 := Aside0.mk h
  clear h
  have HR1 := Aside0.mk hr1
  clear hr1
  have p0 : 0 ≤ (0 : Int) := by omega
  have q0 : 0 < (l1.length : Int) := by omega
  obtain ⟨ad0, e0, hx0⟩ := Kd.at_int HR1.out 0 p0 q0
  cases e0
  (try simp only [show (0 : Int).toNat = 0 from rfl, Nat.reduceMul, Nat.reduceEqDiff, Go.Addr.add, ↓reduceIte] at hx0)
  (try rw [Addr.add_zero'] at hx0)
  have i0 : (0 < l1.length) = True := eq_true (by omega)
  have j0 : (0 < (l1.length : Int)) = True := eq_true (by omega)
  clear p0 q0
  have p1 : 0 ≤ (1 : Int) := by omega
  have q1 : 1 < (l1.length : Int) := by omega
  obtain ⟨ad1, e1, hx1⟩ := Kd.at_int HR1.out 1 p1 q1
  obtain rfl : ad0 = ad1 := (by injection e1)
  (try simp only [show (1 : Int).toNat = 1 from rfl, Nat.reduceMul, Nat.reduceEqDiff, Go.Addr.add, ↓reduceIte] at hx1)
  have i1 : (1 < l1.length) = True := eq_true (by omega)
  have j1 : (1 < (l1.length : Int)) = True := eq_true (by omega)
  clear p1 q1
  clear e1
  have p2 : 0 ≤ (2 : Int) := by omega
  have q2 : 2 < (l1.length : Int) := by omega
  obtain ⟨ad2, e2, hx2⟩ := Kd.at_int HR1.out 2 p2 q2
  obtain rfl : ad0 = ad2 := (by injection e2)
  (try simp only [show (2 : Int).toNat = 2 from rfl, Nat.reduceMul, Nat.reduceEqDiff, Go.Addr.add, ↓reduceIte] at hx2)
  have i2 : (2 < l1.length) = True := eq_true (by omega)
  have j2 : (2 < (l1.length : Int)) = True := eq_true (by omega)
  clear p2 q2
  clear e2
  have p3 : 0 ≤ (3 : Int) := by omega
  have q3 : 3 < (l1.length : Int) := by omega
  obtain ⟨ad3, e3, hx3⟩ := Kd.at_int HR1.out 3 p3 q3
  obtain rfl : ad0 = ad3 := (by injection e3)
  (try simp only [show (3 : Int).toNat = 3 from rfl, Nat.reduceMul, Nat.reduceEqDiff, Go.Addr.add, ↓reduceIte] at hx3)
  have i3 : (3 < l1.length) = True := eq_true (by omega)
  have j3 : (3 < (l1.length : Int)) = True := eq_true (by omega)
  clear p3 q3
  clear e3
  clear hn
  go_enter Try.func22, Try.ntmps22
  go_wp2_with fail
  go_quiet (first | (go_at_call 25; (with_reducible refine (impl_u.calls _ _ _ rfl).mono ?_); rintro e w' ⟨rfl, ⟨nd, rfl⟩⟩; (try first | exact ⟨rfl, _, World.drewN_drewN _ _ _⟩ | exact ⟨rfl, _, Eq.trans (World.drewN_drewN _ _ _) (congrArg (World.drewN _) (Nat.add_assoc _ _ _))⟩)) | (go_at_call 33; (with_reducible refine (ppc64obj_OPVCC.calls _ _ _ _ r _ A9.out).mono ?_); rintro e w' ⟨rfl, ⟨nd, rfl⟩⟩; (try first | exact ⟨rfl, _, World.drewN_drewN _ _ _⟩ | exact ⟨rfl, _, Eq.trans (World.drewN_drewN _ _ _) (congrArg (World.drewN _) (Nat.add_assoc _ _ _))⟩)))
  go_wp2_with fail
  go_ret
  exact ⟨by first | rfl | (simp; done) | (simp [*]; done), by repeat (first | exact Drawn0.refl _ | apply Drawn0.step)⟩

set_option maxHeartbeats 8000000 in
set_option maxRecDepth 100000 in
theorem encoded_OPMD (A1 : Option Addr) (c1 : Nat) (l1 : List Int) (r : Int) (w : World) (hr1 : Kd.C (Kd.int .i64) w A1 l1.length l1) (hn : l1.length = 3) (h : ppc64obj_OPMD.f ((rd l1 0) % 4294967296) ((rd l1 1) % 4294967296) ((rd l1 2) % 4294967296) = some r) :
    Calls Try.prog 22 #[.string (⟨#[79, 80, 77, 68]⟩ : ByteArray), .slice A1 l1.length c1] w fun e w' => e = .returned (.int .u32 r) ∧ Drawn0 w w' := by
  have A9 := Aside0.mk h
  clear h
  have HR1 := Aside0.mk hr1
  clear hr1
  have p0 : 0 ≤ (0 : Int) := by omega
  have q0 : 0 < (l1.length : Int) := by omega
  obtain ⟨ad0, e0, hx0⟩ := Kd.at_int HR1.out 0 p0 q0
  cases e0
  (try simp only [show (0 : Int).toNat = 0 from rfl, Nat.reduceMul, Nat.reduceEqDiff, Go.Addr.add, ↓reduceIte] at hx0)
  (try rw [Addr.add_zero'] at hx0)
  have i0 : (0 < l1.length) = True := eq_true (by omega)
  have j0 : (0 < (l1.length : Int)) = True := eq_true (by omega)
  clear p0 q0
  have p1 : 0 ≤ (1 : Int) := by omega
  have q1 : 1 < (l1.length : Int) := by omega
  obtain ⟨ad1, e1, hx1⟩ := Kd.at_int HR1.out 1 p1 q1
  obtain rfl : ad0 = ad1 := (by injection e1)
  (try simp only [show (1 : Int).toNat = 1 from rfl, Nat.reduceMul, Nat.reduceEqDiff, Go.Addr.add, ↓reduceIte] at hx1)
  have i1 : (1 < l1.length) = True := eq_true (by omega)
  have j1 : (1 < (l1.length : Int)) = True := eq_true (by omega)
  clear p1 q1
  clear e1
  have p2 : 0 ≤ (2 : Int) := by omega
  have q2 : 2 < (l1.length : Int) := by omega
  obtain ⟨ad2, e2, hx2⟩ := Kd.at_int HR1.out 2 p2 q2
  obtain rfl : ad0 = ad2 := (by injection e2)
  (try simp only [show (2 : Int).toNat = 2 from rfl, Nat.reduceMul, Nat.reduceEqDiff, Go.Addr.add, ↓reduceIte] at hx2)
  have i2 : (2 < l1.length) = True := eq_true (by omega)
  have j2 : (2 < (l1.length : Int)) = True := eq_true (by omega)
  clear p2 q2
  clear e2
  clear hn
  go_enter Try.func22, Try.ntmps22
  go_wp2_with fail
  go_quiet (first | (go_at_call 25; (with_reducible refine (impl_u.calls _ _ _ rfl).mono ?_); rintro e w' ⟨rfl, ⟨nd, rfl⟩⟩; (try first | exact ⟨rfl, _, World.drewN_drewN _ _ _⟩ | exact ⟨rfl, _, Eq.trans (World.drewN_drewN _ _ _) (congrArg (World.drewN _) (Nat.add_assoc _ _ _))⟩)) | (go_at_call 34; (with_reducible refine (ppc64obj_OPMD.calls _ _ _ r _ A9.out).mono ?_); rintro e w' ⟨rfl, ⟨nd, rfl⟩⟩; (try first | exact ⟨rfl, _, World.drewN_drewN _ _ _⟩ | exact ⟨rfl, _, Eq.trans (World.drewN_drewN _ _ _) (congrArg (World.drewN _) (Nat.add_assoc _ _ _))⟩)))
  go_wp2_with fail
  go_ret
  exact ⟨by first | rfl | (simp; done) | (simp [*]; done), by repeat (first | exact Drawn0.refl _ | apply Drawn0.step)⟩

set_option maxHeartbeats 8000000 in
set_option maxRecDepth 100000 in
theorem encoded_AOP_RRR (A1 : Option Addr) (c1 : Nat) (l1 : List Int) (r : Int) (w : World) (hr1 : Kd.C (Kd.int .i64) w A1 l1.length l1) (hn : l1.length = 4) (h : ppc64obj_AOP_RRR.f ((rd l1 0) % 4294967296) ((rd l1 1) % 4294967296) ((rd l1 2) % 4294967296) ((rd l1 3) % 4294967296) = some r) :
    Calls Try.prog 22 #[.string (⟨#[65, 79, 80, 95, 82, 82, 82]⟩ : ByteArray), .slice A1 l1.length c1] w fun e w' => e = .returned (.int .u32 r) ∧ Drawn0 w w' := by
  have A9 := Aside0.mk h
  clear h
  have HR1 := Aside0.mk hr1
  clear hr1
  have p0 : 0 ≤ (0 : Int) := by omega
  have q0 : 0 < (l1.length : Int) := by omega
  obtain ⟨ad0, e0, hx0⟩ := Kd.at_int HR1.out 0 p0 q0
  cases e0
  (try simp only [show (0 : Int).toNat = 0 from rfl, Nat.reduceMul, Nat.reduceEqDiff, Go.Addr.add, ↓reduceIte] at hx0)
  (try rw [Addr.add_zero'] at hx0)
  have i0 : (0 < l1.length) = True := eq_true (by omega)
  have j0 : (0 < (l1.length : Int)) = True := eq_true (by omega)
  clear p0 q0
  have p1 : 0 ≤ (1 : Int) := by omega
  have q1 : 1 < (l1.length : Int) := by omega
  obtain ⟨ad1, e1, hx1⟩ := Kd.at_int HR1.out 1 p1 q1
  obtain rfl : ad0 = ad1 := (by injection e1)
  (try simp only [show (1 : Int).toNat = 1 from rfl, Nat.reduceMul, Nat.reduceEqDiff, Go.Addr.add, ↓reduceIte] at hx1)
  have i1 : (1 < l1.length) = True := eq_true (by omega)
  have j1 : (1 < (l1.length : Int)) = True := eq_true (by omega)
  clear p1 q1
  clear e1
  have p2 : 0 ≤ (2 : Int) := by omega
  have q2 : 2 < (l1.length : Int) := by omega
  obtain ⟨ad2, e2, hx2⟩ := Kd.at_int HR1.out 2 p2 q2
  obtain rfl : ad0 = ad2 := (by injection e2)
  (try simp only [show (2 : Int).toNat = 2 from rfl, Nat.reduceMul, Nat.reduceEqDiff, Go.Addr.add, ↓reduceIte] at hx2)
  have i2 : (2 < l1.length) = True := eq_true (by omega)
  have j2 : (2 < (l1.length : Int)) = True := eq_true (by omega)
  clear p2 q2
  clear e2
  have p3 : 0 ≤ (3 : Int) := by omega
  have q3 : 3 < (l1.length : Int) := by omega
  obtain ⟨ad3, e3, hx3⟩ := Kd.at_int HR1.out 3 p3 q3
  obtain rfl : ad0 = ad3 := (by injection e3)
  (try simp only [show (3 : Int).toNat = 3 from rfl, Nat.reduceMul, Nat.reduceEqDiff, Go.Addr.add, ↓reduceIte] at hx3)
  have i3 : (3 < l1.length) = True := eq_true (by omega)
  have j3 : (3 < (l1.length : Int)) = True := eq_true (by omega)
  clear p3 q3
  clear e3
  clear hn
  go_enter Try.func22, Try.ntmps22
  go_wp2_with fail
  go_quiet (first | (go_at_call 25; (with_reducible refine (impl_u.calls _ _ _ rfl).mono ?_); rintro e w' ⟨rfl, ⟨nd, rfl⟩⟩; (try first | exact ⟨rfl, _, World.drewN_drewN _ _ _⟩ | exact ⟨rfl, _, Eq.trans (World.drewN_drewN _ _ _) (congrArg (World.drewN _) (Nat.add_assoc _ _ _))⟩)) | (go_at_call 35; (with_reducible refine (ppc64obj_AOP_RRR.calls _ _ _ _ r _ A9.out).mono ?_); rintro e w' ⟨rfl, ⟨nd, rfl⟩⟩; (try first | exact ⟨rfl, _, World.drewN_drewN _ _ _⟩ | exact ⟨rfl, _, Eq.trans (World.drewN_drewN _ _ _) (congrArg (World.drewN _) (Nat.add_assoc _ _ _))⟩)))
  go_wp2_with fail
  go_ret
  exact ⟨by first | rfl | (simp; done) | (simp [*]; done), by repeat (first | exact Drawn0.refl _ | apply Drawn0.step)⟩

set_option maxHeartbeats 8000000 in
set_option maxRecDepth 100000 in
theorem encoded_AOP_RR (A1 : Option Addr) (c1 : Nat) (l1 : List Int) (r : Int) (w : World) (hr1 : Kd.C (Kd.int .i64) w A1 l1.length l1) (hn : l1.length = 3) (h : ppc64obj_AOP_RR.f ((rd l1 0) % 4294967296) ((rd l1 1) % 4294967296) ((rd l1 2) % 4294967296) = some r) :
    Calls Try.prog 22 #[.string (⟨#[65, 79, 80, 95, 82, 82]⟩ : ByteArray), .slice A1 l1.length c1] w fun e w' => e = .returned (.int .u32 r) ∧ Drawn0 w w' := by
  have A9 := Aside0.mk h
  clear h
  have HR1 := Aside0.mk hr1
  clear hr1
  have p0 : 0 ≤ (0 : Int) := by omega
  have q0 : 0 < (l1.length : Int) := by omega
  obtain ⟨ad0, e0, hx0⟩ := Kd.at_int HR1.out 0 p0 q0
  cases e0
  (try simp only [show (0 : Int).toNat = 0 from rfl, Nat.reduceMul, Nat.reduceEqDiff, Go.Addr.add, ↓reduceIte] at hx0)
  (try rw [Addr.add_zero'] at hx0)
  have i0 : (0 < l1.length) = True := eq_true (by omega)
  have j0 : (0 < (l1.length : Int)) = True := eq_true (by omega)
  clear p0 q0
  have p1 : 0 ≤ (1 : Int) := by omega
  have q1 : 1 < (l1.length : Int) := by omega
  obtain ⟨ad1, e1, hx1⟩ := Kd.at_int HR1.out 1 p1 q1
  obtain rfl : ad0 = ad1 := (by injection e1)
  (try simp only [show (1 : Int).toNat = 1 from rfl, Nat.reduceMul, Nat.reduceEqDiff, Go.Addr.add, ↓reduceIte] at hx1)
  have i1 : (1 < l1.length) = True := eq_true (by omega)
  have j1 : (1 < (l1.length : Int)) = True := eq_true (by omega)
  clear p1 q1
  clear e1
  have p2 : 0 ≤ (2 : Int) := by omega
  have q2 : 2 < (l1.length : Int) := by omega
  obtain ⟨ad2, e2, hx2⟩ := Kd.at_int HR1.out 2 p2 q2
  obtain rfl : ad0 = ad2 := (by injection e2)
  (try simp only [show (2 : Int).toNat = 2 from rfl, Nat.reduceMul, Nat.reduceEqDiff, Go.Addr.add, ↓reduceIte] at hx2)
  have i2 : (2 < l1.length) = True := eq_true (by omega)
  have j2 : (2 < (l1.length : Int)) = True := eq_true (by omega)
  clear p2 q2
  clear e2
  clear hn
  go_enter Try.func22, Try.ntmps22
  go_wp2_with fail
  go_quiet (first | (go_at_call 25; (with_reducible refine (impl_u.calls _ _ _ rfl).mono ?_); rintro e w' ⟨rfl, ⟨nd, rfl⟩⟩; (try first | exact ⟨rfl, _, World.drewN_drewN _ _ _⟩ | exact ⟨rfl, _, Eq.trans (World.drewN_drewN _ _ _) (congrArg (World.drewN _) (Nat.add_assoc _ _ _))⟩)) | (go_at_call 36; (with_reducible refine (ppc64obj_AOP_RR.calls _ _ _ r _ A9.out).mono ?_); rintro e w' ⟨rfl, ⟨nd, rfl⟩⟩; (try first | exact ⟨rfl, _, World.drewN_drewN _ _ _⟩ | exact ⟨rfl, _, Eq.trans (World.drewN_drewN _ _ _) (congrArg (World.drewN _) (Nat.add_assoc _ _ _))⟩)))
  go_wp2_with fail
  go_ret
  exact ⟨by first | rfl | (simp; done) | (simp [*]; done), by repeat (first | exact Drawn0.refl _ | apply Drawn0.step)⟩

set_option maxHeartbeats 8000000 in
set_option maxRecDepth 100000 in
theorem encoded_AOP_RRRR (A1 : Option Addr) (c1 : Nat) (l1 : List Int) (r : Int) (w : World) (hr1 : Kd.C (Kd.int .i64) w A1 l1.length l1) (hn : l1.length = 5) (h : ppc64obj_AOP_RRRR.f ((rd l1 0) % 4294967296) ((rd l1 1) % 4294967296) ((rd l1 2) % 4294967296) ((rd l1 3) % 4294967296) ((rd l1 4) % 4294967296) = some r) :
    Calls Try.prog 22 #[.string (⟨#[65, 79, 80, 95, 82, 82, 82, 82]⟩ : ByteArray), .slice A1 l1.length c1] w fun e w' => e = .returned (.int .u32 r) ∧ Drawn0 w w' := by
  have A9 := Aside0.mk h
  clear h
  have HR1 := Aside0.mk hr1
  clear hr1
  have p0 : 0 ≤ (0 : Int) := by omega
  have q0 : 0 < (l1.length : Int) := by omega
  obtain ⟨ad0, e0, hx0⟩ := Kd.at_int HR1.out 0 p0 q0
  cases e0
  (try simp only [show (0 : Int).toNat = 0 from rfl, Nat.reduceMul, Nat.reduceEqDiff, Go.Addr.add, ↓reduceIte] at hx0)
  (try rw [Addr.add_zero'] at hx0)
  have i0 : (0 < l1.length) = True := eq_true (by omega)
  have j0 : (0 < (l1.length : Int)) = True := eq_true (by omega)
  clear p0 q0
  have p1 : 0 ≤ (1 : Int) := by omega
  have q1 : 1 < (l1.length : Int) := by omega
  obtain ⟨ad1, e1, hx1⟩ := Kd.at_int HR1.out 1 p1 q1
  obtain rfl : ad0 = ad1 := (by injection e1)
  (try simp only [show (1 : Int).toNat = 1 from rfl, Nat.reduceMul, Nat.reduceEqDiff, Go.Addr.add, ↓reduceIte] at hx1)
  have i1 : (1 < l1.length) = True := eq_true (by omega)
  have j1 : (1 < (l1.length : Int)) = True := eq_true (by omega)
  clear p1 q1
  clear e1
  have p2 : 0 ≤ (2 : Int) := by omega
  have q2 : 2 < (l1.length : Int) := by omega
  obtain ⟨ad2, e2, hx2⟩ := Kd.at_int HR1.out 2 p2 q2
  obtain rfl : ad0 = ad2 := (by injection e2)
  (try simp only [show (2 : Int).toNat = 2 from rfl, Nat.reduceMul, Nat.reduceEqDiff, Go.Addr.add, ↓reduceIte] at hx2)
  have i2 : (2 < l1.length) = True := eq_true (by omega)
  have j2 : (2 < (l1.length : Int)) = True := eq_true (by omega)
  clear p2 q2
  clear e2
  have p3 : 0 ≤ (3 : Int) := by omega
  have q3 : 3 < (l1.length : Int) := by omega
  obtain ⟨ad3, e3, hx3⟩ := Kd.at_int HR1.out 3 p3 q3
  obtain rfl : ad0 = ad3 := (by injection e3)
  (try simp only [show (3 : Int).toNat = 3 from rfl, Nat.reduceMul, Nat.reduceEqDiff, Go.Addr.add, ↓reduceIte] at hx3)
  have i3 : (3 < l1.length) = True := eq_true (by omega)
  have j3 : (3 < (l1.length : Int)) = True := eq_true (by omega)
  clear p3 q3
  clear e3
  have p4 : 0 ≤ (4 : Int) := by omega
  have q4 : 4 < (l1.length : Int) := by omega
  obtain ⟨ad4, e4, hx4⟩ := Kd.at_int HR1.out 4 p4 q4
  obtain rfl : ad0 = ad4 := (by injection e4)
  (try simp only [show (4 : Int).toNat = 4 from rfl, Nat.reduceMul, Nat.reduceEqDiff, Go.Addr.add, ↓reduceIte] at hx4)
  have i4 : (4 < l1.length) = True := eq_true (by omega)
  have j4 : (4 < (l1.length : Int)) = True := eq_true (by omega)
  clear p4 q4
  clear e4
  clear hn
  go_enter Try.func22, Try.ntmps22
  go_wp2_with fail
  go_quiet (first | (go_at_call 25; (with_reducible refine (impl_u.calls _ _ _ rfl).mono ?_); rintro e w' ⟨rfl, ⟨nd, rfl⟩⟩; (try first | exact ⟨rfl, _, World.drewN_drewN _ _ _⟩ | exact ⟨rfl, _, Eq.trans (World.drewN_drewN _ _ _) (congrArg (World.drewN _) (Nat.add_assoc _ _ _))⟩)) | (go_at_call 37; (with_reducible refine (ppc64obj_AOP_RRRR.calls _ _ _ _ _ r _ A9.out).mono ?_); rintro e w' ⟨rfl, ⟨nd, rfl⟩⟩; (try first | exact ⟨rfl, _, World.drewN_drewN _ _ _⟩ | exact ⟨rfl, _, Eq.trans (World.drewN_drewN _ _ _) (congrArg (World.drewN _) (Nat.add_assoc _ _ _))⟩)))
  go_wp2_with fail
  go_ret
  exact ⟨by first | rfl | (simp; done) | (simp [*]; done), by repeat (first | exact Drawn0.refl _ | apply Drawn0.step)⟩

set_option maxHeartbeats 8000000 in
set_option maxRecDepth 100000 in
theorem encoded_AOP_IRR (A1 : Option Addr) (c1 : Nat) (l1 : List Int) (r : Int) (w : World) (hr1 : Kd.C (Kd.int .i64) w A1 l1.length l1) (hn : l1.length = 4) (h : ppc64obj_AOP_IRR.f ((rd l1 0) % 4294967296) ((rd l1 1) % 4294967296) ((rd l1 2) % 4294967296) ((rd l1 3) % 4294967296) = some r) :
    Calls Try.prog 22 #[.string (⟨#[65, 79, 80, 95, 73, 82, 82]⟩ : ByteArray), .slice A1 l1.length c1] w fun e w' => e = .returned (.int .u32 r) ∧ Drawn0 w w' := by
  have A9 := Aside0.mk h
  clear h
  have HR1 := Aside0.mk hr1
  clear hr1
  have p0 : 0 ≤ (0 : Int) := by omega
  have q0 : 0 < (l1.length : Int) := by omega
  obtain ⟨ad0, e0, hx0⟩ := Kd.at_int HR1.out 0 p0 q0
  cases e0
  (try simp only [show (0 : Int).toNat = 0 from rfl, Nat.reduceMul, Nat.reduceEqDiff, Go.Addr.add, ↓reduceIte] at hx0)
  (try rw [Addr.add_zero'] at hx0)
  have i0 : (0 < l1.length) = True := eq_true (by omega)
  have j0 : (0 < (l1.length : Int)) = True := eq_true (by omega)
  clear p0 q0
  have p1 : 0 ≤ (1 : Int) := by omega
  have q1 : 1 < (l1.length : Int) := by omega
  obtain ⟨ad1, e1, hx1⟩ := Kd.at_int HR1.out 1 p1 q1
  obtain rfl : ad0 = ad1 := (by injection e1)
  (try simp only [show (1 : Int).toNat = 1 from rfl, Nat.reduceMul, Nat.reduceEqDiff, Go.Addr.add, ↓reduceIte] at hx1)
  have i1 : (1 < l1.length) = True := eq_true (by omega)
  have j1 : (1 < (l1.length : Int)) = True := eq_true (by omega)
  clear p1 q1
  clear e1
  have p2 : 0 ≤ (2 : Int) := by omega
  have q2 : 2 < (l1.length : Int) := by omega
  obtain ⟨ad2, e2, hx2⟩ := Kd.at_int HR1.out 2 p2 q2
  obtain rfl : ad0 = ad2 := (by injection e2)
  (try simp only [show (2 : Int).toNat = 2 from rfl, Nat.reduceMul, Nat.reduceEqDiff, Go.Addr.add, ↓reduceIte] at hx2)
  have i2 : (2 < l1.length) = True := eq_true (by omega)
  have j2 : (2 < (l1.length : Int)) = True := eq_true (by omega)
  clear p2 q2
  clear e2
  have p3 : 0 ≤ (3 : Int) := by omega
  have q3 : 3 < (l1.length : Int) := by omega
  obtain ⟨ad3, e3, hx3⟩ := Kd.at_int HR1.out 3 p3 q3
  obtain rfl : ad0 = ad3 := (by injection e3)
  (try simp only [show (3 : Int).toNat = 3 from rfl, Nat.reduceMul, Nat.reduceEqDiff, Go.Addr.add, ↓reduceIte] at hx3)
  have i3 : (3 < l1.length) = True := eq_true (by omega)
  have j3 : (3 < (l1.length : Int)) = True := eq_true (by omega)
  clear p3 q3
  clear e3
  clear hn
  go_enter Try.func22, Try.ntmps22
  go_wp2_with fail
  go_quiet (first | (go_at_call 25; (with_reducible refine (impl_u.calls _ _ _ rfl).mono ?_); rintro e w' ⟨rfl, ⟨nd, rfl⟩⟩; (try first | exact ⟨rfl, _, World.drewN_drewN _ _ _⟩ | exact ⟨rfl, _, Eq.trans (World.drewN_drewN _ _ _) (congrArg (World.drewN _) (Nat.add_assoc _ _ _))⟩)) | (go_at_call 38; (with_reducible refine (ppc64obj_AOP_IRR.calls _ _ _ _ r _ A9.out).mono ?_); rintro e w' ⟨rfl, ⟨nd, rfl⟩⟩; (try first | exact ⟨rfl, _, World.drewN_drewN _ _ _⟩ | exact ⟨rfl, _, Eq.trans (World.drewN_drewN _ _ _) (congrArg (World.drewN _) (Nat.add_assoc _ _ _))⟩)))
  go_wp2_with fail
  go_ret
  exact ⟨by first | rfl | (simp; done) | (simp [*]; done), by repeat (first | exact Drawn0.refl _ | apply Drawn0.step)⟩

set_option maxHeartbeats 8000000 in
set_option maxRecDepth 100000 in
theorem encoded_AOP_VIRR (A1 : Option Addr) (c1 : Nat) (l1 : List Int) (r : Int) (w : World) (hr1 : Kd.C (Kd.int .i64) w A1 l1.length l1) (hn : l1.length = 4) (h : ppc64obj_AOP_VIRR.f ((rd l1 0) % 4294967296) ((rd l1 1) % 4294967296) ((rd l1 2) % 4294967296) ((rd l1 3) % 4294967296) = some r) :
    Calls Try.prog 22 #[.string (⟨#[65, 79, 80, 95, 86, 73, 82, 82]⟩ : ByteArray), .slice A1 l1.length c1] w fun e w' => e = .returned (.int .u32 r) ∧ Drawn0 w w' := by
  have A9 := Aside0.mk h
  clear h
  have HR1 := Aside0.mk hr1
  clear hr1
  have p0 : 0 ≤ (0 : Int) := by omega
  have q0 : 0 < (l1.length : Int) := by omega
  obtain ⟨ad0, e0, hx0⟩ := Kd.at_int HR1.out 0 p0 q0
  cases e0
  (try simp only [show (0 : Int).toNat = 0 from rfl, Nat.reduceMul, Nat.reduceEqDiff, Go.Addr.add, ↓reduceIte] at hx0)
  (try rw [Addr.add_zero'] at hx0)
  have i0 : (0 < l1.length) = True := eq_true (by omega)
  have j0 : (0 < (l1.length : Int)) = True := eq_true (by omega)
  clear p0 q0
  have p1 : 0 ≤ (1 : Int) := by omega
  have q1 : 1 < (l1.length : Int) := by omega
  obtain ⟨ad1, e1, hx1⟩ := Kd.at_int HR1.out 1 p1 q1
  obtain rfl : ad0 = ad1 := (by injection e1)
  (try simp only [show (1 : Int).toNat = 1 from rfl, Nat.reduceMul, Nat.reduceEqDiff, Go.Addr.add, ↓reduceIte] at hx1)
  have i1 : (1 < l1.length) = True := eq_true (by omega)
  have j1 : (1 < (l1.length : Int)) = True := eq_true (by omega)
  clear p1 q1
  clear e1
  have p2 : 0 ≤ (2 : Int) := by omega
  have q2 : 2 < (l1.length : Int) := by omega
  obtain ⟨ad2, e2, hx2⟩ := Kd.at_int HR1.out 2 p2 q2
  obtain rfl : ad0 = ad2 := (by injection e2)
  (try simp only [show (2 : Int).toNat = 2 from rfl, Nat.reduceMul, Nat.reduceEqDiff, Go.Addr.add, ↓reduceIte] at hx2)
  have i2 : (2 < l1.length) = True := eq_true (by omega)
  have j2 : (2 < (l1.length : Int)) = True := eq_true (by omega)
  clear p2 q2
  clear e2
  have p3 : 0 ≤ (3 : Int) := by omega
  have q3 : 3 < (l1.length : Int) := by omega
  obtain ⟨ad3, e3, hx3⟩ := Kd.at_int HR1.out 3 p3 q3
  obtain rfl : ad0 = ad3 := (by injection e3)
  (try simp only [show (3 : Int).toNat = 3 from rfl, Nat.reduceMul, Nat.reduceEqDiff, Go.Addr.add, ↓reduceIte] at hx3)
  have i3 : (3 < l1.length) = True := eq_true (by omega)
  have j3 : (3 < (l1.length : Int)) = True := eq_true (by omega)
  clear p3 q3
  clear e3
  clear hn
  go_enter Try.func22, Try.ntmps22
  go_wp2_with fail
  go_quiet (first | (go_at_call 25; (with_reducible refine (impl_u.calls _ _ _ rfl).mono ?_); rintro e w' ⟨rfl, ⟨nd, rfl⟩⟩; (try first | exact ⟨rfl, _, World.drewN_drewN _ _ _⟩ | exact ⟨rfl, _, Eq.trans (World.drewN_drewN _ _ _) (congrArg (World.drewN _) (Nat.add_assoc _ _ _))⟩)) | (go_at_call 39; (with_reducible refine (ppc64obj_AOP_VIRR.calls _ _ _ _ r _ A9.out).mono ?_); rintro e w' ⟨rfl, ⟨nd, rfl⟩⟩; (try first | exact ⟨rfl, _, World.drewN_drewN _ _ _⟩ | exact ⟨rfl, _, Eq.trans (World.drewN_drewN _ _ _) (congrArg (World.drewN _) (Nat.add_assoc _ _ _))⟩)))
  go_wp2_with fail
  go_ret
  exact ⟨by first | rfl | (simp; done) | (simp [*]; done), by repeat (first | exact Drawn0.refl _ | apply Drawn0.step)⟩

set_option maxHeartbeats 8000000 in
set_option maxRecDepth 100000 in
theorem encoded_AOP_IIRR (A1 : Option Addr) (c1 : Nat) (l1 : List Int) (r : Int) (w : World) (hr1 : Kd.C (Kd.int .i64) w A1 l1.length l1) (hn : l1.length = 5) (h : ppc64obj_AOP_IIRR.f ((rd l1 0) % 4294967296) ((rd l1 1) % 4294967296) ((rd l1 2) % 4294967296) ((rd l1 3) % 4294967296) ((rd l1 4) % 4294967296) = some r) :
    Calls Try.prog 22 #[.string (⟨#[65, 79, 80, 95, 73, 73, 82, 82]⟩ : ByteArray), .slice A1 l1.length c1] w fun e w' => e = .returned (.int .u32 r) ∧ Drawn0 w w' := by
  have A9 := Aside0.mk h
  clear h
  have HR1 := Aside0.mk hr1
  clear hr1
  have p0 : 0 ≤ (0 : Int) := by omega
  have q0 : 0 < (l1.length : Int) := by omega
  obtain ⟨ad0, e0, hx0⟩ := Kd.at_int HR1.out 0 p0 q0
  cases e0
  (try simp only [show (0 : Int).toNat = 0 from rfl, Nat.reduceMul, Nat.reduceEqDiff, Go.Addr.add, ↓reduceIte] at hx0)
  (try rw [Addr.add_zero'] at hx0)
  have i0 : (0 < l1.length) = True := eq_true (by omega)
  have j0 : (0 < (l1.length : Int)) = True := eq_true (by omega)
  clear p0 q0
  have p1 : 0 ≤ (1 : Int) := by omega
  have q1 : 1 < (l1.length : Int) := by omega
  obtain ⟨ad1, e1, hx1⟩ := Kd.at_int HR1.out 1 p1 q1
  obtain rfl : ad0 = ad1 := (by injection e1)
  (try simp only [show (1 : Int).toNat = 1 from rfl, Nat.reduceMul, Nat.reduceEqDiff, Go.Addr.add, ↓reduceIte] at hx1)
  have i1 : (1 < l1.length) = True := eq_true (by omega)
  have j1 : (1 < (l1.length : Int)) = True := eq_true (by omega)
  clear p1 q1
  clear e1
  have p2 : 0 ≤ (2 : Int) := by omega
  have q2 : 2 < (l1.length : Int) := by omega
  obtain ⟨ad2, e2, hx2⟩ := Kd.at_int HR1.out 2 p2 q2
  obtain rfl : ad0 = ad2 := (by injection e2)
  (try simp only [show (2 : Int).toNat = 2 from rfl, Nat.reduceMul, Nat.reduceEqDiff, Go.Addr.add, ↓reduceIte] at hx2)
  have i2 : (2 < l1.length) = True := eq_true (by omega)
  have j2 : (2 < (l1.length : Int)) = True := eq_true (by omega)
  clear p2 q2
  clear e2
  have p3 : 0 ≤ (3 : Int) := by omega
  have q3 : 3 < (l1.length : Int) := by omega
  obtain ⟨ad3, e3, hx3⟩ := Kd.at_int HR1.out 3 p3 q3
  obtain rfl : ad0 = ad3 := (by injection e3)
  (try simp only [show (3 : Int).toNat = 3 from rfl, Nat.reduceMul, Nat.reduceEqDiff, Go.Addr.add, ↓reduceIte] at hx3)
  have i3 : (3 < l1.length) = True := eq_true (by omega)
  have j3 : (3 < (l1.length : Int)) = True := eq_true (by omega)
  clear p3 q3
  clear e3
  have p4 : 0 ≤ (4 : Int) := by omega
  have q4 : 4 < (l1.length : Int) := by omega
  obtain ⟨ad4, e4, hx4⟩ := Kd.at_int HR1.out 4 p4 q4
  obtain rfl : ad0 = ad4 := (by injection e4)
  (try simp only [show (4 : Int).toNat = 4 from rfl, Nat.reduceMul, Nat.reduceEqDiff, Go.Addr.add, ↓reduceIte] at hx4)
  have i4 : (4 < l1.length) = True := eq_true (by omega)
  have j4 : (4 < (l1.length : Int)) = True := eq_true (by omega)
  clear p4 q4
  clear e4
  clear hn
  go_enter Try.func22, Try.ntmps22
  go_wp2_with fail
  go_quiet (first | (go_at_call 25; (with_reducible refine (impl_u.calls _ _ _ rfl).mono ?_); rintro e w' ⟨rfl, ⟨nd, rfl⟩⟩; (try first | exact ⟨rfl, _, World.drewN_drewN _ _ _⟩ | exact ⟨rfl, _, Eq.trans (World.drewN_drewN _ _ _) (congrArg (World.drewN _) (Nat.add_assoc _ _ _))⟩)) | (go_at_call 40; (with_reducible refine (ppc64obj_AOP_IIRR.calls _ _ _ _ _ r _ A9.out).mono ?_); rintro e w' ⟨rfl, ⟨nd, rfl⟩⟩; (try first | exact ⟨rfl, _, World.drewN_drewN _ _ _⟩ | exact ⟨rfl, _, Eq.trans (World.drewN_drewN _ _ _) (congrArg (World.drewN _) (Nat.add_assoc _ _ _))⟩)))
  go_wp2_with fail
  go_ret
  exact ⟨by first | rfl | (simp; done) | (simp [*]; done), by repeat (first | exact Drawn0.refl _ | apply Drawn0.step)⟩

set_option maxHeartbeats 8000000 in
set_option maxRecDepth 100000 in
theorem encoded_AOP_IRRR (A1 : Option Addr) (c1 : Nat) (l1 : List Int) (r : Int) (w : World) (hr1 : Kd.C (Kd.int .i64) w A1 l1.length l1) (hn : l1.length = 5) (h : ppc64obj_AOP_IRRR.f ((rd l1 0) % 4294967296) ((rd l1 1) % 4294967296) ((rd l1 2) % 4294967296) ((rd l1 3) % 4294967296) ((rd l1 4) % 4294967296) = some r) :
    Calls Try.prog 22 #[.string (⟨#[65, 79, 80, 95, 73, 82, 82, 82]⟩ : ByteArray), .slice A1 l1.length c1] w fun e w' => e = .returned (.int .u32 r) ∧ Drawn0 w w' := by
  have A9 := Aside0.mk h
  clear h
  have HR1 := Aside0.mk hr1
  clear hr1
  have p0 : 0 ≤ (0 : Int) := by omega
  have q0 : 0 < (l1.length : Int) := by omega
  obtain ⟨ad0, e0, hx0⟩ := Kd.at_int HR1.out 0 p0 q0
  cases e0
  (try simp only [show (0 : Int).toNat = 0 from rfl, Nat.reduceMul, Nat.reduceEqDiff, Go.Addr.add, ↓reduceIte] at hx0)
  (try rw [Addr.add_zero'] at hx0)
  have i0 : (0 < l1.length) = True := eq_true (by omega)
  have j0 : (0 < (l1.length : Int)) = True := eq_true (by omega)
  clear p0 q0
  have p1 : 0 ≤ (1 : Int) := by omega
  have q1 : 1 < (l1.length : Int) := by omega
  obtain ⟨ad1, e1, hx1⟩ := Kd.at_int HR1.out 1 p1 q1
  obtain rfl : ad0 = ad1 := (by injection e1)
  (try simp only [show (1 : Int).toNat = 1 from rfl, Nat.reduceMul, Nat.reduceEqDiff, Go.Addr.add, ↓reduceIte] at hx1)
  have i1 : (1 < l1.length) = True := eq_true (by omega)
  have j1 : (1 < (l1.length : Int)) = True := eq_true (by omega)
  clear p1 q1
  clear e1
  have p2 : 0 ≤ (2 : Int) := by omega
  have q2 : 2 < (l1.length : Int) := by omega
  obtain ⟨ad2, e2, hx2⟩ := Kd.at_int HR1.out 2 p2 q2
  obtain rfl : ad0 = ad2 := (by injection e2)
  (try simp only [show (2 : Int).toNat = 2 from rfl, Nat.reduceMul, Nat.reduceEqDiff, Go.Addr.add, ↓reduceIte] at hx2)
  have i2 : (2 < l1.length) = True := eq_true (by omega)
  have j2 : (2 < (l1.length : Int)) = True := eq_true (by omega)
  clear p2 q2
  clear e2
  have p3 : 0 ≤ (3 : Int) := by omega
  have q3 : 3 < (l1.length : Int) := by omega
  obtain ⟨ad3, e3, hx3⟩ := Kd.at_int HR1.out 3 p3 q3
  obtain rfl : ad0 = ad3 := (by injection e3)
  (try simp only [show (3 : Int).toNat = 3 from rfl, Nat.reduceMul, Nat.reduceEqDiff, Go.Addr.add, ↓reduceIte] at hx3)
  have i3 : (3 < l1.length) = True := eq_true (by omega)
  have j3 : (3 < (l1.length : Int)) = True := eq_true (by omega)
  clear p3 q3
  clear e3
  have p4 : 0 ≤ (4 : Int) := by omega
  have q4 : 4 < (l1.length : Int) := by omega
  obtain ⟨ad4, e4, hx4⟩ := Kd.at_int HR1.out 4 p4 q4
  obtain rfl : ad0 = ad4 := (by injection e4)
  (try simp only [show (4 : Int).toNat = 4 from rfl, Nat.reduceMul, Nat.reduceEqDiff, Go.Addr.add, ↓reduceIte] at hx4)
  have i4 : (4 < l1.length) = True := eq_true (by omega)
  have j4 : (4 < (l1.length : Int)) = True := eq_true (by omega)
  clear p4 q4
  clear e4
  clear hn
  go_enter Try.func22, Try.ntmps22
  go_wp2_with fail
  go_quiet (first | (go_at_call 25; (with_reducible refine (impl_u.calls _ _ _ rfl).mono ?_); rintro e w' ⟨rfl, ⟨nd, rfl⟩⟩; (try first | exact ⟨rfl, _, World.drewN_drewN _ _ _⟩ | exact ⟨rfl, _, Eq.trans (World.drewN_drewN _ _ _) (congrArg (World.drewN _) (Nat.add_assoc _ _ _))⟩)) | (go_at_call 41; (with_reducible refine (ppc64obj_AOP_IRRR.calls _ _ _ _ _ r _ A9.out).mono ?_); rintro e w' ⟨rfl, ⟨nd, rfl⟩⟩; (try first | exact ⟨rfl, _, World.drewN_drewN _ _ _⟩ | exact ⟨rfl, _, Eq.trans (World.drewN_drewN _ _ _) (congrArg (World.drewN _) (Nat.add_assoc _ _ _))⟩)))
  go_wp2_with fail
  go_ret
  exact ⟨by first | rfl | (simp; done) | (simp [*]; done), by repeat (first | exact Drawn0.refl _ | apply Drawn0.step)⟩

set_option maxHeartbeats 8000000 in
set_option maxRecDepth 100000 in
theorem encoded_AOP_IR (A1 : Option Addr) (c1 : Nat) (l1 : List Int) (r : Int) (w : World) (hr1 : Kd.C (Kd.int .i64) w A1 l1.length l1) (hn : l1.length = 3) (h : ppc64obj_AOP_IR.f ((rd l1 0) % 4294967296) ((rd l1 1) % 4294967296) ((rd l1 2) % 4294967296) = some r) :
    Calls Try.prog 22 #[.string (⟨#[65, 79, 80, 95, 73, 82]⟩ : ByteArray), .slice A1 l1.length c1] w fun e w' => e = .returned (.int .u32 r) ∧ Drawn0 w w' := by
  have A9 := Aside0.mk h
  clear h
  have HR1 := Aside0.mk hr1
  clear hr1
  have p0 : 0 ≤ (0 : Int) := by omega
  have q0 : 0 < (l1.length : Int) := by omega
  obtain ⟨ad0, e0, hx0⟩ := Kd.at_int HR1.out 0 p0 q0
  cases e0
  (try simp only [show (0 : Int).toNat = 0 from rfl, Nat.reduceMul, Nat.reduceEqDiff, Go.Addr.add, ↓reduceIte] at hx0)
  (try rw [Addr.add_zero'] at hx0)
  have i0 : (0 < l1.length) = True := eq_true (by omega)
  have j0 : (0 < (l1.length : Int)) = True := eq_true (by omega)
  clear p0 q0
  have p1 : 0 ≤ (1 : Int) := by omega
  have q1 : 1 < (l1.length : Int) := by omega
  obtain ⟨ad1, e1, hx1⟩ := Kd.at_int HR1.out 1 p1 q1
  obtain rfl : ad0 = ad1 := (by injection e1)
  (try simp only [show (1 : Int).toNat = 1 from rfl, Nat.reduceMul, Nat.reduceEqDiff, Go.Addr.add, ↓reduceIte] at hx1)
  have i1 : (1 < l1.length) = True := eq_true (by omega)
  have j1 : (1 < (l1.length : Int)) = True := eq_true (by omega)
  clear p1 q1
  clear e1
  have p2 : 0 ≤ (2 : Int) := by omega
  have q2 : 2 < (l1.length : Int) := by omega
  obtain ⟨ad2, e2, hx2⟩ := Kd.at_int HR1.out 2 p2 q2
  obtain rfl : ad0 = ad2 := (by injection e2)
  (try simp only [show (2 : Int).toNat = 2 from rfl, Nat.reduceMul, Nat.reduceEqDiff, Go.Addr.add, ↓reduceIte] at hx2)
  have i2 : (2 < l1.length) = True := eq_true (by omega)
  have j2 : (2 < (l1.length : Int)) = True := eq_true (by omega)
  clear p2 q2
  clear e2
  clear hn
  go_enter Try.func22, Try.ntmps22
  go_wp2_with fail
  go_quiet (first | (go_at_call 25; (with_reducible refine (impl_u.calls _ _ _ rfl).mono ?_); rintro e w' ⟨rfl, ⟨nd, rfl⟩⟩; (try first | exact ⟨rfl, _, World.drewN_drewN _ _ _⟩ | exact ⟨rfl, _, Eq.trans (World.drewN_drewN _ _ _) (congrArg (World.drewN _) (Nat.add_assoc _ _ _))⟩)) | (go_at_call 42; (with_reducible refine (ppc64obj_AOP_IR.calls _ _ _ r _ A9.out).mono ?_); rintro e w' ⟨rfl, ⟨nd, rfl⟩⟩; (try first | exact ⟨rfl, _, World.drewN_drewN _ _ _⟩ | exact ⟨rfl, _, Eq.trans (World.drewN_drewN _ _ _) (congrArg (World.drewN _) (Nat.add_assoc _ _ _))⟩)))
  go_wp2_with fail
  go_ret
  exact ⟨by first | rfl | (simp; done) | (simp [*]; done), by repeat (first | exact Drawn0.refl _ | apply Drawn0.step)⟩

set_option maxHeartbeats 8000000 in
set_option maxRecDepth 100000 in
theorem encoded_AOP_XX1 (A1 : Option Addr) (c1 : Nat) (l1 : List Int) (r : Int) (w : World) (hr1 : Kd.C (Kd.int .i64) w A1 l1.length l1) (hn : l1.length = 4) (h : ppc64obj_AOP_XX1.f ((rd l1 0) % 4294967296) ((rd l1 1) % 4294967296) ((rd l1 2) % 4294967296) ((rd l1 3) % 4294967296) = some r) :
    Calls Try.prog 22 #[.string (⟨#[65, 79, 80, 95, 88, 88, 49]⟩ : ByteArray), .slice A1 l1.length c1] w fun e w' => e = .returned (.int .u32 r) ∧ Drawn0 w w' := by
  have A9 := Aside0.mk h
  clear h
  have HR1 := Aside0.mk hr1
  clear hr1
  have p0 : 0 ≤ (0 : Int) := by omega
  have q0 : 0 < (l1.length : Int) := by omega
  obtain ⟨ad0, e0, hx0⟩ := Kd.at_int HR1.out 0 p0 q0
  cases e0
  (try simp only [show (0 : Int).toNat = 0 from rfl, Nat.reduceMul, Nat.reduceEqDiff, Go.Addr.add, ↓reduceIte] at hx0)
  (try rw [Addr.add_zero'] at hx0)
  have i0 : (0 < l1.length) = True := eq_true (by omega)
  have j0 : (0 < (l1.length : Int)) = True := eq_true (by omega)
  clear p0 q0
  have p1 : 0 ≤ (1 : Int) := by omega
  have q1 : 1 < (l1.length : Int) := by omega
  obtain ⟨ad1, e1, hx1⟩ := Kd.at_int HR1.out 1 p1 q1
  obtain rfl : ad0 = ad1 := (by injection e1)
  (try simp only [show (1 : Int).toNat = 1 from rfl, Nat.reduceMul, Nat.reduceEqDiff, Go.Addr.add, ↓reduceIte] at hx1)
  have i1 : (1 < l1.length) = True := eq_true (by omega)
  have j1 : (1 < (l1.length : Int)) = True := eq_true (by omega)
  clear p1 q1
  clear e1
  have p2 : 0 ≤ (2 : Int) := by omega
  have q2 : 2 < (l1.length : Int) := by omega
  obtain ⟨ad2, e2, hx2⟩ := Kd.at_int HR1.out 2 p2 q2
  obtain rfl : ad0 = ad2 := (by injection e2)
  (try simp only [show (2 : Int).toNat = 2 from rfl, Nat.reduceMul, Nat.reduceEqDiff, Go.Addr.add, ↓reduceIte] at hx2)
  have i2 : (2 < l1.length) = True := eq_true (by omega)
  have j2 : (2 < (l1.length : Int)) = True := eq_true (by omega)
  clear p2 q2
  clear e2
  have p3 : 0 ≤ (3 : Int) := by omega
  have q3 : 3 < (l1.length : Int) := by omega
  obtain ⟨ad3, e3, hx3⟩ := Kd.at_int HR1.out 3 p3 q3
  obtain rfl : ad0 = ad3 := (by injection e3)
  (try simp only [show (3 : Int).toNat = 3 from rfl, Nat.reduceMul, Nat.reduceEqDiff, Go.Addr.add, ↓reduceIte] at hx3)
  have i3 : (3 < l1.length) = True := eq_true (by omega)
  have j3 : (3 < (l1.length : Int)) = True := eq_true (by omega)
  clear p3 q3
  clear e3
  clear hn
  go_enter Try.func22, Try.ntmps22
  go_wp2_with fail
  go_quiet (first | (go_at_call 25; (with_reducible refine (impl_u.calls _ _ _ rfl).mono ?_); rintro e w' ⟨rfl, ⟨nd, rfl⟩⟩; (try first | exact ⟨rfl, _, World.drewN_drewN _ _ _⟩ | exact ⟨rfl, _, Eq.trans (World.drewN_drewN _ _ _) (congrArg (World.drewN _) (Nat.add_assoc _ _ _))⟩)) | (go_at_call 43; (with_reducible refine (ppc64obj_AOP_XX1.calls _ _ _ _ r _ A9.out).mono ?_); rintro e w' ⟨rfl, ⟨nd, rfl⟩⟩; (try first | exact ⟨rfl, _, World.drewN_drewN _ _ _⟩ | exact ⟨rfl, _, Eq.trans (World.drewN_drewN _ _ _) (congrArg (World.drewN _) (Nat.add_assoc _ _ _))⟩)))
  go_wp2_with fail
  go_ret
  exact ⟨by first | rfl | (simp; done) | (simp [*]; done), by repeat (first | exact Drawn0.refl _ | apply Drawn0.step)⟩

set_option maxHeartbeats 8000000 in
set_option maxRecDepth 100000 in
theorem encoded_AOP_XX2 (A1 : Option Addr) (c1 : Nat) (l1 : List Int) (r : Int) (w : World) (hr1 : Kd.C (Kd.int .i64) w A1 l1.length l1) (hn : l1.length = 4) (h : ppc64obj_AOP_XX2.f ((rd l1 0) % 4294967296) ((rd l1 1) % 4294967296) ((rd l1 2) % 4294967296) ((rd l1 3) % 4294967296) = some r) :
    Calls Try.prog 22 #[.string (⟨#[65, 79, 80, 95, 88, 88, 50]⟩ : ByteArray), .slice A1 l1.length c1] w fun e w' => e = .returned (.int .u32 r) ∧ Drawn0 w w' := by
  have A9 := Aside0.mk h
  clear h
  have HR1 := Aside0.mk hr1
  clear hr1
  have p0 : 0 ≤ (0 : Int) := by omega
  have q0 : 0 < (l1.length : Int) := by omega
  obtain ⟨ad0, e0, hx0⟩ := Kd.at_int HR1.out 0 p0 q0
  cases e0
  (try simp only [show (0 : Int).toNat = 0 from rfl, Nat.reduceMul, Nat.reduceEqDiff, Go.Addr.add, ↓reduceIte] at hx0)
  (try rw [Addr.add_zero'] at hx0)
  have i0 : (0 < l1.length) = True := eq_true (by omega)
  have j0 : (0 < (l1.length : Int)) = True := eq_true (by omega)
  clear p0 q0
  have p1 : 0 ≤ (1 : Int) := by omega
  have q1 : 1 < (l1.length : Int) := by omega
  obtain ⟨ad1, e1, hx1⟩ := Kd.at_int HR1.out 1 p1 q1
  obtain rfl : ad0 = ad1 := (by injection e1)
  (try simp only [show (1 : Int).toNat = 1 from rfl, Nat.reduceMul, Nat.reduceEqDiff, Go.Addr.add, ↓reduceIte] at hx1)
  have i1 : (1 < l1.length) = True := eq_true (by omega)
  have j1 : (1 < (l1.length : Int)) = True := eq_true (by omega)
  clear p1 q1
  clear e1
  have p2 : 0 ≤ (2 : Int) := by omega
  have q2 : 2 < (l1.length : Int) := by omega
  obtain ⟨ad2, e2, hx2⟩ := Kd.at_int HR1.out 2 p2 q2
  obtain rfl : ad0 = ad2 := (by injection e2)
  (try simp only [show (2 : Int).toNat = 2 from rfl, Nat.reduceMul, Nat.reduceEqDiff, Go.Addr.add, ↓reduceIte] at hx2)
  have i2 : (2 < l1.length) = True := eq_true (by omega)
  have j2 : (2 < (l1.length : Int)) = True := eq_true (by omega)
  clear p2 q2
  clear e2
  have p3 : 0 ≤ (3 : Int) := by omega
  have q3 : 3 < (l1.length : Int) := by omega
  obtain ⟨ad3, e3, hx3⟩ := Kd.at_int HR1.out 3 p3 q3
  obtain rfl : ad0 = ad3 := (by injection e3)
  (try simp only [show (3 : Int).toNat = 3 from rfl, Nat.reduceMul, Nat.reduceEqDiff, Go.Addr.add, ↓reduceIte] at hx3)
  have i3 : (3 < l1.length) = True := eq_true (by omega)
  have j3 : (3 < (l1.length : Int)) = True := eq_true (by omega)
  clear p3 q3
  clear e3
  clear hn
  go_enter Try.func22, Try.ntmps22
  go_wp2_with fail
  go_quiet (first | (go_at_call 25; (with_reducible refine (impl_u.calls _ _ _ rfl).mono ?_); rintro e w' ⟨rfl, ⟨nd, rfl⟩⟩; (try first | exact ⟨rfl, _, World.drewN_drewN _ _ _⟩ | exact ⟨rfl, _, Eq.trans (World.drewN_drewN _ _ _) (congrArg (World.drewN _) (Nat.add_assoc _ _ _))⟩)) | (go_at_call 44; (with_reducible refine (ppc64obj_AOP_XX2.calls _ _ _ _ r _ A9.out).mono ?_); rintro e w' ⟨rfl, ⟨nd, rfl⟩⟩; (try first | exact ⟨rfl, _, World.drewN_drewN _ _ _⟩ | exact ⟨rfl, _, Eq.trans (World.drewN_drewN _ _ _) (congrArg (World.drewN _) (Nat.add_assoc _ _ _))⟩)))
  go_wp2_with fail
  go_ret
  exact ⟨by first | rfl | (simp; done) | (simp [*]; done), by repeat (first | exact Drawn0.refl _ | apply Drawn0.step)⟩

set_option maxHeartbeats 8000000 in
set_option maxRecDepth 100000 in
theorem encoded_AOP_XX3 (A1 : Option Addr) (c1 : Nat) (l1 : List Int) (r : Int) (w : World) (hr1 : Kd.C (Kd.int .i64) w A1 l1.length l1) (hn : l1.length = 4) (h : ppc64obj_AOP_XX3.f ((rd l1 0) % 4294967296) ((rd l1 1) % 4294967296) ((rd l1 2) % 4294967296) ((rd l1 3) % 4294967296) = some r) :
    Calls Try.prog 22 #[.string (⟨#[65, 79, 80, 95, 88, 88, 51]⟩ : ByteArray), .slice A1 l1.length c1] w fun e w' => e = .returned (.int .u32 r) ∧ Drawn0 w w' := by
  have A9 := Aside0.mk h
  clear h
  have HR1 := Aside0.mk hr1
  clear hr1
  have p0 : 0 ≤ (0 : Int) := by omega
  have q0 : 0 < (l1.length : Int) := by omega
  obtain ⟨ad0, e0, hx0⟩ := Kd.at_int HR1.out 0 p0 q0
  cases e0
  (try simp only [show (0 : Int).toNat = 0 from rfl, Nat.reduceMul, Nat.reduceEqDiff, Go.Addr.add, ↓reduceIte] at hx0)
  (try rw [Addr.add_zero'] at hx0)
  have i0 : (0 < l1.length) = True := eq_true (by omega)
  have j0 : (0 < (l1.length : Int)) = True := eq_true (by omega)
  clear p0 q0
  have p1 : 0 ≤ (1 : Int) := by omega
  have q1 : 1 < (l1.length : Int) := by omega
  obtain ⟨ad1, e1, hx1⟩ := Kd.at_int HR1.out 1 p1 q1
  obtain rfl : ad0 = ad1 := (by injection e1)
  (try simp only [show (1 : Int).toNat = 1 from rfl, Nat.reduceMul, Nat.reduceEqDiff, Go.Addr.add, ↓reduceIte] at hx1)
  have i1 : (1 < l1.length) = True := eq_true (by omega)
  have j1 : (1 < (l1.length : Int)) = True := eq_true (by omega)
  clear p1 q1
  clear e1
  have p2 : 0 ≤ (2 : Int) := by omega
  have q2 : 2 < (l1.length : Int) := by omega
  obtain ⟨ad2, e2, hx2⟩ := Kd.at_int HR1.out 2 p2 q2
  obtain rfl : ad0 = ad2 := (by injection e2)
  (try simp only [show (2 : Int).toNat = 2 from rfl, Nat.reduceMul, Nat.reduceEqDiff, Go.Addr.add, ↓reduceIte] at hx2)
  have i2 : (2 < l1.length) = True := eq_true (by omega)
  have j2 : (2 < (l1.length : Int)) = True := eq_true (by omega)
  clear p2 q2
  clear e2
  have p3 : 0 ≤ (3 : Int) := by omega
  have q3 : 3 < (l1.length : Int) := by omega
  obtain ⟨ad3, e3, hx3⟩ := Kd.at_int HR1.out 3 p3 q3
  obtain rfl : ad0 = ad3 := (by injection e3)
  (try simp only [show (3 : Int).toNat = 3 from rfl, Nat.reduceMul, Nat.reduceEqDiff, Go.Addr.add, ↓reduceIte] at hx3)
  have i3 : (3 < l1.length) = True := eq_true (by omega)
  have j3 : (3 < (l1.length : Int)) = True := eq_true (by omega)
  clear p3 q3
  clear e3
  clear hn
  go_enter Try.func22, Try.ntmps22
  go_wp2_with fail
  go_quiet (first | (go_at_call 25; (with_reducible refine (impl_u.calls _ _ _ rfl).mono ?_); rintro e w' ⟨rfl, ⟨nd, rfl⟩⟩; (try first | exact ⟨rfl, _, World.drewN_drewN _ _ _⟩ | exact ⟨rfl, _, Eq.trans (World.drewN_drewN _ _ _) (congrArg (World.drewN _) (Nat.add_assoc _ _ _))⟩)) | (go_at_call 45; (with_reducible refine (ppc64obj_AOP_XX3.calls _ _ _ _ r _ A9.out).mono ?_); rintro e w' ⟨rfl, ⟨nd, rfl⟩⟩; (try first | exact ⟨rfl, _, World.drewN_drewN _ _ _⟩ | exact ⟨rfl, _, Eq.trans (World.drewN_drewN _ _ _) (congrArg (World.drewN _) (Nat.add_assoc _ _ _))⟩)))
  go_wp2_with fail
  go_ret
  exact ⟨by first | rfl | (simp; done) | (simp [*]; done), by repeat (first | exact Drawn0.refl _ | apply Drawn0.step)⟩

set_option maxHeartbeats 8000000 in
set_option maxRecDepth 100000 in
theorem encoded_AOP_XX3I (A1 : Option Addr) (c1 : Nat) (l1 : List Int) (r : Int) (w : World) (hr1 : Kd.C (Kd.int .i64) w A1 l1.length l1) (hn : l1.length = 5) (h : ppc64obj_AOP_XX3I.f ((rd l1 0) % 4294967296) ((rd l1 1) % 4294967296) ((rd l1 2) % 4294967296) ((rd l1 3) % 4294967296) ((rd l1 4) % 4294967296) = some r) :
    Calls Try.prog 22 #[.string (⟨#[65, 79, 80, 95, 88, 88, 51, 73]⟩ : ByteArray), .slice A1 l1.length c1] w fun e w' => e = .returned (.int .u32 r) ∧ Drawn0 w w' := by
  have A9 := Aside0.mk h
  clear h
  have HR1 := Aside0.mk hr1
  clear hr1
  have p0 : 0 ≤ (0 : Int) := by omega
  have q0 : 0 < (l1.length : Int) := by omega
  obtain ⟨ad0, e0, hx0⟩ := Kd.at_int HR1.out 0 p0 q0
  cases e0
  (try simp only [show (0 : Int).toNat = 0 from rfl, Nat.reduceMul, Nat.reduceEqDiff, Go.Addr.add, ↓reduceIte] at hx0)
  (try rw [Addr.add_zero'] at hx0)
  have i0 : (0 < l1.length) = True := eq_true (by omega)
  have j0 : (0 < (l1.length : Int)) = True := eq_true (by omega)
  clear p0 q0
  have p1 : 0 ≤ (1 : Int) := by omega
  have q1 : 1 < (l1.length : Int) := by omega
  obtain ⟨ad1, e1, hx1⟩ := Kd.at_int HR1.out 1 p1 q1
  obtain rfl : ad0 = ad1 := (by injection e1)
  (try simp only [show (1 : Int).toNat = 1 from rfl, Nat.reduceMul, Nat.reduceEqDiff, Go.Addr.add, ↓reduceIte] at hx1)
  have i1 : (1 < l1.length) = True := eq_true (by omega)
  have j1 : (1 < (l1.length : Int)) = True := eq_true (by omega)
  clear p1 q1
  clear e1
  have p2 : 0 ≤ (2 : Int) := by omega
  have q2 : 2 < (l1.length : Int) := by omega
  obtain ⟨ad2, e2, hx2⟩ := Kd.at_int HR1.out 2 p2 q2
  obtain rfl : ad0 = ad2 := (by injection e2)
  (try simp only [show (2 : Int).toNat = 2 from rfl, Nat.reduceMul, Nat.reduceEqDiff, Go.Addr.add, ↓reduceIte] at hx2)
  have i2 : (2 < l1.length) = True := eq_true (by omega)
  have j2 : (2 < (l1.length : Int)) = True := eq_true (by omega)
  clear p2 q2
  clear e2
  have p3 : 0 ≤ (3 : Int) := by omega
  have q3 : 3 < (l1.length : Int) := by omega
  obtain ⟨ad3, e3, hx3⟩ := Kd.at_int HR1.out 3 p3 q3
  obtain rfl : ad0 = ad3 := (by injection e3)
  (try simp only [show (3 : Int).toNat = 3 from rfl, Nat.reduceMul, Nat.reduceEqDiff, Go.Addr.add, ↓reduceIte] at hx3)
  have i3 : (3 < l1.length) = True := eq_true (by omega)
  have j3 : (3 < (l1.length : Int)) = True := eq_true (by omega)
  clear p3 q3
  clear e3
  have p4 : 0 ≤ (4 : Int) := by omega
  have q4 : 4 < (l1.length : Int) := by omega
  obtain ⟨ad4, e4, hx4⟩ := Kd.at_int HR1.out 4 p4 q4
  obtain rfl : ad0 = ad4 := (by injection e4)
  (try simp only [show (4 : Int).toNat = 4 from rfl, Nat.reduceMul, Nat.reduceEqDiff, Go.Addr.add, ↓reduceIte] at hx4)
  have i4 : (4 < l1.length) = True := eq_true (by omega)
  have j4 : (4 < (l1.length : Int)) = True := eq_true (by omega)
  clear p4 q4
  clear e4
  clear hn
  go_enter Try.func22, Try.ntmps22
  go_wp2_with fail
  go_quiet (first | (go_at_call 25; (with_reducible refine (impl_u.calls _ _ _ rfl).mono ?_); rintro e w' ⟨rfl, ⟨nd, rfl⟩⟩; (try first | exact ⟨rfl, _, World.drewN_drewN _ _ _⟩ | exact ⟨rfl, _, Eq.trans (World.drewN_drewN _ _ _) (congrArg (World.drewN _) (Nat.add_assoc _ _ _))⟩)) | (go_at_call 46; (with_reducible refine (ppc64obj_AOP_XX3I.calls _ _ _ _ _ r _ A9.out).mono ?_); rintro e w' ⟨rfl, ⟨nd, rfl⟩⟩; (try first | exact ⟨rfl, _, World.drewN_drewN _ _ _⟩ | exact ⟨rfl, _, Eq.trans (World.drewN_drewN _ _ _) (congrArg (World.drewN _) (Nat.add_assoc _ _ _))⟩)))
  go_wp2_with fail
  go_ret
  exact ⟨by first | rfl | (simp; done) | (simp [*]; done), by repeat (first | exact Drawn0.refl _ | apply Drawn0.step)⟩

set_option maxHeartbeats 8000000 in
set_option maxRecDepth 100000 in
theorem encoded_AOP_XX4 (A1 : Option Addr) (c1 : Nat) (l1 : List Int) (r : Int) (w : World) (hr1 : Kd.C (Kd.int .i64) w A1 l1.length l1) (hn : l1.length = 5) (h : ppc64obj_AOP_XX4.f ((rd l1 0) % 4294967296) ((rd l1 1) % 4294967296) ((rd l1 2) % 4294967296) ((rd l1 3) % 4294967296) ((rd l1 4) % 4294967296) = some r) :
    Calls Try.prog 22 #[.string (⟨#[65, 79, 80, 95, 88, 88, 52]⟩ : ByteArray), .slice A1 l1.length c1] w fun e w' => e = .returned (.int .u32 r) ∧ Drawn0 w w' := by
  have A9 := Aside0.mk h
  clear h
  have HR1 := Aside0.mk hr1
  clear hr1
  have p0 : 0 ≤ (0 : Int) := by omega
  have q0 : 0 < (l1.length : Int) := by omega
  obtain ⟨ad0, e0, hx0⟩ := Kd.at_int HR1.out 0 p0 q0
  cases e0
  (try simp only [show (0 : Int).toNat = 0 from rfl, Nat.reduceMul, Nat.reduceEqDiff, Go.Addr.add, ↓reduceIte] at hx0)
  (try rw [Addr.add_zero'] at hx0)
  have i0 : (0 < l1.length) = True := eq_true (by omega)
  have j0 : (0 < (l1.length : Int)) = True := eq_true (by omega)
  clear p0 q0
  have p1 : 0 ≤ (1 : Int) := by omega
  have q1 : 1 < (l1.length : Int) := by omega
  obtain ⟨ad1, e1, hx1⟩ := Kd.at_int HR1.out 1 p1 q1
  obtain rfl : ad0 = ad1 := (by injection e1)
  (try simp only [show (1 : Int).toNat = 1 from rfl, Nat.reduceMul, Nat.reduceEqDiff, Go.Addr.add, ↓reduceIte] at hx1)
  have i1 : (1 < l1.length) = True := eq_true (by omega)
  have j1 : (1 < (l1.length : Int)) = True := eq_true (by omega)
  clear p1 q1
  clear e1
  have p2 : 0 ≤ (2 : Int) := by omega
  have q2 : 2 < (l1.length : Int) := by omega
  obtain ⟨ad2, e2, hx2⟩ := Kd.at_int HR1.out 2 p2 q2
  obtain rfl : ad0 = ad2 := (by injection e2)
  (try simp only [show (2 : Int).toNat = 2 from rfl, Nat.reduceMul, Nat.reduceEqDiff, Go.Addr.add, ↓reduceIte] at hx2)
  have i2 : (2 < l1.length) = True := eq_true (by omega)
  have j2 : (2 < (l1.length : Int)) = True := eq_true (by omega)
  clear p2 q2
  clear e2
  have p3 : 0 ≤ (3 : Int) := by omega
  have q3 : 3 < (l1.length : Int) := by omega
  obtain ⟨ad3, e3, hx3⟩ := Kd.at_int HR1.out 3 p3 q3
  obtain rfl : ad0 = ad3 := (by injection e3)
  (try simp only [show (3 : Int).toNat = 3 from rfl, Nat.reduceMul, Nat.reduceEqDiff, Go.Addr.add, ↓reduceIte] at hx3)
  have i3 : (3 < l1.length) = True := eq_true (by omega)
  have j3 : (3 < (l1.length : Int)) = True := eq_true (by omega)
  clear p3 q3
  clear e3
  have p4 : 0 ≤ (4 : Int) := by omega
  have q4 : 4 < (l1.length : Int) := by omega
  obtain ⟨ad4, e4, hx4⟩ := Kd.at_int HR1.out 4 p4 q4
  obtain rfl : ad0 = ad4 := (by injection e4)
  (try simp only [show (4 : Int).toNat = 4 from rfl, Nat.reduceMul, Nat.reduceEqDiff, Go.Addr.add, ↓reduceIte] at hx4)
  have i4 : (4 < l1.length) = True := eq_true (by omega)
  have j4 : (4 < (l1.length : Int)) = True := eq_true (by omega)
  clear p4 q4
  clear e4
  clear hn
  go_enter Try.func22, Try.ntmps22
  go_wp2_with fail
  go_quiet (first | (go_at_call 25; (with_reducible refine (impl_u.calls _ _ _ rfl).mono ?_); rintro e w' ⟨rfl, ⟨nd, rfl⟩⟩; (try first | exact ⟨rfl, _, World.drewN_drewN _ _ _⟩ | exact ⟨rfl, _, Eq.trans (World.drewN_drewN _ _ _) (congrArg (World.drewN _) (Nat.add_assoc _ _ _))⟩)) | (go_at_call 47; (with_reducible refine (ppc64obj_AOP_XX4.calls _ _ _ _ _ r _ A9.out).mono ?_); rintro e w' ⟨rfl, ⟨nd, rfl⟩⟩; (try first | exact ⟨rfl, _, World.drewN_drewN _ _ _⟩ | exact ⟨rfl, _, Eq.trans (World.drewN_drewN _ _ _) (congrArg (World.drewN _) (Nat.add_assoc _ _ _))⟩)))
  go_wp2_with fail
  go_ret
  exact ⟨by first | rfl | (simp; done) | (simp [*]; done), by repeat (first | exact Drawn0.refl _ | apply Drawn0.step)⟩

end Go.Proofs.Ytnfkdmoblncclaa.X
