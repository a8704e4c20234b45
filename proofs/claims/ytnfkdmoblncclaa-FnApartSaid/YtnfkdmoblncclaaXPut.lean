/- Bits at a letter's place, and their number. -/
import Derived.Test.YtnfkdmoblncclaaXPlace
namespace Go.Proofs.Ytnfkdmoblncclaa.X
open Go.RowKit Go.Proofs.YtnfkdmoblncclaaW.PrintWords Go.Proofs.YtnfkdmoblncclaaW.PrintLast Go.Proofs.YtnfkdmoblncclaaW.PrintMore
attribute [local go_sem] max2_int min2_int max_two min_two max_three min_three max_four min_four   -- for this text's walks alone
set_option linter.unusedVariables false
set_option linter.unusedSimpArgs false

/-! ### spec_Put: function 18 -/
def spec_Put.f (k : Nat) (a0 : Int) (a1 : Int) : Option (Int) := (spec_place.f k a1).bind fun bt571 => (if 0 ≤ (wrap64 ((wrap64 (bt571.2.1 - bt571.1)) + 1)) then (if 0 ≤ (wrap64 (31 - bt571.2.1)) then (if bt571.2.2 ≥ 0 then (if 0 ≤ (wrap64 (31 - bt571.2.2)) then (some (Go.bits .or .u32 (shl .u32 ((Go.bits .and .i64 a0 (wrap64 ((shl .i64 1 (wrap64 ((wrap64 (bt571.2.1 - bt571.1)) + 1))) - 1))) % 4294967296) (wrap64 (31 - bt571.2.1))) (shl .u32 ((Go.bits .and .i64 (shr .i64 a0 (wrap64 ((wrap64 (bt571.2.1 - bt571.1)) + 1))) 1) % 4294967296) (wrap64 (31 - bt571.2.2))))) else (none)) else (some (shl .u32 ((Go.bits .and .i64 a0 (wrap64 ((shl .i64 1 (wrap64 ((wrap64 (bt571.2.1 - bt571.1)) + 1))) - 1))) % 4294967296) (wrap64 (31 - bt571.2.1))))) else (none)) else (none))
theorem spec_Put.mono : ∀ a0 a1 k, LeO (spec_Put.f k a0 a1) (spec_Put.f (k + 1) a0 a1) := by
  intro a0 a1 k
  unfold spec_Put.f
  repeat' first
      | (with_reducible exact spec_place.mono _ _)
      | (with_reducible exact LeO.refl _)
      | (with_reducible exact LeO.none _)
      | (with_reducible refine LeO.ite ?_ ?_)
      | (with_reducible refine LeO.bind ?_ (fun _ => ?_))
      | exact spec_place.mono _ _
      | exact LeO.none _
      | refine LeO.ite ?_ ?_
      | refine LeO.bind ?_ (fun _ => ?_)
set_option maxHeartbeats 8000000 in
set_option maxRecDepth 100000 in
theorem spec_Put.calls (k : Nat) (a0 : Int) (a1 : Int) (r : Int) (w : World) (h : spec_Put.f k a0 a1 = some r) :
    Calls Try.prog 18 #[.int .i64 a0, .int .u8 a1] w fun e w' => e = .returned (.int .u32 r) ∧ Drawn0 w w' := by
  have H : ((spec_place.f k a1).bind fun bt571 => (if 0 ≤ (wrap64 ((wrap64 (bt571.2.1 - bt571.1)) + 1)) then (if 0 ≤ (wrap64 (31 - bt571.2.1)) then (if bt571.2.2 ≥ 0 then (if 0 ≤ (wrap64 (31 - bt571.2.2)) then (some (Go.bits .or .u32 (shl .u32 ((Go.bits .and .i64 a0 (wrap64 ((shl .i64 1 (wrap64 ((wrap64 (bt571.2.1 - bt571.1)) + 1))) - 1))) % 4294967296) (wrap64 (31 - bt571.2.1))) (shl .u32 ((Go.bits .and .i64 (shr .i64 a0 (wrap64 ((wrap64 (bt571.2.1 - bt571.1)) + 1))) 1) % 4294967296) (wrap64 (31 - bt571.2.2))))) else (none)) else (some (shl .u32 ((Go.bits .and .i64 a0 (wrap64 ((shl .i64 1 (wrap64 ((wrap64 (bt571.2.1 - bt571.1)) + 1))) - 1))) % 4294967296) (wrap64 (31 - bt571.2.1))))) else (none)) else (none))) = some r := h
  clear h
  replace H := Option.bind_eq_some_iff.mp H
  obtain ⟨⟨t571, t572, t573⟩, A30, H⟩ := H
  replace H : (if 0 ≤ (wrap64 ((wrap64 (t572 - t571)) + 1)) then (if 0 ≤ (wrap64 (31 - t572)) then (if t573 ≥ 0 then (if 0 ≤ (wrap64 (31 - t573)) then (some (Go.bits .or .u32 (shl .u32 ((Go.bits .and .i64 a0 (wrap64 ((shl .i64 1 (wrap64 ((wrap64 (t572 - t571)) + 1))) - 1))) % 4294967296) (wrap64 (31 - t572))) (shl .u32 ((Go.bits .and .i64 (shr .i64 a0 (wrap64 ((wrap64 (t572 - t571)) + 1))) 1) % 4294967296) (wrap64 (31 - t573))))) else (none)) else (some (shl .u32 ((Go.bits .and .i64 a0 (wrap64 ((shl .i64 1 (wrap64 ((wrap64 (t572 - t571)) + 1))) - 1))) % 4294967296) (wrap64 (31 - t572))))) else (none)) else (none)) = some r := H
  have A3 := Aside0.mk A30
  clear A30
  obtain ⟨ji4, hji4⟩ : ∃ j_ : Int, (wrap64 ((wrap64 (t572 - t571)) + 1)) = j_ := ⟨_, rfl⟩
  replace H : (if 0 ≤ (ji4) then (if 0 ≤ (wrap64 (31 - t572)) then (if t573 ≥ 0 then (if 0 ≤ (wrap64 (31 - t573)) then (some (Go.bits .or .u32 (shl .u32 ((Go.bits .and .i64 a0 (wrap64 ((shl .i64 1 (ji4)) - 1))) % 4294967296) (wrap64 (31 - t572))) (shl .u32 ((Go.bits .and .i64 (shr .i64 a0 (ji4)) 1) % 4294967296) (wrap64 (31 - t573))))) else (none)) else (some (shl .u32 ((Go.bits .and .i64 a0 (wrap64 ((shl .i64 1 (ji4)) - 1))) % 4294967296) (wrap64 (31 - t572))))) else (none)) else (none)) = some r := by first | (rw [hji4] at H; exact H) | (simp only [hji4] at H ⊢; exact H)
  (try rw [hji4] at A3)
  have hji4w : (IntKind.i64.wrap ((wrap64 (t572 - t571)) + 1)) = ji4 := (i64_w _).trans hji4
  by_cases c5 : 0 ≤ (ji4)
  · rw [if_pos c5] at H
    have c5b0 := eq_true c5
    have c5b1 : decide (0 ≤ (ji4)) = true := decide_eq_true c5
    clear c5
    obtain ⟨ji6, hji6⟩ : ∃ j_ : Int, (shl .i64 1 (ji4)) = j_ := ⟨_, rfl⟩
    replace H : (if 0 ≤ (wrap64 (31 - t572)) then (if t573 ≥ 0 then (if 0 ≤ (wrap64 (31 - t573)) then (some (Go.bits .or .u32 (shl .u32 ((Go.bits .and .i64 a0 (wrap64 ((ji6) - 1))) % 4294967296) (wrap64 (31 - t572))) (shl .u32 ((Go.bits .and .i64 (shr .i64 a0 (ji4)) 1) % 4294967296) (wrap64 (31 - t573))))) else (none)) else (some (shl .u32 ((Go.bits .and .i64 a0 (wrap64 ((ji6) - 1))) % 4294967296) (wrap64 (31 - t572))))) else (none)) = some r := by first | (rw [hji6] at H; exact H) | (simp only [hji6] at H ⊢; exact H)
    (try rw [hji6] at A3)
    have hji6_ : (IntKind.i64.wrap (1 * 2 ^ min (ji4).toNat 64)) = ji6 := hji6
    have hji6z : (ji4) ≤ 64 → (IntKind.i64.wrap (1 * 2 ^ (ji4).toNat)) = ji6 := shl_small hji6
    have hji6u : (IntKind.i64.wrap (2 ^ min (ji4).toNat 64)) = ji6 := by have h_ := hji6_; rw [Int.one_mul] at h_; exact h_
    have hji6v : (ji4) ≤ 64 → (IntKind.i64.wrap (2 ^ (ji4).toNat)) = ji6 := fun hle_ => by have h_ := hji6z hle_; rw [Int.one_mul] at h_; exact h_
    have hji6y : (wrap64 (1 * 2 ^ min (ji4).toNat 64)) = ji6 := (i64_w _).symm.trans hji6_
    have hji6x : (ji4) ≤ 64 → (wrap64 (1 * 2 ^ (ji4).toNat)) = ji6 := fun h_ => (i64_w _).symm.trans (hji6z h_)
    obtain ⟨ji7, hji7⟩ : ∃ j_ : Int, (wrap64 (31 - t572)) = j_ := ⟨_, rfl⟩
    replace H : (if 0 ≤ (ji7) then (if t573 ≥ 0 then (if 0 ≤ (wrap64 (31 - t573)) then (some (Go.bits .or .u32 (shl .u32 ((Go.bits .and .i64 a0 (wrap64 ((ji6) - 1))) % 4294967296) (ji7)) (shl .u32 ((Go.bits .and .i64 (shr .i64 a0 (ji4)) 1) % 4294967296) (wrap64 (31 - t573))))) else (none)) else (some (shl .u32 ((Go.bits .and .i64 a0 (wrap64 ((ji6) - 1))) % 4294967296) (ji7)))) else (none)) = some r := by first | (rw [hji7] at H; exact H) | (simp only [hji7] at H ⊢; exact H)
    (try rw [hji7] at A3)
    have hji7w : (IntKind.i64.wrap (31 - t572)) = ji7 := (i64_w _).trans hji7
    by_cases c8 : 0 ≤ (ji7)
    · rw [if_pos c8] at H
      have c8b0 := eq_true c8
      have c8b1 : decide (0 ≤ (ji7)) = true := decide_eq_true c8
      clear c8
      obtain ⟨ji9, hji9⟩ : ∃ j_ : Int, (shl .u32 ((Go.bits .and .i64 a0 (wrap64 ((ji6) - 1))) % 4294967296) (ji7)) = j_ := ⟨_, rfl⟩
      replace H : (if t573 ≥ 0 then (if 0 ≤ (wrap64 (31 - t573)) then (some (Go.bits .or .u32 (ji9) (shl .u32 ((Go.bits .and .i64 (shr .i64 a0 (ji4)) 1) % 4294967296) (wrap64 (31 - t573))))) else (none)) else (some ji9)) = some r := by first | (rw [hji9] at H; exact H) | (simp only [hji9] at H ⊢; exact H)
      (try rw [hji9] at A3)
      have hji9_ : (IntKind.u32.wrap (((Go.bits .and .i64 a0 (wrap64 ((ji6) - 1))) % 4294967296) * 2 ^ min (ji7).toNat 32)) = ji9 := hji9
      have hji9z : (ji7) ≤ 32 → (IntKind.u32.wrap (((Go.bits .and .i64 a0 (wrap64 ((ji6) - 1))) % 4294967296) * 2 ^ (ji7).toNat)) = ji9 := shl_small hji9
      by_cases c10 : t573 ≥ 0
      · rw [if_pos c10] at H
        have c10b0 : decide (0 ≤ t573) = true := decide_eq_true c10
        clear c10
        have c11b0 := eq_true (of_decide_eq_true (by first | (with_reducible assumption) | assumption) : 0 ≤ (ji4))
        obtain ⟨ji12, hji12⟩ : ∃ j_ : Int, (shr .i64 a0 (ji4)) = j_ := ⟨_, rfl⟩
        replace H : (if 0 ≤ (wrap64 (31 - t573)) then (some (Go.bits .or .u32 (ji9) (shl .u32 ((Go.bits .and .i64 (ji12) 1) % 4294967296) (wrap64 (31 - t573))))) else (none)) = some r := by first | (rw [hji12] at H; exact H) | (simp only [hji12] at H ⊢; exact H)
        (try rw [hji12] at A3)
        have hji12_ : (a0 / 2 ^ min (ji4).toNat 64) = ji12 := hji12
        have hji12z : (ji4) ≤ 64 → (a0 / 2 ^ (ji4).toNat) = ji12 := shr_small hji12
        obtain ⟨ji13, hji13⟩ : ∃ j_ : Int, (wrap64 (31 - t573)) = j_ := ⟨_, rfl⟩
        replace H : (if 0 ≤ (ji13) then (some (Go.bits .or .u32 (ji9) (shl .u32 ((Go.bits .and .i64 (ji12) 1) % 4294967296) (ji13)))) else (none)) = some r := by first | (rw [hji13] at H; exact H) | (simp only [hji13] at H ⊢; exact H)
        (try rw [hji13] at A3)
        have hji13w : (IntKind.i64.wrap (31 - t573)) = ji13 := (i64_w _).trans hji13
        by_cases c14 : 0 ≤ (ji13)
        · rw [if_pos c14] at H
          have c14b0 := eq_true c14
          have c14b1 : decide (0 ≤ (ji13)) = true := decide_eq_true c14
          clear c14
          obtain ⟨ji15, hji15⟩ : ∃ j_ : Int, (shl .u32 ((Go.bits .and .i64 (ji12) 1) % 4294967296) (ji13)) = j_ := ⟨_, rfl⟩
          replace H : (some (Go.bits .or .u32 (ji9) (ji15))) = some r := by first | (rw [hji15] at H; exact H) | (simp only [hji15] at H ⊢; exact H)
          (try rw [hji15] at A3)
          have hji15_ : (IntKind.u32.wrap (((Go.bits .and .i64 (ji12) 1) % 4294967296) * 2 ^ min (ji13).toNat 32)) = ji15 := hji15
          have hji15z : (ji13) ≤ 32 → (IntKind.u32.wrap (((Go.bits .and .i64 (ji12) 1) % 4294967296) * 2 ^ (ji13).toNat)) = ji15 := shl_small hji15
          obtain rfl := Option.some.inj H
          go_enter Try.func18, Try.ntmps18
          go_wp2_with (first | ((with_reducible refine gate_callee (f := 23) rfl ?_); refine goesL_ (some 12) rfl rfl Try.func23 (by kernel_rfl) rfl #[.int .u8 a1] rfl (by (try simp only [List.map_toArray, List.map_cons, List.map_nil]); first | done | rfl | (simp only [List.length_drop, List.length_take]; rfl)) ?_; (with_reducible refine (spec_place.calls k a1 t571 t572 t573 _ A3.out).mono ?_); rintro e w' ⟨rfl, ⟨nd, rfl⟩⟩; refine ⟨_, rfl, ?_⟩))
          go_ret
          exact ⟨by first | rfl | (simp; done) | (simp only [← hji4, ← hji6, ← hji7, ← hji9, ← hji12, ← hji13, ← hji15] <;> (first | rfl | simp)) | (simp [*]; done), by repeat (first | exact Drawn0.refl _ | apply Drawn0.step)⟩
        · rw [if_neg c14] at H
          exact absurd H (by simp)
      · rw [if_neg c10] at H
        have c10b0 : decide (0 ≤ t573) = false := decide_eq_false c10
        clear c10
        obtain rfl := Option.some.inj H
        go_enter Try.func18, Try.ntmps18
        go_wp2_with (first | ((with_reducible refine gate_callee (f := 23) rfl ?_); refine goesL_ (some 12) rfl rfl Try.func23 (by kernel_rfl) rfl #[.int .u8 a1] rfl (by (try simp only [List.map_toArray, List.map_cons, List.map_nil]); first | done | rfl | (simp only [List.length_drop, List.length_take]; rfl)) ?_; (with_reducible refine (spec_place.calls k a1 t571 t572 t573 _ A3.out).mono ?_); rintro e w' ⟨rfl, ⟨nd, rfl⟩⟩; refine ⟨_, rfl, ?_⟩))
        go_ret
        exact ⟨by first | rfl | (simp; done) | (simp only [← hji4, ← hji6, ← hji7, ← hji9] <;> (first | rfl | simp)) | (simp [*]; done), by repeat (first | exact Drawn0.refl _ | apply Drawn0.step)⟩
    · rw [if_neg c8] at H
      exact absurd H (by simp)
  · rw [if_neg c5] at H
    exact absurd H (by simp)

/-! ### spec_Size: function 19 -/
def spec_Size.f (k : Nat) (a0 : Int) : Option (Int) := (spec_place.f k a0).bind fun bt676 => (if bt676.2.2 ≥ 0 then (some (wrap64 ((wrap64 (bt676.2.1 - bt676.1)) + 2))) else (some (wrap64 ((wrap64 (bt676.2.1 - bt676.1)) + 1))))
theorem spec_Size.mono : ∀ a0 k, LeO (spec_Size.f k a0) (spec_Size.f (k + 1) a0) := by
  intro a0 k
  unfold spec_Size.f
  repeat' first
      | (with_reducible exact spec_place.mono _ _)
      | (with_reducible exact LeO.refl _)
      | (with_reducible exact LeO.none _)
      | (with_reducible refine LeO.ite ?_ ?_)
      | (with_reducible refine LeO.bind ?_ (fun _ => ?_))
      | exact spec_place.mono _ _
      | exact LeO.none _
      | refine LeO.ite ?_ ?_
      | refine LeO.bind ?_ (fun _ => ?_)
set_option maxHeartbeats 8000000 in
set_option maxRecDepth 100000 in
theorem spec_Size.calls (k : Nat) (a0 : Int) (r : Int) (w : World) (h : spec_Size.f k a0 = some r) :
    Calls Try.prog 19 #[.int .u8 a0] w fun e w' => e = .returned (.int .i64 r) ∧ Drawn0 w w' := by
  have H : ((spec_place.f k a0).bind fun bt676 => (if bt676.2.2 ≥ 0 then (some (wrap64 ((wrap64 (bt676.2.1 - bt676.1)) + 2))) else (some (wrap64 ((wrap64 (bt676.2.1 - bt676.1)) + 1))))) = some r := h
  clear h
  replace H := Option.bind_eq_some_iff.mp H
  obtain ⟨⟨t676, t677, t678⟩, A20, H⟩ := H
  replace H : (if t678 ≥ 0 then (some (wrap64 ((wrap64 (t677 - t676)) + 2))) else (some (wrap64 ((wrap64 (t677 - t676)) + 1)))) = some r := H
  have A2 := Aside0.mk A20
  clear A20
  by_cases c3 : t678 ≥ 0
  · rw [if_pos c3] at H
    have c3b0 : decide (0 ≤ t678) = true := decide_eq_true c3
    clear c3
    obtain rfl := Option.some.inj H
    go_enter Try.func19, Try.ntmps19
    go_wp2_with (first | ((with_reducible refine gate_callee (f := 23) rfl ?_); refine goesL_ (some 8) rfl rfl Try.func23 (by kernel_rfl) rfl #[.int .u8 a0] rfl (by (try simp only [List.map_toArray, List.map_cons, List.map_nil]); first | done | rfl | (simp only [List.length_drop, List.length_take]; rfl)) ?_; (with_reducible refine (spec_place.calls k a0 t676 t677 t678 _ A2.out).mono ?_); rintro e w' ⟨rfl, ⟨nd, rfl⟩⟩; refine ⟨_, rfl, ?_⟩))
    go_ret
    exact ⟨by first | rfl | (simp; done) | (simp [*]; done), by repeat (first | exact Drawn0.refl _ | apply Drawn0.step)⟩
  · rw [if_neg c3] at H
    have c3b0 : decide (0 ≤ t678) = false := decide_eq_false c3
    clear c3
    obtain rfl := Option.some.inj H
    go_enter Try.func19, Try.ntmps19
    go_wp2_with (first | ((with_reducible refine gate_callee (f := 23) rfl ?_); refine goesL_ (some 8) rfl rfl Try.func23 (by kernel_rfl) rfl #[.int .u8 a0] rfl (by (try simp only [List.map_toArray, List.map_cons, List.map_nil]); first | done | rfl | (simp only [List.length_drop, List.length_take]; rfl)) ?_; (with_reducible refine (spec_place.calls k a0 t676 t677 t678 _ A2.out).mono ?_); rintro e w' ⟨rfl, ⟨nd, rfl⟩⟩; refine ⟨_, rfl, ?_⟩))
    go_ret
    exact ⟨by first | rfl | (simp; done) | (simp [*]; done), by repeat (first | exact Drawn0.refl _ | apply Drawn0.step)⟩

end Go.Proofs.Ytnfkdmoblncclaa.X
