/- The walk of the law FnNone. -/
import Derived.Test.YtnfkdmoblncclaaXEncode
namespace Go.Proofs.Ytnfkdmoblncclaa.X
open Go.RowKit Go.Proofs.YtnfkdmoblncclaaW.PrintWords Go.Proofs.YtnfkdmoblncclaaW.PrintLast Go.Proofs.YtnfkdmoblncclaaW.PrintMore
attribute [local go_sem] max2_int min2_int max_two min_two max_three min_three max_four min_four   -- for this text's walks alone
set_option linter.unusedVariables false
set_option linter.unusedSimpArgs false

/-! ### laws_refused: function 17 -/
def laws_refused.f (k : Nat) (a0 : ByteArray) (l1 : List Int) : Option (Bool) := (impl_Encode.f k a0 l1).bind fun bt745 => (some (!bt745.2))
theorem laws_refused.mono : ∀ a0 a1 k, LeO (laws_refused.f k a0 a1) (laws_refused.f (k + 1) a0 a1) := by
  intro a0 a1 k
  unfold laws_refused.f
  repeat' first
      | (with_reducible exact impl_Encode.mono _ _ _)
      | (with_reducible exact LeO.refl _)
      | (with_reducible exact LeO.none _)
      | (with_reducible refine LeO.ite ?_ ?_)
      | (with_reducible refine LeO.bind ?_ (fun _ => ?_))
      | exact impl_Encode.mono _ _ _
      | exact LeO.none _
      | refine LeO.ite ?_ ?_
      | refine LeO.bind ?_ (fun _ => ?_)
set_option maxHeartbeats 8000000 in
set_option maxRecDepth 100000 in
theorem laws_refused.calls (k : Nat) (a0 : ByteArray) (A1 : Option Addr) (c1 : Nat) (l1 : List Int) (r : Bool) (w : World) (hr1 : Kd.C (Kd.int .i64) w A1 l1.length l1) (hc1 : l1.length ≤ c1) (h : laws_refused.f k a0 l1 = some r) :
    Calls Try.prog 17 #[.string a0, .slice A1 l1.length c1] w fun e w' => e = .returned (.bool r) ∧ Below w.heap.size w w' := by
  have HR1 := Aside0.mk hr1
  have HC1 := Aside0.mk hc1
  clear hr1 hc1
  have HB := Aside0.mk (Below.refl w.heap.size w)
  have H : ((impl_Encode.f k a0 l1).bind fun bt745 => (some (!bt745.2))) = some r := h
  clear h
  replace H := Option.bind_eq_some_iff.mp H
  obtain ⟨⟨t745, t746⟩, A30, H⟩ := H
  replace H : (some (!t746)) = some r := H
  have A3 := Aside0.mk A30
  clear A30
  obtain rfl := Option.some.inj H
  go_enter Try.func17, Try.ntmps17
  go_wp2_with (first | ((with_reducible refine gate_callee (f := 13) rfl ?_); refine goesL_ (some 10) rfl rfl Try.func13 (by kernel_rfl) rfl #[.string a0, .slice A1 l1.length c1] rfl (by (try simp only [List.map_toArray, List.map_cons, List.map_nil]); first | done | rfl | (simp only [List.length_drop, List.length_take]; rfl)) ?_; (with_reducible refine (impl_Encode.calls k a0 _ _ l1 t745 t746 _ ?side1 ?side2 A3.out).mono ?_); (case side1 => repeat (first | exact HR1.out | (with_reducible refine Kd.C_alloc ?_ _) | (with_reducible refine Kd.C_drewN ?_ _) | (with_reducible refine Kd.C_drew ?_))); (case side2 => exact HC1.out); rintro e w4 ⟨rfl, hb⟩; refine ⟨_, rfl, ?_⟩; have n0_ := Aside0.mk (below_step (by repeat (first | (with_reducible first | exact HB.out | apply below_alloc | apply pw_below_drewN | apply below_drew1) | exact HB.out)) hb); clear HB; have HB := n0_; clear n0_; (try clear hb); (try clear hb2); (try clear hk); (try clear hi)))
  go_ret
  exact ⟨by first | rfl | (simp [errW_none, errW_some] <;> rfl) | (simp [*, errW_none, errW_some] <;> rfl), by repeat (first | (with_reducible first | exact HB.out | apply below_alloc | apply pw_below_drewN | apply below_drew1) | exact HB.out)⟩

/-! ### laws_FnNone: function 8 -/
mutual
def laws_FnNone.j0 : Nat → ByteArray → List Int → Bool → Option (Bool)
  | 0, _, _, _ => none
  | k + 1, x0, x1, x14 => if x14 = true then (some true) else ((impl_Encode.f k (⟨#[65, 79, 80, 95, 82, 82, 82]⟩ : ByteArray) (([0, 1, 2, 3] : List Int))).bind fun bt750 => (if (x0.size : Int) ≥ 3 then (if 1 < (x0.size : Int) then (if (bt x0 1) = 79 then (laws_FnNone.j1 k x0 x1 bt750.2 true) else (if (x0.size : Int) ≥ 2 then (if 0 ≤ 2 then (if 2 ≤ (x0.size : Int) then (laws_FnNone.j1 k x0 x1 bt750.2 ((x0.extract 0 2).toList == ([79, 80] : List UInt8))) else (none)) else (none)) else (laws_FnNone.j1 k x0 x1 bt750.2 false))) else (none)) else (if (x0.size : Int) ≥ 2 then (if 0 ≤ 2 then (if 2 ≤ (x0.size : Int) then (laws_FnNone.j1 k x0 x1 bt750.2 ((x0.extract 0 2).toList == ([79, 80] : List UInt8))) else (none)) else (none)) else (laws_FnNone.j1 k x0 x1 bt750.2 false))))
def laws_FnNone.j1 : Nat → ByteArray → List Int → Bool → Bool → Option (Bool)
  | 0, _, _, _, _ => none
  | k + 1, x0, x1, x6, x37 => if x37 = true then (if (x1.length : Int) ≤ 6 then (some true) else (if (x1.length : Int) > 100 then (some true) else (if x6 = true then ((laws_refused.f k x0 x1).bind fun t752 => (some t752)) else (some false)))) else (if (x1.length : Int) > 100 then (some true) else (if x6 = true then ((laws_refused.f k x0 x1).bind fun t753 => (some t753)) else (some false)))
end
def laws_FnNone.f (k : Nat) (a0 : ByteArray) (l1 : List Int) : Option (Bool) := if (a0.size : Int) > 2147483647 then (laws_FnNone.j0 k a0 l1 true) else (laws_FnNone.j0 k a0 l1 (decide ((l1.length : Int) > 2147483647)))
theorem laws_FnNone.mono_l : ∀ k, (∀ y0 y1 y2, LeO (laws_FnNone.j0 k y0 y1 y2) (laws_FnNone.j0 (k + 1) y0 y1 y2)) ∧ (∀ y0 y1 y2 y3, LeO (laws_FnNone.j1 k y0 y1 y2 y3) (laws_FnNone.j1 (k + 1) y0 y1 y2 y3))
  | 0 => ⟨fun _ _ _ r h => by simp [laws_FnNone.j0] at h, fun _ _ _ _ r h => by simp [laws_FnNone.j1] at h⟩
  | k + 1 => by
    obtain ⟨ih0, ih1⟩ := laws_FnNone.mono_l k
    refine ⟨?_, ?_⟩
    · intro y0 y1 y2
      unfold laws_FnNone.j0
      repeat' first
      | (with_reducible exact ih0 _ _ _)
      | (with_reducible exact ih1 _ _ _ _)
      | (with_reducible exact impl_Encode.mono _ _ _)
      | (with_reducible exact laws_refused.mono _ _ _)
      | (with_reducible exact LeO.refl _)
      | (with_reducible exact LeO.none _)
      | (with_reducible refine LeO.ite ?_ ?_)
      | (with_reducible refine LeO.bind ?_ (fun _ => ?_))
      | exact ih0 _ _ _
      | exact ih1 _ _ _ _
      | exact impl_Encode.mono _ _ _
      | exact laws_refused.mono _ _ _
      | exact LeO.none _
      | refine LeO.ite ?_ ?_
      | refine LeO.bind ?_ (fun _ => ?_)
    · intro y0 y1 y2 y3
      unfold laws_FnNone.j1
      repeat' first
      | (with_reducible exact ih0 _ _ _)
      | (with_reducible exact ih1 _ _ _ _)
      | (with_reducible exact impl_Encode.mono _ _ _)
      | (with_reducible exact laws_refused.mono _ _ _)
      | (with_reducible exact LeO.refl _)
      | (with_reducible exact LeO.none _)
      | (with_reducible refine LeO.ite ?_ ?_)
      | (with_reducible refine LeO.bind ?_ (fun _ => ?_))
      | exact ih0 _ _ _
      | exact ih1 _ _ _ _
      | exact impl_Encode.mono _ _ _
      | exact laws_refused.mono _ _ _
      | exact LeO.none _
      | refine LeO.ite ?_ ?_
      | refine LeO.bind ?_ (fun _ => ?_)
theorem laws_FnNone.mono : ∀ a0 a1 k, LeO (laws_FnNone.f k a0 a1) (laws_FnNone.f (k + 1) a0 a1) := by
  intro a0 a1 k
  obtain ⟨ih0, ih1⟩ := laws_FnNone.mono_l k
  unfold laws_FnNone.f
  repeat' first
      | (with_reducible exact ih0 _ _ _)
      | (with_reducible exact ih1 _ _ _ _)
      | (with_reducible exact impl_Encode.mono _ _ _)
      | (with_reducible exact laws_refused.mono _ _ _)
      | (with_reducible exact LeO.refl _)
      | (with_reducible exact LeO.none _)
      | (with_reducible refine LeO.ite ?_ ?_)
      | (with_reducible refine LeO.bind ?_ (fun _ => ?_))
      | exact ih0 _ _ _
      | exact ih1 _ _ _ _
      | exact impl_Encode.mono _ _ _
      | exact laws_refused.mono _ _ _
      | exact LeO.none _
      | refine LeO.ite ?_ ?_
      | refine LeO.bind ?_ (fun _ => ?_)
set_option maxHeartbeats 8000000 in
set_option maxRecDepth 100000 in
theorem laws_FnNone.calls (k : Nat) (a0 : ByteArray) (A1 : Option Addr) (c1 : Nat) (l1 : List Int) (r : Bool) (w : World) (hr1 : Kd.C (Kd.int .i64) w A1 l1.length l1) (hc1 : l1.length ≤ c1) (h : laws_FnNone.f k a0 l1 = some r) :
    Calls Try.prog 8 #[.string a0, .slice A1 l1.length c1] w fun e w' => e = .returned (.bool r) ∧ Below w.heap.size w w' := by
  have HR1 := Aside0.mk hr1
  have HC1 := Aside0.mk hc1
  clear hr1 hc1
  have HB := Aside0.mk (Below.refl w.heap.size w)
  have H : (if (a0.size : Int) > 2147483647 then (laws_FnNone.j0 k a0 l1 true) else (laws_FnNone.j0 k a0 l1 (decide ((l1.length : Int) > 2147483647)))) = some r := h
  clear h
  have HC3 := Aside0.mk H
  clear H
  go_enter Try.func8, Try.ntmps8
  go_upto_region 1 with (fail)
  go_cut [14] (fun v14 wc => ∃ (kq : Nat) (x14_2 : Bool), v14 = .bool x14_2 ∧ Aside0 (laws_FnNone.j0 kq a0 l1 x14_2 = some r) ∧ Aside0 (kq ≤ k) ∧ Aside0 (Below w.heap.size w wc))
  case first =>
    have H := HC3.out
    clear HC3
    by_cases c4 : (a0.size : Int) > 2147483647
    · rw [if_pos c4] at H
      have c4b0 : decide (2147483647 < (a0.size : Int)) = true := decide_eq_true c4
      have c4b1 : decide (2147483647 < a0.size) = true := decide_eq_true (by omega)
      clear c4
      (first | rw [c4b0] | (simp only [i64_w, i32_w]; rw [c4b0]) | skip)
      have H' := Aside0.mk H
      clear H
      go_wp2
      go_meet
      case rel => exact ⟨_, (true), (by first | rfl | (simp; done) | (simp [*]; done)), H', ⟨by first | omega | exact Nat.le_refl _⟩, ⟨by repeat (first | (with_reducible first | exact HB.out | apply below_alloc | apply pw_below_drewN | apply below_drew1) | exact HB.out)⟩⟩
    · rw [if_neg c4] at H
      have c4b0 : decide (2147483647 < (a0.size : Int)) = false := decide_eq_false c4
      have c4b1 : decide (2147483647 < a0.size) = false := decide_eq_false (by omega)
      clear c4
      (first | rw [c4b0] | (simp only [i64_w, i32_w]; rw [c4b0]) | skip)
      have H' := Aside0.mk H
      clear H
      go_wp2
      go_meet
      case rel => exact ⟨_, (decide ((l1.length : Int) > 2147483647)), (by first | rfl | (simp; done) | (simp [*]; done)), H', ⟨by first | omega | exact Nat.le_refl _⟩, ⟨by repeat (first | (with_reducible first | exact HB.out | apply below_alloc | apply pw_below_drewN | apply below_drew1) | exact HB.out)⟩⟩
  case rest =>
    clear HC3
    try clear c1
    try clear p2
    try clear c4
    try clear c4b0
    try clear c4b1
    obtain ⟨kq, x14_2, rfl, HA, HJ2, HB⟩ := hcut
    cases kq with
    | zero => exact absurd HA.out (by simp [laws_FnNone.j0])
    | succ kj2 =>
      have H := HA.out
      clear HA
      simp only [laws_FnNone.j0] at H
      by_cases c5 : x14_2 = true
      · subst c5
        have H1 : (some true) = some r := by rw [if_pos rfl] at H; exact H
        clear H
        have H := H1
        clear H1
        obtain rfl := Option.some.inj H
        go_wp2
        go_ret
        exact ⟨by first | rfl | (simp [errW_none, errW_some] <;> rfl) | (simp [*, errW_none, errW_some] <;> rfl), by repeat (first | (with_reducible first | exact HB.out | apply below_alloc | apply pw_below_drewN | apply below_drew1) | exact HB.out)⟩
      · replace c5 := Bool.eq_false_iff.mpr c5
        subst c5
        have H1 : ((impl_Encode.f kj2 (⟨#[65, 79, 80, 95, 82, 82, 82]⟩ : ByteArray) (([0, 1, 2, 3] : List Int))).bind fun bt750 => (if (a0.size : Int) ≥ 3 then (if 1 < (a0.size : Int) then (if (bt a0 1) = 79 then (laws_FnNone.j1 kj2 a0 l1 bt750.2 true) else (if (a0.size : Int) ≥ 2 then (if 0 ≤ 2 then (if 2 ≤ (a0.size : Int) then (laws_FnNone.j1 kj2 a0 l1 bt750.2 ((a0.extract 0 2).toList == ([79, 80] : List UInt8))) else (none)) else (none)) else (laws_FnNone.j1 kj2 a0 l1 bt750.2 false))) else (none)) else (if (a0.size : Int) ≥ 2 then (if 0 ≤ 2 then (if 2 ≤ (a0.size : Int) then (laws_FnNone.j1 kj2 a0 l1 bt750.2 ((a0.extract 0 2).toList == ([79, 80] : List UInt8))) else (none)) else (none)) else (laws_FnNone.j1 kj2 a0 l1 bt750.2 false)))) = some r := by rw [if_neg (show ¬ (false = true) by decide)] at H; exact H
        clear H
        have H := H1
        clear H1
        obtain ⟨y747, hy747⟩ : ∃ y_ : List Int, y_ = (([0, 1, 2, 3] : List Int)) := ⟨_, rfl⟩
        replace H : ((impl_Encode.f kj2 (⟨#[65, 79, 80, 95, 82, 82, 82]⟩ : ByteArray) y747).bind fun bt750 => (if (a0.size : Int) ≥ 3 then (if 1 < (a0.size : Int) then (if (bt a0 1) = 79 then (laws_FnNone.j1 kj2 a0 l1 bt750.2 true) else (if (a0.size : Int) ≥ 2 then (if 0 ≤ 2 then (if 2 ≤ (a0.size : Int) then (laws_FnNone.j1 kj2 a0 l1 bt750.2 ((a0.extract 0 2).toList == ([79, 80] : List UInt8))) else (none)) else (none)) else (laws_FnNone.j1 kj2 a0 l1 bt750.2 false))) else (none)) else (if (a0.size : Int) ≥ 2 then (if 0 ≤ 2 then (if 2 ≤ (a0.size : Int) then (laws_FnNone.j1 kj2 a0 l1 bt750.2 ((a0.extract 0 2).toList == ([79, 80] : List UInt8))) else (none)) else (none)) else (laws_FnNone.j1 kj2 a0 l1 bt750.2 false)))) = some r := by first | (rw [hy747]; with_reducible exact H) | (have H2_ := (Option.bind_some _ _).symm.trans H; rw [hy747]; with_reducible exact H2_) | (have H2_ := (Option.bind_some _ _).symm.trans H; with_reducible exact H2_) | with_reducible exact H | (rw [hy747]; exact H) | exact H
        have Ny747 := Aside0.mk hy747
        clear hy747
        replace H := Option.bind_eq_some_iff.mp H
        obtain ⟨⟨t750, t751⟩, A60, H⟩ := H
        replace H : (if (a0.size : Int) ≥ 3 then (if 1 < (a0.size : Int) then (if (bt a0 1) = 79 then (laws_FnNone.j1 kj2 a0 l1 t751 true) else (if (a0.size : Int) ≥ 2 then (if 0 ≤ 2 then (if 2 ≤ (a0.size : Int) then (laws_FnNone.j1 kj2 a0 l1 t751 ((a0.extract 0 2).toList == ([79, 80] : List UInt8))) else (none)) else (none)) else (laws_FnNone.j1 kj2 a0 l1 t751 false))) else (none)) else (if (a0.size : Int) ≥ 2 then (if 0 ≤ 2 then (if 2 ≤ (a0.size : Int) then (laws_FnNone.j1 kj2 a0 l1 t751 ((a0.extract 0 2).toList == ([79, 80] : List UInt8))) else (none)) else (none)) else (laws_FnNone.j1 kj2 a0 l1 t751 false))) = some r := H
        have A6 := Aside0.mk A60
        clear A60
        have HC7 := Aside0.mk H
        clear H
        go_upto_region 4 with (first | ((with_reducible refine gate_dst (N := 16) rfl ?_); (try (refine gate_guard (by rfl) ?_; dsimp only)); refine Kd.R_lit (Kd.int .i64) _ 3 ?hg (N := 16) ?hd (xs := ([0, 1, 2, 3] : List Int)) (inner := [.int .i64 0, .int .i64 1, .int .i64 2, .int .i64 3]) (ok := fun _ => True) (okp := fun _ => True) ?hr ?hp (fun _ hk => hk) trivial (Below.refl _ _) (Nat.le_refl _) (by simp) ?_; (case hd => rfl); (case hg => rfl); (case hr => first | (go_simp; done) | (go_simp; rfl)); (case hp => exact (Reps.one (show Kd.M (Kd.int .i64) _ _ _ 0 [.int .i64 0] from rfl) (Reps.one (show Kd.M (Kd.int .i64) _ _ _ 1 [.int .i64 1] from rfl) (Reps.one (show Kd.M (Kd.int .i64) _ _ _ 2 [.int .i64 2] from rfl) (Reps.one (show Kd.M (Kd.int .i64) _ _ _ 3 [.int .i64 3] from rfl) (Reps.none _ _)))))); intro v748 w8 ho9 hb hg_ hnew_; clear hg_ hnew_; (first | rw [← Ny747.out] at ho9 | (simp only [Int.reduceToNat] at ho9; rw [← Ny747.out] at ho9)); have n0_ := Aside0.mk (Kd.R_lower ho9 (below_size (by repeat (first | (with_reducible first | exact HB.out | apply below_alloc | apply pw_below_drewN | apply below_drew1) | exact HB.out)))); have n1_ := Aside0.mk (below_step (by repeat (first | (with_reducible first | exact HB.out | apply below_alloc | apply pw_below_drewN | apply below_drew1) | exact HB.out)) hb); clear HB; have HO749 := n0_; have HB := n1_; clear n0_ n1_; clear hb ho9; obtain ⟨Ao10, co10, eo10⟩ := Kd.R_slice HO749.out; subst eo10) | ((with_reducible refine gate_callee (f := 13) rfl ?_); refine goesL_ (some 17) rfl rfl Try.func13 (by kernel_rfl) rfl #[.string (⟨#[65, 79, 80, 95, 82, 82, 82]⟩ : ByteArray), .slice Ao10 y747.length co10] rfl (by (try simp only [List.map_toArray, List.map_cons, List.map_nil]); first | done | rfl | (simp only [List.length_drop, List.length_take]; rfl)) ?_; (with_reducible refine (impl_Encode.calls kj2 (⟨#[65, 79, 80, 95, 82, 82, 82]⟩ : ByteArray) _ _ y747 t750 t751 _ ?side1 ?side2 A6.out).mono ?_); (case side1 => repeat (first | exact (Kd.R_reads' HO749.out).2.2 | (with_reducible refine Kd.C_alloc ?_ _) | (with_reducible refine Kd.C_drewN ?_ _) | (with_reducible refine Kd.C_drew ?_))); (case side2 => exact (Kd.R_reads' HO749.out).2.1); rintro e w11 ⟨rfl, hb⟩; refine ⟨_, rfl, ?_⟩; have n0_ := Aside0.mk (Kd.R_below (by (with_reducible repeat (first | apply Kd.R_alloc | apply Kd.R_drewN | apply Kd.R_drew)); exact HO749.out) hb); have n1_ := Aside0.mk (below_step (by repeat (first | (with_reducible first | exact HB.out | apply below_alloc | apply pw_below_drewN | apply below_drew1) | exact HB.out)) hb); clear HO749; clear HB; have HO749 := n0_; have HB := n1_; clear n0_ n1_; (try clear hb); (try clear hb2); (try clear hk); (try clear hi)))
        (try simp only [Act.put, List.setIfInBounds_toArray, List.set_cons_zero, List.set_cons_succ])
        go_cut [37] (fun v37 wc => ∃ (kq : Nat) (x37_6 : Bool), v37 = .bool x37_6 ∧ Aside0 (laws_FnNone.j1 kq a0 l1 t751 x37_6 = some r) ∧ Aside0 (kq ≤ kj2) ∧ Aside0 (Below w.heap.size w wc))
        case first =>
          have H := HC7.out
          clear HC7
          by_cases c12 : (a0.size : Int) ≥ 3
          · rw [if_pos c12] at H
            have c12b0 : decide (3 ≤ (a0.size : Int)) = true := decide_eq_true c12
            have c12b1 : decide (3 ≤ a0.size) = true := decide_eq_true (by omega)
            clear c12
            (first | rw [c12b0] | (simp only [i64_w, i32_w]; rw [c12b0]) | skip)
            by_cases c13 : 1 < (a0.size : Int)
            · rw [if_pos c13] at H
              have c13b0 : decide (1 < (a0.size : Int)) = true := decide_eq_true c13
              have c13b1 : decide (1 < a0.size) = true := decide_eq_true (by omega)
              clear c13
              by_cases c15 : (bt a0 1) = 79
              · rw [if_pos c15] at H
                have c15b0 : ((bt a0 1) == 79) = true := beq_iff_eq.mpr c15
                have c15b1 : ((bt a0 1) != 79) = false := bne_eq_false_iff_eq.mpr c15
                clear c15
                have H' := Aside0.mk H
                clear H
                have p14 : 0 ≤ (1 : Int) := (by omega)
                have q14 : 1 < a0.size := (by have : (1 : Int) < (a0.size : Int) := of_decide_eq_true (by first | (with_reducible assumption) | assumption); omega)
                have hx14 : ∀ h : 1 < a0.size, ((a0[1]'h).toNat : Int) = bt a0 1 := bt_at a0 1
                clear p14
                have qi14 : (1 < (a0.size : Int)) = True := eq_true (of_decide_eq_true (by first | (with_reducible assumption) | assumption))
                replace q14 := eq_true q14
                go_wp2
                go_meet
                case rel => exact ⟨_, (true), (by first | rfl | (simp; done) | (simp [*]; done)), H', ⟨by have := HJ2.out; first | omega | exact Nat.le_refl _⟩, ⟨by repeat (first | (with_reducible first | exact HB.out | apply below_alloc | apply pw_below_drewN | apply below_drew1) | exact HB.out)⟩⟩
              · rw [if_neg c15] at H
                have c15b0 : ((bt a0 1) == 79) = false := beq_eq_false_iff_ne.mpr c15
                have c15b1 : ((bt a0 1) != 79) = true := bne_iff_ne.mpr c15
                by_cases c16 : (a0.size : Int) ≥ 2
                · rw [if_pos c16] at H
                  have c16b0 : decide (2 ≤ (a0.size : Int)) = true := decide_eq_true c16
                  have c16b1 : decide (2 ≤ a0.size) = true := decide_eq_true (by omega)
                  clear c16
                  by_cases c17 : 0 ≤ 2
                  · rw [if_pos c17] at H
                    have c17b0 := eq_true c17
                    have c17b1 : decide (0 ≤ 2) = true := decide_eq_true c17
                    clear c17
                    by_cases c18 : 2 ≤ (a0.size : Int)
                    · rw [if_pos c18] at H
                      have c18b0 := eq_true c18
                      have c18b1 : decide (2 ≤ (a0.size : Int)) = true := decide_eq_true c18
                      clear c18
                      have H' := Aside0.mk H
                      clear H
                      have p14 : 0 ≤ (1 : Int) := (by omega)
                      have q14 : 1 < a0.size := (by have : (1 : Int) < (a0.size : Int) := of_decide_eq_true (by first | (with_reducible assumption) | assumption); omega)
                      have hx14 : ∀ h : 1 < a0.size, ((a0[1]'h).toNat : Int) = bt a0 1 := bt_at a0 1
                      clear p14
                      have qi14 : (1 < (a0.size : Int)) = True := eq_true (of_decide_eq_true (by first | (with_reducible assumption) | assumption))
                      replace q14 := eq_true q14
                      go_wp2
                      go_meet
                      case rel => exact ⟨_, (((a0.extract 0 2).toList == ([79, 80] : List UInt8))), (by first | rfl | (simp; done) | (simp [*]; done)), H', ⟨by have := HJ2.out; first | omega | exact Nat.le_refl _⟩, ⟨by repeat (first | (with_reducible first | exact HB.out | apply below_alloc | apply pw_below_drewN | apply below_drew1) | exact HB.out)⟩⟩
                    · rw [if_neg c18] at H
                      exact absurd H (by simp)
                  · rw [if_neg c17] at H
                    exact absurd H (by simp)
                · rw [if_neg c16] at H
                  have c16b0 : decide (2 ≤ (a0.size : Int)) = false := decide_eq_false c16
                  have c16b1 : decide (2 ≤ a0.size) = false := decide_eq_false (by omega)
                  clear c16
                  have H' := Aside0.mk H
                  clear H
                  have p14 : 0 ≤ (1 : Int) := (by omega)
                  have q14 : 1 < a0.size := (by have : (1 : Int) < (a0.size : Int) := of_decide_eq_true (by first | (with_reducible assumption) | assumption); omega)
                  have hx14 : ∀ h : 1 < a0.size, ((a0[1]'h).toNat : Int) = bt a0 1 := bt_at a0 1
                  clear p14
                  have qi14 : (1 < (a0.size : Int)) = True := eq_true (of_decide_eq_true (by first | (with_reducible assumption) | assumption))
                  replace q14 := eq_true q14
                  go_wp2
                  go_meet
                  case rel => exact ⟨_, (false), (by first | rfl | (simp; done) | (simp [*]; done)), H', ⟨by have := HJ2.out; first | omega | exact Nat.le_refl _⟩, ⟨by repeat (first | (with_reducible first | exact HB.out | apply below_alloc | apply pw_below_drewN | apply below_drew1) | exact HB.out)⟩⟩
            · rw [if_neg c13] at H
              exact absurd H (by simp)
          · rw [if_neg c12] at H
            have c12b0 : decide (3 ≤ (a0.size : Int)) = false := decide_eq_false c12
            have c12b1 : decide (3 ≤ a0.size) = false := decide_eq_false (by omega)
            clear c12
            (first | rw [c12b0] | (simp only [i64_w, i32_w]; rw [c12b0]) | skip)
            by_cases c19 : (a0.size : Int) ≥ 2
            · rw [if_pos c19] at H
              have c19b0 : decide (2 ≤ (a0.size : Int)) = true := decide_eq_true c19
              have c19b1 : decide (2 ≤ a0.size) = true := decide_eq_true (by omega)
              clear c19
              by_cases c20 : 0 ≤ 2
              · rw [if_pos c20] at H
                have c20b0 := eq_true c20
                have c20b1 : decide (0 ≤ 2) = true := decide_eq_true c20
                clear c20
                by_cases c21 : 2 ≤ (a0.size : Int)
                · rw [if_pos c21] at H
                  have c21b0 := eq_true c21
                  have c21b1 : decide (2 ≤ (a0.size : Int)) = true := decide_eq_true c21
                  clear c21
                  have H' := Aside0.mk H
                  clear H
                  go_wp2
                  go_meet
                  case rel => exact ⟨_, (((a0.extract 0 2).toList == ([79, 80] : List UInt8))), (by first | rfl | (simp; done) | (simp [*]; done)), H', ⟨by have := HJ2.out; first | omega | exact Nat.le_refl _⟩, ⟨by repeat (first | (with_reducible first | exact HB.out | apply below_alloc | apply pw_below_drewN | apply below_drew1) | exact HB.out)⟩⟩
                · rw [if_neg c21] at H
                  exact absurd H (by simp)
              · rw [if_neg c20] at H
                exact absurd H (by simp)
            · rw [if_neg c19] at H
              have c19b0 : decide (2 ≤ (a0.size : Int)) = false := decide_eq_false c19
              have c19b1 : decide (2 ≤ a0.size) = false := decide_eq_false (by omega)
              clear c19
              have H' := Aside0.mk H
              clear H
              go_wp2
              go_meet
              case rel => exact ⟨_, (false), (by first | rfl | (simp; done) | (simp [*]; done)), H', ⟨by have := HJ2.out; first | omega | exact Nat.le_refl _⟩, ⟨by repeat (first | (with_reducible first | exact HB.out | apply below_alloc | apply pw_below_drewN | apply below_drew1) | exact HB.out)⟩⟩
        case rest =>
          clear HC7
          try clear c1
          try clear p1
          try clear q1
          try clear hx1
          try clear qi1
          try clear c2
          try clear p2
          try clear c4
          try clear c4b0
          try clear c4b1
          try clear c5
          try clear c8
          try clear c12
          try clear c12b0
          try clear c12b1
          try clear c13
          try clear c13b0
          try clear c13b1
          try clear p14
          try clear q14
          try clear hx14
          try clear qi14
          try clear c15
          try clear c15b0
          try clear c15b1
          try clear c16
          try clear c16b0
          try clear c16b1
          try clear c17
          try clear c17b0
          try clear c17b1
          try clear c18
          try clear c18b0
          try clear c18b1
          try clear c19
          try clear c19b0
          try clear c19b1
          try clear c20
          try clear c20b0
          try clear c20b1
          try clear c21
          try clear c21b0
          try clear c21b1
          try clear p14
          try clear p2
          try clear q14
          obtain ⟨kq, x37_6, rfl, HA, HJ6, HB⟩ := hcut
          cases kq with
          | zero => exact absurd HA.out (by simp [laws_FnNone.j1])
          | succ kj6 =>
            have H := HA.out
            clear HA
            simp only [laws_FnNone.j1] at H
            by_cases c22 : x37_6 = true
            · subst c22
              have H1 : (if (l1.length : Int) ≤ 6 then (some true) else (if (l1.length : Int) > 100 then (some true) else (if t751 = true then ((laws_refused.f kj6 a0 l1).bind fun t752 => (some t752)) else (some false)))) = some r := by rw [if_pos rfl] at H; exact H
              clear H
              have H := H1
              clear H1
              by_cases c23 : (l1.length : Int) ≤ 6
              · rw [if_pos c23] at H
                have c23b0 : decide ((l1.length : Int) ≤ 6) = true := decide_eq_true c23
                have c23b1 : decide (l1.length ≤ 6) = true := decide_eq_true (by omega)
                clear c23
                obtain rfl := Option.some.inj H
                go_wp2
                go_ret
                exact ⟨by first | rfl | (simp [errW_none, errW_some] <;> rfl) | (simp [*, errW_none, errW_some] <;> rfl), by repeat (first | (with_reducible first | exact HB.out | apply below_alloc | apply pw_below_drewN | apply below_drew1) | exact HB.out)⟩
              · rw [if_neg c23] at H
                have c23b0 : decide ((l1.length : Int) ≤ 6) = false := decide_eq_false c23
                have c23b1 : decide (l1.length ≤ 6) = false := decide_eq_false (by omega)
                clear c23
                by_cases c24 : (l1.length : Int) > 100
                · rw [if_pos c24] at H
                  have c24b0 : decide (100 < (l1.length : Int)) = true := decide_eq_true c24
                  have c24b1 : decide (100 < l1.length) = true := decide_eq_true (by omega)
                  clear c24
                  obtain rfl := Option.some.inj H
                  go_wp2
                  go_ret
                  exact ⟨by first | rfl | (simp [errW_none, errW_some] <;> rfl) | (simp [*, errW_none, errW_some] <;> rfl), by repeat (first | (with_reducible first | exact HB.out | apply below_alloc | apply pw_below_drewN | apply below_drew1) | exact HB.out)⟩
                · rw [if_neg c24] at H
                  have c24b0 : decide (100 < (l1.length : Int)) = false := decide_eq_false c24
                  have c24b1 : decide (100 < l1.length) = false := decide_eq_false (by omega)
                  clear c24
                  by_cases c25 : t751 = true
                  · subst c25
                    have H1 : ((laws_refused.f kj6 a0 l1).bind fun t752 => (some t752)) = some r := by rw [if_pos rfl] at H; exact H
                    clear H
                    have H := H1
                    clear H1
                    replace H := Option.bind_eq_some_iff.mp H
                    obtain ⟨t752, A260, H⟩ := H
                    replace H : (some t752) = some r := H
                    have A26 := Aside0.mk A260
                    clear A260
                    obtain rfl := Option.some.inj H
                    go_wp2_with (first | (go_at_call 17; (with_reducible refine (laws_refused.calls kj6 a0 _ _ l1 t752 _ ?side1 ?side2 A26.out).mono ?_); (case side1 => repeat (first | exact (Kd.C_below HR1.out HB.out) | (with_reducible refine Kd.C_alloc ?_ _) | (with_reducible refine Kd.C_drewN ?_ _) | (with_reducible refine Kd.C_drew ?_))); (case side2 => exact HC1.out); rintro e w27 ⟨rfl, hb⟩; have n0_ := Aside0.mk (below_step (by repeat (first | (with_reducible first | exact HB.out | apply below_alloc | apply pw_below_drewN | apply below_drew1) | exact HB.out)) hb); clear HB; have HB := n0_; clear n0_; (try clear hb); (try clear hb2); (try clear hk); (try clear hi)))
                    go_ret
                    exact ⟨by first | rfl | (simp [errW_none, errW_some] <;> rfl) | (simp [*, errW_none, errW_some] <;> rfl), by repeat (first | (with_reducible first | exact HB.out | apply below_alloc | apply pw_below_drewN | apply below_drew1) | exact HB.out)⟩
                  · replace c25 := Bool.eq_false_iff.mpr c25
                    subst c25
                    have H1 : (some false) = some r := by rw [if_neg (show ¬ (false = true) by decide)] at H; exact H
                    clear H
                    have H := H1
                    clear H1
                    obtain rfl := Option.some.inj H
                    go_wp2
                    go_ret
                    exact ⟨by first | rfl | (simp [errW_none, errW_some] <;> rfl) | (simp [*, errW_none, errW_some] <;> rfl), by repeat (first | (with_reducible first | exact HB.out | apply below_alloc | apply pw_below_drewN | apply below_drew1) | exact HB.out)⟩
            · replace c22 := Bool.eq_false_iff.mpr c22
              subst c22
              have H1 : (if (l1.length : Int) > 100 then (some true) else (if t751 = true then ((laws_refused.f kj6 a0 l1).bind fun t753 => (some t753)) else (some false))) = some r := by rw [if_neg (show ¬ (false = true) by decide)] at H; exact H
              clear H
              have H := H1
              clear H1
              by_cases c28 : (l1.length : Int) > 100
              · rw [if_pos c28] at H
                have c28b0 : decide (100 < (l1.length : Int)) = true := decide_eq_true c28
                have c28b1 : decide (100 < l1.length) = true := decide_eq_true (by omega)
                clear c28
                obtain rfl := Option.some.inj H
                go_wp2
                go_ret
                exact ⟨by first | rfl | (simp [errW_none, errW_some] <;> rfl) | (simp [*, errW_none, errW_some] <;> rfl), by repeat (first | (with_reducible first | exact HB.out | apply below_alloc | apply pw_below_drewN | apply below_drew1) | exact HB.out)⟩
              · rw [if_neg c28] at H
                have c28b0 : decide (100 < (l1.length : Int)) = false := decide_eq_false c28
                have c28b1 : decide (100 < l1.length) = false := decide_eq_false (by omega)
                clear c28
                by_cases c29 : t751 = true
                · subst c29
                  have H1 : ((laws_refused.f kj6 a0 l1).bind fun t753 => (some t753)) = some r := by rw [if_pos rfl] at H; exact H
                  clear H
                  have H := H1
                  clear H1
                  replace H := Option.bind_eq_some_iff.mp H
                  obtain ⟨t753, A300, H⟩ := H
                  replace H : (some t753) = some r := H
                  have A30 := Aside0.mk A300
                  clear A300
                  obtain rfl := Option.some.inj H
                  go_wp2_with (first | (go_at_call 17; (with_reducible refine (laws_refused.calls kj6 a0 _ _ l1 t753 _ ?side1 ?side2 A30.out).mono ?_); (case side1 => repeat (first | exact (Kd.C_below HR1.out HB.out) | (with_reducible refine Kd.C_alloc ?_ _) | (with_reducible refine Kd.C_drewN ?_ _) | (with_reducible refine Kd.C_drew ?_))); (case side2 => exact HC1.out); rintro e w31 ⟨rfl, hb⟩; have n0_ := Aside0.mk (below_step (by repeat (first | (with_reducible first | exact HB.out | apply below_alloc | apply pw_below_drewN | apply below_drew1) | exact HB.out)) hb); clear HB; have HB := n0_; clear n0_; (try clear hb); (try clear hb2); (try clear hk); (try clear hi)))
                  go_ret
                  exact ⟨by first | rfl | (simp [errW_none, errW_some] <;> rfl) | (simp [*, errW_none, errW_some] <;> rfl), by repeat (first | (with_reducible first | exact HB.out | apply below_alloc | apply pw_below_drewN | apply below_drew1) | exact HB.out)⟩
                · replace c29 := Bool.eq_false_iff.mpr c29
                  subst c29
                  have H1 : (some false) = some r := by rw [if_neg (show ¬ (false = true) by decide)] at H; exact H
                  clear H
                  have H := H1
                  clear H1
                  obtain rfl := Option.some.inj H
                  go_wp2
                  go_ret
                  exact ⟨by first | rfl | (simp [errW_none, errW_some] <;> rfl) | (simp [*, errW_none, errW_some] <;> rfl), by repeat (first | (with_reducible first | exact HB.out | apply below_alloc | apply pw_below_drewN | apply below_drew1) | exact HB.out)⟩

/-- THE ONE PURE STATEMENT of laws_FnNone: yours. -/
def laws_FnNone.Pure : Prop := ∀ (a0 : ByteArray) (l1 : List Int), a0.size ≤ 140737488351232 → l1.length ≤ maxLen → l1.length * 8 ≤ 140737488351232 → (∀ x ∈ l1, (Lit.int .i64 x).wf = true) → ∃ k, laws_FnNone.f k a0 l1 = some true
theorem laws_FnNone.walk (P : laws_FnNone.Pure) (a0 : ByteArray) (a1 : Option Addr) (len1 cap1 : Nat) (z1 : List Int) (w : World) (w0 : a0.size ≤ 140737488351232) (w1 : (a1 = none ∧ len1 = 0 ∧ cap1 = 0 ∧ z1 = []) ∨ ∃ x, a1 = some x ∧ len1 ≤ cap1 ∧ cap1 ≤ maxLen ∧ z1.length = cap1 ∧ (∀ i, i < z1.length → w.cell? (x.add i) = some (.int .i64 (z1.getD i 0))) ∧ ∀ n ∈ z1, (Lit.int .i64 n).wf = true) (y1 : len1 * 8 ≤ 140737488351232) :
    Calls Try.prog 8 #[.string a0, .slice a1 len1 cap1] w fun e w' => e = .returned (.bool true) ∧ Below w.heap.size w w' := by
  obtain ⟨l1, rfl, hr1, hm1, hw1, hc1⟩ := ReadsInt.ofRowC w1
  obtain ⟨k, h⟩ := P a0 l1 w0 hm1 y1 hw1
  refine (laws_FnNone.calls k a0 _ _ l1 true w (Kd.C_of_reads (d := (0 : Int)) (h1 := fun _ => rfl) hr1) hc1 h).mono ?_
  rintro e w' ⟨rfl, hd⟩
  exact ⟨rfl, hd⟩

end Go.Proofs.Ytnfkdmoblncclaa.X
