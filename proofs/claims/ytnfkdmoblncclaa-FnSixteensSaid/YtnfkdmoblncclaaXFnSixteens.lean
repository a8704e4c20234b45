/- The walk of the law FnSixteens. -/
import Derived.Test.YtnfkdmoblncclaaXEncode
import Derived.Test.YtnfkdmoblncclaaXPut
namespace Go.Proofs.Ytnfkdmoblncclaa.X
open Go.RowKit Go.Proofs.YtnfkdmoblncclaaW.PrintWords Go.Proofs.YtnfkdmoblncclaaW.PrintLast Go.Proofs.YtnfkdmoblncclaaW.PrintMore
attribute [local go_sem] max2_int min2_int max_two min_two max_three min_three max_four min_four   -- for this text's walks alone
set_option linter.unusedVariables false
set_option linter.unusedSimpArgs false

/-! ### laws_FnSixteens: function 10 -/
def laws_FnSixteens.j0 : Nat → Int → Int → Int → Int → Bool → Option (Bool)
  | 0, _, _, _, _, _ => none
  | k + 1, x0, x1, x2, x3, x32 => if x32 = true then (some true) else ((impl_Encode.f k (⟨#[65, 79, 80, 95, 68, 81]⟩ : ByteArray) (([wrap64 (x0), x1, x2, x3] : List Int))).bind fun bt577 => (if bt577.2 = true then ((spec_Put.f k x1 73).bind fun t579 => ((spec_Put.f k x2 65).bind fun t580 => ((spec_Put.f k (x3 / 16) 68).bind fun t581 => (some (bt577.1 == (Go.bits .or .u32 (Go.bits .or .u32 (Go.bits .or .u32 x0 t579) t580) t581)))))) else (some false)))
def laws_FnSixteens.f (k : Nat) (a0 : Int) (a1 : Int) (a2 : Int) (a3 : Int) : Option (Bool) := if a1 < 0 then (laws_FnSixteens.j0 k a0 a1 a2 a3 true) else (if a1 > 63 then (laws_FnSixteens.j0 k a0 a1 a2 a3 true) else (if a2 < 0 then (laws_FnSixteens.j0 k a0 a1 a2 a3 true) else (if a2 > 31 then (laws_FnSixteens.j0 k a0 a1 a2 a3 true) else (if a3 < 0 then (laws_FnSixteens.j0 k a0 a1 a2 a3 true) else (laws_FnSixteens.j0 k a0 a1 a2 a3 (decide (a3 > 65535)))))))
theorem laws_FnSixteens.mono_l : ∀ k, (∀ y0 y1 y2 y3 y4, LeO (laws_FnSixteens.j0 k y0 y1 y2 y3 y4) (laws_FnSixteens.j0 (k + 1) y0 y1 y2 y3 y4))
  | 0 => fun _ _ _ _ _ r h => by simp [laws_FnSixteens.j0] at h
  | k + 1 => by
    have ih0 := laws_FnSixteens.mono_l k
    · intro y0 y1 y2 y3 y4
      unfold laws_FnSixteens.j0
      repeat' first
      | (with_reducible exact ih0 _ _ _ _ _)
      | (with_reducible exact impl_Encode.mono _ _ _)
      | (with_reducible exact spec_Put.mono _ _ _)
      | (with_reducible exact LeO.refl _)
      | (with_reducible exact LeO.none _)
      | (with_reducible refine LeO.ite ?_ ?_)
      | (with_reducible refine LeO.bind ?_ (fun _ => ?_))
      | exact ih0 _ _ _ _ _
      | exact impl_Encode.mono _ _ _
      | exact spec_Put.mono _ _ _
      | exact LeO.none _
      | refine LeO.ite ?_ ?_
      | refine LeO.bind ?_ (fun _ => ?_)
theorem laws_FnSixteens.mono : ∀ a0 a1 a2 a3 k, LeO (laws_FnSixteens.f k a0 a1 a2 a3) (laws_FnSixteens.f (k + 1) a0 a1 a2 a3) := by
  intro a0 a1 a2 a3 k
  have ih0 := laws_FnSixteens.mono_l k
  unfold laws_FnSixteens.f
  repeat' first
      | (with_reducible exact ih0 _ _ _ _ _)
      | (with_reducible exact impl_Encode.mono _ _ _)
      | (with_reducible exact spec_Put.mono _ _ _)
      | (with_reducible exact LeO.refl _)
      | (with_reducible exact LeO.none _)
      | (with_reducible refine LeO.ite ?_ ?_)
      | (with_reducible refine LeO.bind ?_ (fun _ => ?_))
      | exact ih0 _ _ _ _ _
      | exact impl_Encode.mono _ _ _
      | exact spec_Put.mono _ _ _
      | exact LeO.none _
      | refine LeO.ite ?_ ?_
      | refine LeO.bind ?_ (fun _ => ?_)
set_option maxHeartbeats 8000000 in
set_option maxRecDepth 100000 in
theorem laws_FnSixteens.calls (k : Nat) (a0 : Int) (a1 : Int) (a2 : Int) (a3 : Int) (r : Bool) (w : World) (h : laws_FnSixteens.f k a0 a1 a2 a3 = some r) :
    Calls Try.prog 10 #[.int .u32 a0, .int .i64 a1, .int .i64 a2, .int .i64 a3] w fun e w' => e = .returned (.bool r) ∧ Below w.heap.size w w' := by
  have HB := Aside0.mk (Below.refl w.heap.size w)
  have H : (if a1 < 0 then (laws_FnSixteens.j0 k a0 a1 a2 a3 true) else (if a1 > 63 then (laws_FnSixteens.j0 k a0 a1 a2 a3 true) else (if a2 < 0 then (laws_FnSixteens.j0 k a0 a1 a2 a3 true) else (if a2 > 31 then (laws_FnSixteens.j0 k a0 a1 a2 a3 true) else (if a3 < 0 then (laws_FnSixteens.j0 k a0 a1 a2 a3 true) else (laws_FnSixteens.j0 k a0 a1 a2 a3 (decide (a3 > 65535)))))))) = some r := h
  clear h
  have HC5 := Aside0.mk H
  clear H
  go_enter Try.func10, Try.ntmps10
  go_upto_region 1 with (fail)
  go_cut [32] (fun v32 wc => ∃ (kq : Nat) (x32_4 : Bool), v32 = .bool x32_4 ∧ Aside0 (laws_FnSixteens.j0 kq a0 a1 a2 a3 x32_4 = some r) ∧ Aside0 (kq ≤ k) ∧ Aside0 (Below w.heap.size w wc))
  case first =>
    have H := HC5.out
    clear HC5
    by_cases c6 : a1 < 0
    · rw [if_pos c6] at H
      have c6b0 : decide (a1 < 0) = true := decide_eq_true c6
      clear c6
      (first | rw [c6b0] | (simp only [i64_w, i32_w]; rw [c6b0]) | skip)
      have H' := Aside0.mk H
      clear H
      go_wp2
      go_meet
      case rel => exact ⟨_, (true), (by first | rfl | (simp; done) | (simp [*]; done)), H', ⟨by first | omega | exact Nat.le_refl _⟩, ⟨by repeat (first | (with_reducible first | exact HB.out | apply below_alloc | apply pw_below_drewN | apply below_drew1) | exact HB.out)⟩⟩
    · rw [if_neg c6] at H
      have c6b0 : decide (a1 < 0) = false := decide_eq_false c6
      clear c6
      (first | rw [c6b0] | (simp only [i64_w, i32_w]; rw [c6b0]) | skip)
      by_cases c7 : a1 > 63
      · rw [if_pos c7] at H
        have c7b0 : decide (63 < a1) = true := decide_eq_true c7
        clear c7
        have H' := Aside0.mk H
        clear H
        go_wp2
        go_meet
        case rel => exact ⟨_, (true), (by first | rfl | (simp; done) | (simp [*]; done)), H', ⟨by first | omega | exact Nat.le_refl _⟩, ⟨by repeat (first | (with_reducible first | exact HB.out | apply below_alloc | apply pw_below_drewN | apply below_drew1) | exact HB.out)⟩⟩
      · rw [if_neg c7] at H
        have c7b0 : decide (63 < a1) = false := decide_eq_false c7
        clear c7
        by_cases c8 : a2 < 0
        · rw [if_pos c8] at H
          have c8b0 : decide (a2 < 0) = true := decide_eq_true c8
          clear c8
          have H' := Aside0.mk H
          clear H
          go_wp2
          go_meet
          case rel => exact ⟨_, (true), (by first | rfl | (simp; done) | (simp [*]; done)), H', ⟨by first | omega | exact Nat.le_refl _⟩, ⟨by repeat (first | (with_reducible first | exact HB.out | apply below_alloc | apply pw_below_drewN | apply below_drew1) | exact HB.out)⟩⟩
        · rw [if_neg c8] at H
          have c8b0 : decide (a2 < 0) = false := decide_eq_false c8
          clear c8
          by_cases c9 : a2 > 31
          · rw [if_pos c9] at H
            have c9b0 : decide (31 < a2) = true := decide_eq_true c9
            clear c9
            have H' := Aside0.mk H
            clear H
            go_wp2
            go_meet
            case rel => exact ⟨_, (true), (by first | rfl | (simp; done) | (simp [*]; done)), H', ⟨by first | omega | exact Nat.le_refl _⟩, ⟨by repeat (first | (with_reducible first | exact HB.out | apply below_alloc | apply pw_below_drewN | apply below_drew1) | exact HB.out)⟩⟩
          · rw [if_neg c9] at H
            have c9b0 : decide (31 < a2) = false := decide_eq_false c9
            clear c9
            by_cases c10 : a3 < 0
            · rw [if_pos c10] at H
              have c10b0 : decide (a3 < 0) = true := decide_eq_true c10
              clear c10
              have H' := Aside0.mk H
              clear H
              go_wp2
              go_meet
              case rel => exact ⟨_, (true), (by first | rfl | (simp; done) | (simp [*]; done)), H', ⟨by first | omega | exact Nat.le_refl _⟩, ⟨by repeat (first | (with_reducible first | exact HB.out | apply below_alloc | apply pw_below_drewN | apply below_drew1) | exact HB.out)⟩⟩
            · rw [if_neg c10] at H
              have c10b0 : decide (a3 < 0) = false := decide_eq_false c10
              clear c10
              have H' := Aside0.mk H
              clear H
              go_wp2
              go_meet
              case rel => exact ⟨_, (decide (a3 > 65535)), (by first | rfl | (simp; done) | (simp [*]; done)), H', ⟨by first | omega | exact Nat.le_refl _⟩, ⟨by repeat (first | (with_reducible first | exact HB.out | apply below_alloc | apply pw_below_drewN | apply below_drew1) | exact HB.out)⟩⟩
  case rest =>
    clear HC5
    try clear c1
    try clear p2
    try clear c6
    try clear c6b0
    try clear c7
    try clear c7b0
    try clear c8
    try clear c8b0
    try clear c9
    try clear c9b0
    try clear c10
    try clear c10b0
    obtain ⟨kq, x32_4, rfl, HA, HJ4, HB⟩ := hcut
    cases kq with
    | zero => exact absurd HA.out (by simp [laws_FnSixteens.j0])
    | succ kj4 =>
      have H := HA.out
      clear HA
      simp only [laws_FnSixteens.j0] at H
      by_cases c11 : x32_4 = true
      · subst c11
        have H1 : (some true) = some r := by rw [if_pos rfl] at H; exact H
        clear H
        have H := H1
        clear H1
        obtain rfl := Option.some.inj H
        go_wp2
        go_ret
        exact ⟨by first | rfl | (simp [errW_none, errW_some] <;> rfl) | (simp [*, errW_none, errW_some] <;> rfl), by repeat (first | (with_reducible first | exact HB.out | apply below_alloc | apply pw_below_drewN | apply below_drew1) | exact HB.out)⟩
      · replace c11 := Bool.eq_false_iff.mpr c11
        subst c11
        have H1 : ((impl_Encode.f kj4 (⟨#[65, 79, 80, 95, 68, 81]⟩ : ByteArray) (([wrap64 (a0), a1, a2, a3] : List Int))).bind fun bt577 => (if bt577.2 = true then ((spec_Put.f kj4 a1 73).bind fun t579 => ((spec_Put.f kj4 a2 65).bind fun t580 => ((spec_Put.f kj4 (a3 / 16) 68).bind fun t581 => (some (bt577.1 == (Go.bits .or .u32 (Go.bits .or .u32 (Go.bits .or .u32 a0 t579) t580) t581)))))) else (some false))) = some r := by rw [if_neg (show ¬ (false = true) by decide)] at H; exact H
        clear H
        have H := H1
        clear H1
        obtain ⟨y574, hy574⟩ : ∃ y_ : List Int, y_ = (([wrap64 (a0), a1, a2, a3] : List Int)) := ⟨_, rfl⟩
        replace H : ((impl_Encode.f kj4 (⟨#[65, 79, 80, 95, 68, 81]⟩ : ByteArray) y574).bind fun bt577 => (if bt577.2 = true then ((spec_Put.f kj4 a1 73).bind fun t579 => ((spec_Put.f kj4 a2 65).bind fun t580 => ((spec_Put.f kj4 (a3 / 16) 68).bind fun t581 => (some (bt577.1 == (Go.bits .or .u32 (Go.bits .or .u32 (Go.bits .or .u32 a0 t579) t580) t581)))))) else (some false))) = some r := by first | (rw [hy574]; with_reducible exact H) | (have H2_ := (Option.bind_some _ _).symm.trans H; rw [hy574]; with_reducible exact H2_) | (have H2_ := (Option.bind_some _ _).symm.trans H; with_reducible exact H2_) | with_reducible exact H | (rw [hy574]; exact H) | exact H
        have Ny574 := Aside0.mk hy574
        clear hy574
        replace H := Option.bind_eq_some_iff.mp H
        obtain ⟨⟨t577, t578⟩, A120, H⟩ := H
        replace H : (if t578 = true then ((spec_Put.f kj4 a1 73).bind fun t579 => ((spec_Put.f kj4 a2 65).bind fun t580 => ((spec_Put.f kj4 (a3 / 16) 68).bind fun t581 => (some (t577 == (Go.bits .or .u32 (Go.bits .or .u32 (Go.bits .or .u32 a0 t579) t580) t581)))))) else (some false)) = some r := H
        have A12 := Aside0.mk A120
        clear A120
        by_cases c13 : t578 = true
        · subst c13
          have H1 : ((spec_Put.f kj4 a1 73).bind fun t579 => ((spec_Put.f kj4 a2 65).bind fun t580 => ((spec_Put.f kj4 (a3 / 16) 68).bind fun t581 => (some (t577 == (Go.bits .or .u32 (Go.bits .or .u32 (Go.bits .or .u32 a0 t579) t580) t581)))))) = some r := by rw [if_pos rfl] at H; exact H
          clear H
          have H := H1
          clear H1
          replace H := Option.bind_eq_some_iff.mp H
          obtain ⟨t579, A140, H⟩ := H
          replace H : ((spec_Put.f kj4 a2 65).bind fun t580 => ((spec_Put.f kj4 (a3 / 16) 68).bind fun t581 => (some (t577 == (Go.bits .or .u32 (Go.bits .or .u32 (Go.bits .or .u32 a0 t579) t580) t581))))) = some r := H
          have A14 := Aside0.mk A140
          clear A140
          replace H := Option.bind_eq_some_iff.mp H
          obtain ⟨t580, A150, H⟩ := H
          replace H : ((spec_Put.f kj4 (a3 / 16) 68).bind fun t581 => (some (t577 == (Go.bits .or .u32 (Go.bits .or .u32 (Go.bits .or .u32 a0 t579) t580) t581)))) = some r := H
          have A15 := Aside0.mk A150
          clear A150
          replace H := Option.bind_eq_some_iff.mp H
          obtain ⟨t581, A160, H⟩ := H
          replace H : (some (t577 == (Go.bits .or .u32 (Go.bits .or .u32 (Go.bits .or .u32 a0 t579) t580) t581))) = some r := H
          have A16 := Aside0.mk A160
          clear A160
          obtain rfl := Option.some.inj H
          go_wp2_with (first | ((with_reducible refine gate_dst (N := 39) rfl ?_); refine Kd.R_lit (Kd.int .i64) _ 3 ?hg (N := 39) ?hd (xs := ([wrap64 (a0), a1, a2, a3] : List Int)) (inner := [.int .i64 (wrap64 (a0)), .int .i64 a1, .int .i64 a2, .int .i64 a3]) (ok := fun _ => True) (okp := fun _ => True) ?hr ?hp (fun _ hk => hk) trivial (Below.refl _ _) (Nat.le_refl _) (by simp) ?_; (case hd => rfl); (case hg => rfl); (case hr => first | (go_simp; done) | (go_simp; rfl)); (case hp => exact (Reps.one (show Kd.M (Kd.int .i64) _ _ _ (wrap64 (a0)) [.int .i64 (wrap64 (a0))] from rfl) (Reps.one (show Kd.M (Kd.int .i64) _ _ _ a1 [.int .i64 a1] from rfl) (Reps.one (show Kd.M (Kd.int .i64) _ _ _ a2 [.int .i64 a2] from rfl) (Reps.one (show Kd.M (Kd.int .i64) _ _ _ a3 [.int .i64 a3] from rfl) (Reps.none _ _)))))); intro v575 w17 ho18 hb hg_ hnew_; clear hg_ hnew_; (first | rw [← Ny574.out] at ho18 | (simp only [Int.reduceToNat] at ho18; rw [← Ny574.out] at ho18)); have n0_ := Aside0.mk (Kd.R_lower ho18 (below_size (by repeat (first | (with_reducible first | exact HB.out | apply below_alloc | apply pw_below_drewN | apply below_drew1) | exact HB.out)))); have n1_ := Aside0.mk (below_step (by repeat (first | (with_reducible first | exact HB.out | apply below_alloc | apply pw_below_drewN | apply below_drew1) | exact HB.out)) hb); clear HB; have HO576 := n0_; have HB := n1_; clear n0_ n1_; clear hb ho18; obtain ⟨Ao19, co19, eo19⟩ := Kd.R_slice HO576.out; subst eo19) | ((with_reducible refine gate_callee (f := 13) rfl ?_); refine goesL_ (some 40) rfl rfl Try.func13 (by kernel_rfl) rfl #[.string (⟨#[65, 79, 80, 95, 68, 81]⟩ : ByteArray), .slice Ao19 y574.length co19] rfl (by (try simp only [List.map_toArray, List.map_cons, List.map_nil]); first | done | rfl | (simp only [List.length_drop, List.length_take]; rfl)) ?_; (with_reducible refine (impl_Encode.calls kj4 (⟨#[65, 79, 80, 95, 68, 81]⟩ : ByteArray) _ _ y574 t577 true _ ?side1 ?side2 A12.out).mono ?_); (case side1 => repeat (first | exact (Kd.R_reads' HO576.out).2.2 | (with_reducible refine Kd.C_alloc ?_ _) | (with_reducible refine Kd.C_drewN ?_ _) | (with_reducible refine Kd.C_drew ?_))); (case side2 => exact (Kd.R_reads' HO576.out).2.1); rintro e w20 ⟨rfl, hb⟩; refine ⟨_, rfl, ?_⟩; have n0_ := Aside0.mk (Kd.R_below (by (with_reducible repeat (first | apply Kd.R_alloc | apply Kd.R_drewN | apply Kd.R_drew)); exact HO576.out) hb); have n1_ := Aside0.mk (below_step (by repeat (first | (with_reducible first | exact HB.out | apply below_alloc | apply pw_below_drewN | apply below_drew1) | exact HB.out)) hb); clear HO576; clear HB; have HO576 := n0_; have HB := n1_; clear n0_ n1_; (try clear hb); (try clear hb2); (try clear hk); (try clear hi)) | (go_at_call 18; (with_reducible refine (spec_Put.calls kj4 a1 73 t579 _ A14.out).mono ?_); rintro e w' ⟨rfl, ⟨nd, rfl⟩⟩) | (go_at_call 18; (with_reducible refine (spec_Put.calls kj4 a2 65 t580 _ A15.out).mono ?_); rintro e w' ⟨rfl, ⟨nd, rfl⟩⟩) | (go_at_call 18; (with_reducible refine (spec_Put.calls kj4 (a3 / 16) 68 t581 _ A16.out).mono ?_); rintro e w' ⟨rfl, ⟨nd, rfl⟩⟩))
          go_ret
          exact ⟨by first | rfl | (simp [errW_none, errW_some] <;> rfl) | (simp [*, errW_none, errW_some] <;> rfl), by repeat (first | (with_reducible first | exact HB.out | apply below_alloc | apply pw_below_drewN | apply below_drew1) | exact HB.out)⟩
        · replace c13 := Bool.eq_false_iff.mpr c13
          subst c13
          have H1 : (some false) = some r := by rw [if_neg (show ¬ (false = true) by decide)] at H; exact H
          clear H
          have H := H1
          clear H1
          obtain rfl := Option.some.inj H
          go_wp2_with (first | ((with_reducible refine gate_dst (N := 39) rfl ?_); refine Kd.R_lit (Kd.int .i64) _ 3 ?hg (N := 39) ?hd (xs := ([wrap64 (a0), a1, a2, a3] : List Int)) (inner := [.int .i64 (wrap64 (a0)), .int .i64 a1, .int .i64 a2, .int .i64 a3]) (ok := fun _ => True) (okp := fun _ => True) ?hr ?hp (fun _ hk => hk) trivial (Below.refl _ _) (Nat.le_refl _) (by simp) ?_; (case hd => rfl); (case hg => rfl); (case hr => first | (go_simp; done) | (go_simp; rfl)); (case hp => exact (Reps.one (show Kd.M (Kd.int .i64) _ _ _ (wrap64 (a0)) [.int .i64 (wrap64 (a0))] from rfl) (Reps.one (show Kd.M (Kd.int .i64) _ _ _ a1 [.int .i64 a1] from rfl) (Reps.one (show Kd.M (Kd.int .i64) _ _ _ a2 [.int .i64 a2] from rfl) (Reps.one (show Kd.M (Kd.int .i64) _ _ _ a3 [.int .i64 a3] from rfl) (Reps.none _ _)))))); intro v575 w21 ho22 hb hg_ hnew_; clear hg_ hnew_; (first | rw [← Ny574.out] at ho22 | (simp only [Int.reduceToNat] at ho22; rw [← Ny574.out] at ho22)); have n0_ := Aside0.mk (Kd.R_lower ho22 (below_size (by repeat (first | (with_reducible first | exact HB.out | apply below_alloc | apply pw_below_drewN | apply below_drew1) | exact HB.out)))); have n1_ := Aside0.mk (below_step (by repeat (first | (with_reducible first | exact HB.out | apply below_alloc | apply pw_below_drewN | apply below_drew1) | exact HB.out)) hb); clear HB; have HO576 := n0_; have HB := n1_; clear n0_ n1_; clear hb ho22; obtain ⟨Ao23, co23, eo23⟩ := Kd.R_slice HO576.out; subst eo23) | ((with_reducible refine gate_callee (f := 13) rfl ?_); refine goesL_ (some 40) rfl rfl Try.func13 (by kernel_rfl) rfl #[.string (⟨#[65, 79, 80, 95, 68, 81]⟩ : ByteArray), .slice Ao23 y574.length co23] rfl (by (try simp only [List.map_toArray, List.map_cons, List.map_nil]); first | done | rfl | (simp only [List.length_drop, List.length_take]; rfl)) ?_; (with_reducible refine (impl_Encode.calls kj4 (⟨#[65, 79, 80, 95, 68, 81]⟩ : ByteArray) _ _ y574 t577 false _ ?side1 ?side2 A12.out).mono ?_); (case side1 => repeat (first | exact (Kd.R_reads' HO576.out).2.2 | (with_reducible refine Kd.C_alloc ?_ _) | (with_reducible refine Kd.C_drewN ?_ _) | (with_reducible refine Kd.C_drew ?_))); (case side2 => exact (Kd.R_reads' HO576.out).2.1); rintro e w24 ⟨rfl, hb⟩; refine ⟨_, rfl, ?_⟩; have n0_ := Aside0.mk (Kd.R_below (by (with_reducible repeat (first | apply Kd.R_alloc | apply Kd.R_drewN | apply Kd.R_drew)); exact HO576.out) hb); have n1_ := Aside0.mk (below_step (by repeat (first | (with_reducible first | exact HB.out | apply below_alloc | apply pw_below_drewN | apply below_drew1) | exact HB.out)) hb); clear HO576; clear HB; have HO576 := n0_; have HB := n1_; clear n0_ n1_; (try clear hb); (try clear hb2); (try clear hk); (try clear hi)))
          go_ret
          exact ⟨by first | rfl | (simp [errW_none, errW_some] <;> rfl) | (simp [*, errW_none, errW_some] <;> rfl), by repeat (first | (with_reducible first | exact HB.out | apply below_alloc | apply pw_below_drewN | apply below_drew1) | exact HB.out)⟩

/-- THE ONE PURE STATEMENT of laws_FnSixteens: yours. -/
def laws_FnSixteens.Pure : Prop := ∀ (a0 : Int) (a1 : Int) (a2 : Int) (a3 : Int), (Lit.int .u32 a0).wf = true → (Lit.int .i64 a1).wf = true → (Lit.int .i64 a2).wf = true → (Lit.int .i64 a3).wf = true → ∃ k, laws_FnSixteens.f k a0 a1 a2 a3 = some true
theorem laws_FnSixteens.walk (P : laws_FnSixteens.Pure) (a0 : Int) (a1 : Int) (a2 : Int) (a3 : Int) (w : World) (w0 : (Lit.int .u32 a0).wf = true) (w1 : (Lit.int .i64 a1).wf = true) (w2 : (Lit.int .i64 a2).wf = true) (w3 : (Lit.int .i64 a3).wf = true) :
    Calls Try.prog 10 #[.int .u32 a0, .int .i64 a1, .int .i64 a2, .int .i64 a3] w fun e w' => e = .returned (.bool true) ∧ Below w.heap.size w w' := by
  obtain ⟨k, h⟩ := P a0 a1 a2 a3 w0 w1 w2 w3
  refine (laws_FnSixteens.calls k a0 a1 a2 a3 true w h).mono ?_
  rintro e w' ⟨rfl, hd⟩
  exact ⟨rfl, hd⟩

end Go.Proofs.Ytnfkdmoblncclaa.X
