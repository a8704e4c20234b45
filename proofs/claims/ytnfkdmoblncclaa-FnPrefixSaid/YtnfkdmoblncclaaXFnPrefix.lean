/- The walk of the law FnPrefix. -/
import Derived.Test.YtnfkdmoblncclaaXEncode
namespace Go.Proofs.Ytnfkdmoblncclaa.X
open Go.RowKit Go.Proofs.YtnfkdmoblncclaaW.PrintWords Go.Proofs.YtnfkdmoblncclaaW.PrintLast Go.Proofs.YtnfkdmoblncclaaW.PrintMore
attribute [local go_sem] max2_int min2_int max_two min_two max_three min_three max_four min_four   -- for this text's walks alone
set_option linter.unusedVariables false
set_option linter.unusedSimpArgs false

/-! ### laws_FnPrefix: function 9 -/
def laws_FnPrefix.j0 : Nat → Int → Int → Bool → Option (Bool)
  | 0, _, _, _ => none
  | k + 1, x0, x1, x23 => if x23 = true then (some true) else ((impl_Encode.f k (⟨#[65, 79, 80, 95, 80, 70, 88, 95, 48, 48, 95, 56, 76, 83]⟩ : ByteArray) (([x0, x1] : List Int))).bind fun bt585 => ((impl_Encode.f k (⟨#[65, 79, 80, 95, 80, 70, 88, 95, 49, 48, 95, 77, 76, 83]⟩ : ByteArray) (([x0, x1] : List Int))).bind fun bt590 => (if bt585.2 = true then (if bt590.2 = true then (if bt585.1 = (Go.bits .or .u32 67108864 (Go.bits .or .u32 ((((x0) % 4294967296) * 1048576) % 4294967296) ((x1) % 4294967296))) then (some (bt590.1 == (Go.bits .or .u32 100663296 (Go.bits .or .u32 ((((x0) % 4294967296) * 1048576) % 4294967296) ((x1) % 4294967296))))) else (some false)) else (some false)) else (some false))))
def laws_FnPrefix.f (k : Nat) (a0 : Int) (a1 : Int) : Option (Bool) := if a0 < 0 then (laws_FnPrefix.j0 k a0 a1 true) else (if a0 > 1 then (laws_FnPrefix.j0 k a0 a1 true) else (if a1 < 0 then (laws_FnPrefix.j0 k a0 a1 true) else (laws_FnPrefix.j0 k a0 a1 (decide (a1 ≥ 262144)))))
theorem laws_FnPrefix.mono_l : ∀ k, (∀ y0 y1 y2, LeO (laws_FnPrefix.j0 k y0 y1 y2) (laws_FnPrefix.j0 (k + 1) y0 y1 y2))
  | 0 => fun _ _ _ r h => by simp [laws_FnPrefix.j0] at h
  | k + 1 => by
    have ih0 := laws_FnPrefix.mono_l k
    · intro y0 y1 y2
      unfold laws_FnPrefix.j0
      repeat' first
      | (with_reducible exact ih0 _ _ _)
      | (with_reducible exact impl_Encode.mono _ _ _)
      | (with_reducible exact LeO.refl _)
      | (with_reducible exact LeO.none _)
      | (with_reducible refine LeO.ite ?_ ?_)
      | (with_reducible refine LeO.bind ?_ (fun _ => ?_))
      | exact ih0 _ _ _
      | exact impl_Encode.mono _ _ _
      | exact LeO.none _
      | refine LeO.ite ?_ ?_
      | refine LeO.bind ?_ (fun _ => ?_)
theorem laws_FnPrefix.mono : ∀ a0 a1 k, LeO (laws_FnPrefix.f k a0 a1) (laws_FnPrefix.f (k + 1) a0 a1) := by
  intro a0 a1 k
  have ih0 := laws_FnPrefix.mono_l k
  unfold laws_FnPrefix.f
  repeat' first
      | (with_reducible exact ih0 _ _ _)
      | (with_reducible exact impl_Encode.mono _ _ _)
      | (with_reducible exact LeO.refl _)
      | (with_reducible exact LeO.none _)
      | (with_reducible refine LeO.ite ?_ ?_)
      | (with_reducible refine LeO.bind ?_ (fun _ => ?_))
      | exact ih0 _ _ _
      | exact impl_Encode.mono _ _ _
      | exact LeO.none _
      | refine LeO.ite ?_ ?_
      | refine LeO.bind ?_ (fun _ => ?_)
set_option maxHeartbeats 8000000 in
set_option maxRecDepth 100000 in
theorem laws_FnPrefix.calls (k : Nat) (a0 : Int) (a1 : Int) (r : Bool) (w : World) (h : laws_FnPrefix.f k a0 a1 = some r) :
    Calls Try.prog 9 #[.int .i64 a0, .int .i64 a1] w fun e w' => e = .returned (.bool r) ∧ Below w.heap.size w w' := by
  have HB := Aside0.mk (Below.refl w.heap.size w)
  have H : (if a0 < 0 then (laws_FnPrefix.j0 k a0 a1 true) else (if a0 > 1 then (laws_FnPrefix.j0 k a0 a1 true) else (if a1 < 0 then (laws_FnPrefix.j0 k a0 a1 true) else (laws_FnPrefix.j0 k a0 a1 (decide (a1 ≥ 262144)))))) = some r := h
  clear h
  have HC3 := Aside0.mk H
  clear H
  go_enter Try.func9, Try.ntmps9
  go_upto_region 1 with (fail)
  go_cut [23] (fun v23 wc => ∃ (kq : Nat) (x23_2 : Bool), v23 = .bool x23_2 ∧ Aside0 (laws_FnPrefix.j0 kq a0 a1 x23_2 = some r) ∧ Aside0 (kq ≤ k) ∧ Aside0 (Below w.heap.size w wc))
  case first =>
    have H := HC3.out
    clear HC3
    by_cases c4 : a0 < 0
    · rw [if_pos c4] at H
      have c4b0 : decide (a0 < 0) = true := decide_eq_true c4
      clear c4
      (first | rw [c4b0] | (simp only [i64_w, i32_w]; rw [c4b0]) | skip)
      have H' := Aside0.mk H
      clear H
      go_wp2
      go_meet
      case rel => exact ⟨_, (true), (by first | rfl | (simp; done) | (simp [*]; done)), H', ⟨by first | omega | exact Nat.le_refl _⟩, ⟨by repeat (first | (with_reducible first | exact HB.out | apply below_alloc | apply pw_below_drewN | apply below_drew1) | exact HB.out)⟩⟩
    · rw [if_neg c4] at H
      have c4b0 : decide (a0 < 0) = false := decide_eq_false c4
      clear c4
      (first | rw [c4b0] | (simp only [i64_w, i32_w]; rw [c4b0]) | skip)
      by_cases c5 : a0 > 1
      · rw [if_pos c5] at H
        have c5b0 : decide (1 < a0) = true := decide_eq_true c5
        clear c5
        have H' := Aside0.mk H
        clear H
        go_wp2
        go_meet
        case rel => exact ⟨_, (true), (by first | rfl | (simp; done) | (simp [*]; done)), H', ⟨by first | omega | exact Nat.le_refl _⟩, ⟨by repeat (first | (with_reducible first | exact HB.out | apply below_alloc | apply pw_below_drewN | apply below_drew1) | exact HB.out)⟩⟩
      · rw [if_neg c5] at H
        have c5b0 : decide (1 < a0) = false := decide_eq_false c5
        clear c5
        by_cases c6 : a1 < 0
        · rw [if_pos c6] at H
          have c6b0 : decide (a1 < 0) = true := decide_eq_true c6
          clear c6
          have H' := Aside0.mk H
          clear H
          go_wp2
          go_meet
          case rel => exact ⟨_, (true), (by first | rfl | (simp; done) | (simp [*]; done)), H', ⟨by first | omega | exact Nat.le_refl _⟩, ⟨by repeat (first | (with_reducible first | exact HB.out | apply below_alloc | apply pw_below_drewN | apply below_drew1) | exact HB.out)⟩⟩
        · rw [if_neg c6] at H
          have c6b0 : decide (a1 < 0) = false := decide_eq_false c6
          clear c6
          have H' := Aside0.mk H
          clear H
          go_wp2
          go_meet
          case rel => exact ⟨_, (decide (a1 ≥ 262144)), (by first | rfl | (simp; done) | (simp [*]; done)), H', ⟨by first | omega | exact Nat.le_refl _⟩, ⟨by repeat (first | (with_reducible first | exact HB.out | apply below_alloc | apply pw_below_drewN | apply below_drew1) | exact HB.out)⟩⟩
  case rest =>
    clear HC3
    try clear p2
    try clear c4
    try clear c4b0
    try clear c5
    try clear c5b0
    try clear c6
    try clear c6b0
    obtain ⟨kq, x23_2, rfl, HA, HJ2, HB⟩ := hcut
    cases kq with
    | zero => exact absurd HA.out (by simp [laws_FnPrefix.j0])
    | succ kj2 =>
      have H := HA.out
      clear HA
      simp only [laws_FnPrefix.j0] at H
      by_cases c7 : x23_2 = true
      · subst c7
        have H1 : (some true) = some r := by rw [if_pos rfl] at H; exact H
        clear H
        have H := H1
        clear H1
        obtain rfl := Option.some.inj H
        go_wp2
        go_ret
        exact ⟨by first | rfl | (simp [errW_none, errW_some] <;> rfl) | (simp [*, errW_none, errW_some] <;> rfl), by repeat (first | (with_reducible first | exact HB.out | apply below_alloc | apply pw_below_drewN | apply below_drew1) | exact HB.out)⟩
      · replace c7 := Bool.eq_false_iff.mpr c7
        subst c7
        have H1 : ((impl_Encode.f kj2 (⟨#[65, 79, 80, 95, 80, 70, 88, 95, 48, 48, 95, 56, 76, 83]⟩ : ByteArray) (([a0, a1] : List Int))).bind fun bt585 => ((impl_Encode.f kj2 (⟨#[65, 79, 80, 95, 80, 70, 88, 95, 49, 48, 95, 77, 76, 83]⟩ : ByteArray) (([a0, a1] : List Int))).bind fun bt590 => (if bt585.2 = true then (if bt590.2 = true then (if bt585.1 = (Go.bits .or .u32 67108864 (Go.bits .or .u32 ((((a0) % 4294967296) * 1048576) % 4294967296) ((a1) % 4294967296))) then (some (bt590.1 == (Go.bits .or .u32 100663296 (Go.bits .or .u32 ((((a0) % 4294967296) * 1048576) % 4294967296) ((a1) % 4294967296))))) else (some false)) else (some false)) else (some false)))) = some r := by rw [if_neg (show ¬ (false = true) by decide)] at H; exact H
        clear H
        have H := H1
        clear H1
        obtain ⟨y582, hy582⟩ : ∃ y_ : List Int, y_ = (([a0, a1] : List Int)) := ⟨_, rfl⟩
        replace H : ((impl_Encode.f kj2 (⟨#[65, 79, 80, 95, 80, 70, 88, 95, 48, 48, 95, 56, 76, 83]⟩ : ByteArray) y582).bind fun bt585 => ((impl_Encode.f kj2 (⟨#[65, 79, 80, 95, 80, 70, 88, 95, 49, 48, 95, 77, 76, 83]⟩ : ByteArray) (([a0, a1] : List Int))).bind fun bt590 => (if bt585.2 = true then (if bt590.2 = true then (if bt585.1 = (Go.bits .or .u32 67108864 (Go.bits .or .u32 ((((a0) % 4294967296) * 1048576) % 4294967296) ((a1) % 4294967296))) then (some (bt590.1 == (Go.bits .or .u32 100663296 (Go.bits .or .u32 ((((a0) % 4294967296) * 1048576) % 4294967296) ((a1) % 4294967296))))) else (some false)) else (some false)) else (some false)))) = some r := by first | (rw [hy582]; with_reducible exact H) | (have H2_ := (Option.bind_some _ _).symm.trans H; rw [hy582]; with_reducible exact H2_) | (have H2_ := (Option.bind_some _ _).symm.trans H; with_reducible exact H2_) | with_reducible exact H | (rw [hy582]; exact H) | exact H
        have Ny582 := Aside0.mk hy582
        clear hy582
        replace H := Option.bind_eq_some_iff.mp H
        obtain ⟨⟨t585, t586⟩, A80, H⟩ := H
        replace H : ((impl_Encode.f kj2 (⟨#[65, 79, 80, 95, 80, 70, 88, 95, 49, 48, 95, 77, 76, 83]⟩ : ByteArray) (([a0, a1] : List Int))).bind fun bt590 => (if t586 = true then (if bt590.2 = true then (if t585 = (Go.bits .or .u32 67108864 (Go.bits .or .u32 ((((a0) % 4294967296) * 1048576) % 4294967296) ((a1) % 4294967296))) then (some (bt590.1 == (Go.bits .or .u32 100663296 (Go.bits .or .u32 ((((a0) % 4294967296) * 1048576) % 4294967296) ((a1) % 4294967296))))) else (some false)) else (some false)) else (some false))) = some r := H
        have A8 := Aside0.mk A80
        clear A80
        obtain ⟨y587, hy587⟩ : ∃ y_ : List Int, y_ = (([a0, a1] : List Int)) := ⟨_, rfl⟩
        replace H : ((impl_Encode.f kj2 (⟨#[65, 79, 80, 95, 80, 70, 88, 95, 49, 48, 95, 77, 76, 83]⟩ : ByteArray) y587).bind fun bt590 => (if t586 = true then (if bt590.2 = true then (if t585 = (Go.bits .or .u32 67108864 (Go.bits .or .u32 ((((a0) % 4294967296) * 1048576) % 4294967296) ((a1) % 4294967296))) then (some (bt590.1 == (Go.bits .or .u32 100663296 (Go.bits .or .u32 ((((a0) % 4294967296) * 1048576) % 4294967296) ((a1) % 4294967296))))) else (some false)) else (some false)) else (some false))) = some r := by first | (rw [hy587]; with_reducible exact H) | (have H2_ := (Option.bind_some _ _).symm.trans H; rw [hy587]; with_reducible exact H2_) | (have H2_ := (Option.bind_some _ _).symm.trans H; with_reducible exact H2_) | with_reducible exact H | (rw [hy587]; exact H) | exact H
        have Ny587 := Aside0.mk hy587
        clear hy587
        replace H := Option.bind_eq_some_iff.mp H
        obtain ⟨⟨t590, t591⟩, A90, H⟩ := H
        replace H : (if t586 = true then (if t591 = true then (if t585 = (Go.bits .or .u32 67108864 (Go.bits .or .u32 ((((a0) % 4294967296) * 1048576) % 4294967296) ((a1) % 4294967296))) then (some (t590 == (Go.bits .or .u32 100663296 (Go.bits .or .u32 ((((a0) % 4294967296) * 1048576) % 4294967296) ((a1) % 4294967296))))) else (some false)) else (some false)) else (some false)) = some r := H
        have A9 := Aside0.mk A90
        clear A90
        by_cases c10 : t586 = true
        · subst c10
          have H1 : (if t591 = true then (if t585 = (Go.bits .or .u32 67108864 (Go.bits .or .u32 ((((a0) % 4294967296) * 1048576) % 4294967296) ((a1) % 4294967296))) then (some (t590 == (Go.bits .or .u32 100663296 (Go.bits .or .u32 ((((a0) % 4294967296) * 1048576) % 4294967296) ((a1) % 4294967296))))) else (some false)) else (some false)) = some r := by rw [if_pos rfl] at H; exact H
          clear H
          have H := H1
          clear H1
          by_cases c11 : t591 = true
          · subst c11
            have H1 : (if t585 = (Go.bits .or .u32 67108864 (Go.bits .or .u32 ((((a0) % 4294967296) * 1048576) % 4294967296) ((a1) % 4294967296))) then (some (t590 == (Go.bits .or .u32 100663296 (Go.bits .or .u32 ((((a0) % 4294967296) * 1048576) % 4294967296) ((a1) % 4294967296))))) else (some false)) = some r := by rw [if_pos rfl] at H; exact H
            clear H
            have H := H1
            clear H1
            by_cases c12 : t585 = (Go.bits .or .u32 67108864 (Go.bits .or .u32 ((((a0) % 4294967296) * 1048576) % 4294967296) ((a1) % 4294967296)))
            · rw [if_pos c12] at H
              have c12b0 : (t585 == (Go.bits .or .u32 67108864 (Go.bits .or .u32 ((((a0) % 4294967296) * 1048576) % 4294967296) ((a1) % 4294967296)))) = true := beq_iff_eq.mpr c12
              have c12b1 : (t585 != (Go.bits .or .u32 67108864 (Go.bits .or .u32 ((((a0) % 4294967296) * 1048576) % 4294967296) ((a1) % 4294967296)))) = false := bne_eq_false_iff_eq.mpr c12
              clear c12
              obtain rfl := Option.some.inj H
              go_wp2_with (first | ((with_reducible refine gate_dst (N := 27) rfl ?_); refine Kd.R_lit (Kd.int .i64) _ 3 ?hg (N := 27) ?hd (xs := ([a0, a1] : List Int)) (inner := [.int .i64 a0, .int .i64 a1]) (ok := fun _ => True) (okp := fun _ => True) ?hr ?hp (fun _ hk => hk) trivial (Below.refl _ _) (Nat.le_refl _) (by simp) ?_; (case hd => rfl); (case hg => rfl); (case hr => first | (go_simp; done) | (go_simp; rfl)); (case hp => exact (Reps.one (show Kd.M (Kd.int .i64) _ _ _ a0 [.int .i64 a0] from rfl) (Reps.one (show Kd.M (Kd.int .i64) _ _ _ a1 [.int .i64 a1] from rfl) (Reps.none _ _)))); intro v583 w13 ho14 hb hg_ hnew_; clear hg_ hnew_; (first | rw [← Ny582.out] at ho14 | (simp only [Int.reduceToNat] at ho14; rw [← Ny582.out] at ho14)); have n0_ := Aside0.mk (Kd.R_lower ho14 (below_size (by repeat (first | (with_reducible first | exact HB.out | apply below_alloc | apply pw_below_drewN | apply below_drew1) | exact HB.out)))); have n1_ := Aside0.mk (below_step (by repeat (first | (with_reducible first | exact HB.out | apply below_alloc | apply pw_below_drewN | apply below_drew1) | exact HB.out)) hb); clear HB; have HO584 := n0_; have HB := n1_; clear n0_ n1_; clear hb ho14; obtain ⟨Ao15, co15, eo15⟩ := Kd.R_slice HO584.out; subst eo15) | ((with_reducible refine gate_callee (f := 13) rfl ?_); refine goesL_ (some 28) rfl rfl Try.func13 (by kernel_rfl) rfl #[.string (⟨#[65, 79, 80, 95, 80, 70, 88, 95, 48, 48, 95, 56, 76, 83]⟩ : ByteArray), .slice Ao15 y582.length co15] rfl (by (try simp only [List.map_toArray, List.map_cons, List.map_nil]); first | done | rfl | (simp only [List.length_drop, List.length_take]; rfl)) ?_; (with_reducible refine (impl_Encode.calls kj2 (⟨#[65, 79, 80, 95, 80, 70, 88, 95, 48, 48, 95, 56, 76, 83]⟩ : ByteArray) _ _ y582 t585 true _ ?side1 ?side2 A8.out).mono ?_); (case side1 => repeat (first | exact (Kd.R_reads' HO584.out).2.2 | (with_reducible refine Kd.C_alloc ?_ _) | (with_reducible refine Kd.C_drewN ?_ _) | (with_reducible refine Kd.C_drew ?_))); (case side2 => exact (Kd.R_reads' HO584.out).2.1); rintro e w16 ⟨rfl, hb⟩; refine ⟨_, rfl, ?_⟩; have n0_ := Aside0.mk (Kd.R_below (by (with_reducible repeat (first | apply Kd.R_alloc | apply Kd.R_drewN | apply Kd.R_drew)); exact HO584.out) hb); have n1_ := Aside0.mk (below_step (by repeat (first | (with_reducible first | exact HB.out | apply below_alloc | apply pw_below_drewN | apply below_drew1) | exact HB.out)) hb); clear HO584; clear HB; have HO584 := n0_; have HB := n1_; clear n0_ n1_; (try clear hb); (try clear hb2); (try clear hk); (try clear hi)) | ((with_reducible refine gate_dst (N := 34) rfl ?_); refine Kd.R_lit (Kd.int .i64) _ 3 ?hg (N := 34) ?hd (xs := ([a0, a1] : List Int)) (inner := [.int .i64 a0, .int .i64 a1]) (ok := fun _ => True) (okp := fun _ => True) ?hr ?hp (fun _ hk => hk) trivial (Below.refl _ _) (Nat.le_refl _) (by simp) ?_; (case hd => rfl); (case hg => rfl); (case hr => first | (go_simp; done) | (go_simp; rfl)); (case hp => exact (Reps.one (show Kd.M (Kd.int .i64) _ _ _ a0 [.int .i64 a0] from rfl) (Reps.one (show Kd.M (Kd.int .i64) _ _ _ a1 [.int .i64 a1] from rfl) (Reps.none _ _)))); intro v588 w17 ho18 hb hg_ hnew_; clear hg_ hnew_; (first | rw [← Ny587.out] at ho18 | (simp only [Int.reduceToNat] at ho18; rw [← Ny587.out] at ho18)); have n0_ := Aside0.mk (Kd.R_elder' (by (with_reducible repeat (first | apply Kd.R_alloc | apply Kd.R_drewN | apply Kd.R_drew)); exact HO584.out) (Kd.R_base ho18) hb); have n1_ := Aside0.mk (Kd.R_lower (Kd.R_new' ho18 (Kd.R_lt (by (with_reducible repeat (first | apply Kd.R_alloc | apply Kd.R_drewN | apply Kd.R_drew)); exact HO584.out))) (below_size (by repeat (first | (with_reducible first | exact HB.out | apply below_alloc | apply pw_below_drewN | apply below_drew1) | exact HB.out)))); have n2_ := Aside0.mk (below_step (by repeat (first | (with_reducible first | exact HB.out | apply below_alloc | apply pw_below_drewN | apply below_drew1) | exact HB.out)) hb); clear HO584; clear HB; have HO584 := n0_; have HO589 := n1_; have HB := n2_; clear n0_ n1_ n2_; clear hb ho18; obtain ⟨Ao19, co19, eo19⟩ := Kd.R_slice HO589.out; subst eo19) | ((with_reducible refine gate_callee (f := 13) rfl ?_); refine goesL_ (some 35) rfl rfl Try.func13 (by kernel_rfl) rfl #[.string (⟨#[65, 79, 80, 95, 80, 70, 88, 95, 49, 48, 95, 77, 76, 83]⟩ : ByteArray), .slice Ao19 y587.length co19] rfl (by (try simp only [List.map_toArray, List.map_cons, List.map_nil]); first | done | rfl | (simp only [List.length_drop, List.length_take]; rfl)) ?_; (with_reducible refine (impl_Encode.calls kj2 (⟨#[65, 79, 80, 95, 80, 70, 88, 95, 49, 48, 95, 77, 76, 83]⟩ : ByteArray) _ _ y587 t590 true _ ?side1 ?side2 A9.out).mono ?_); (case side1 => repeat (first | exact (Kd.R_reads' HO589.out).2.2 | (with_reducible refine Kd.C_alloc ?_ _) | (with_reducible refine Kd.C_drewN ?_ _) | (with_reducible refine Kd.C_drew ?_))); (case side2 => exact (Kd.R_reads' HO589.out).2.1); rintro e w20 ⟨rfl, hb⟩; refine ⟨_, rfl, ?_⟩; have n0_ := Aside0.mk (Kd.R_below (by (with_reducible repeat (first | apply Kd.R_alloc | apply Kd.R_drewN | apply Kd.R_drew)); exact HO584.out) hb); have n1_ := Aside0.mk (Kd.R_below (by (with_reducible repeat (first | apply Kd.R_alloc | apply Kd.R_drewN | apply Kd.R_drew)); exact HO589.out) hb); have n2_ := Aside0.mk (below_step (by repeat (first | (with_reducible first | exact HB.out | apply below_alloc | apply pw_below_drewN | apply below_drew1) | exact HB.out)) hb); clear HO584; clear HO589; clear HB; have HO584 := n0_; have HO589 := n1_; have HB := n2_; clear n0_ n1_ n2_; (try clear hb); (try clear hb2); (try clear hk); (try clear hi)))
              go_ret
              exact ⟨by first | rfl | (simp [errW_none, errW_some] <;> rfl) | (simp [*, errW_none, errW_some] <;> rfl), by repeat (first | (with_reducible first | exact HB.out | apply below_alloc | apply pw_below_drewN | apply below_drew1) | exact HB.out)⟩
            · rw [if_neg c12] at H
              have c12b0 : (t585 == (Go.bits .or .u32 67108864 (Go.bits .or .u32 ((((a0) % 4294967296) * 1048576) % 4294967296) ((a1) % 4294967296)))) = false := beq_eq_false_iff_ne.mpr c12
              have c12b1 : (t585 != (Go.bits .or .u32 67108864 (Go.bits .or .u32 ((((a0) % 4294967296) * 1048576) % 4294967296) ((a1) % 4294967296)))) = true := bne_iff_ne.mpr c12
              obtain rfl := Option.some.inj H
              go_wp2_with (first | ((with_reducible refine gate_dst (N := 27) rfl ?_); refine Kd.R_lit (Kd.int .i64) _ 3 ?hg (N := 27) ?hd (xs := ([a0, a1] : List Int)) (inner := [.int .i64 a0, .int .i64 a1]) (ok := fun _ => True) (okp := fun _ => True) ?hr ?hp (fun _ hk => hk) trivial (Below.refl _ _) (Nat.le_refl _) (by simp) ?_; (case hd => rfl); (case hg => rfl); (case hr => first | (go_simp; done) | (go_simp; rfl)); (case hp => exact (Reps.one (show Kd.M (Kd.int .i64) _ _ _ a0 [.int .i64 a0] from rfl) (Reps.one (show Kd.M (Kd.int .i64) _ _ _ a1 [.int .i64 a1] from rfl) (Reps.none _ _)))); intro v583 w21 ho22 hb hg_ hnew_; clear hg_ hnew_; (first | rw [← Ny582.out] at ho22 | (simp only [Int.reduceToNat] at ho22; rw [← Ny582.out] at ho22)); have n0_ := Aside0.mk (Kd.R_lower ho22 (below_size (by repeat (first | (with_reducible first | exact HB.out | apply below_alloc | apply pw_below_drewN | apply below_drew1) | exact HB.out)))); have n1_ := Aside0.mk (below_step (by repeat (first | (with_reducible first | exact HB.out | apply below_alloc | apply pw_below_drewN | apply below_drew1) | exact HB.out)) hb); clear HB; have HO584 := n0_; have HB := n1_; clear n0_ n1_; clear hb ho22; obtain ⟨Ao23, co23, eo23⟩ := Kd.R_slice HO584.out; subst eo23) | ((with_reducible refine gate_callee (f := 13) rfl ?_); refine goesL_ (some 28) rfl rfl Try.func13 (by kernel_rfl) rfl #[.string (⟨#[65, 79, 80, 95, 80, 70, 88, 95, 48, 48, 95, 56, 76, 83]⟩ : ByteArray), .slice Ao23 y582.length co23] rfl (by (try simp only [List.map_toArray, List.map_cons, List.map_nil]); first | done | rfl | (simp only [List.length_drop, List.length_take]; rfl)) ?_; (with_reducible refine (impl_Encode.calls kj2 (⟨#[65, 79, 80, 95, 80, 70, 88, 95, 48, 48, 95, 56, 76, 83]⟩ : ByteArray) _ _ y582 t585 true _ ?side1 ?side2 A8.out).mono ?_); (case side1 => repeat (first | exact (Kd.R_reads' HO584.out).2.2 | (with_reducible refine Kd.C_alloc ?_ _) | (with_reducible refine Kd.C_drewN ?_ _) | (with_reducible refine Kd.C_drew ?_))); (case side2 => exact (Kd.R_reads' HO584.out).2.1); rintro e w24 ⟨rfl, hb⟩; refine ⟨_, rfl, ?_⟩; have n0_ := Aside0.mk (Kd.R_below (by (with_reducible repeat (first | apply Kd.R_alloc | apply Kd.R_drewN | apply Kd.R_drew)); exact HO584.out) hb); have n1_ := Aside0.mk (below_step (by repeat (first | (with_reducible first | exact HB.out | apply below_alloc | apply pw_below_drewN | apply below_drew1) | exact HB.out)) hb); clear HO584; clear HB; have HO584 := n0_; have HB := n1_; clear n0_ n1_; (try clear hb); (try clear hb2); (try clear hk); (try clear hi)) | ((with_reducible refine gate_dst (N := 34) rfl ?_); refine Kd.R_lit (Kd.int .i64) _ 3 ?hg (N := 34) ?hd (xs := ([a0, a1] : List Int)) (inner := [.int .i64 a0, .int .i64 a1]) (ok := fun _ => True) (okp := fun _ => True) ?hr ?hp (fun _ hk => hk) trivial (Below.refl _ _) (Nat.le_refl _) (by simp) ?_; (case hd => rfl); (case hg => rfl); (case hr => first | (go_simp; done) | (go_simp; rfl)); (case hp => exact (Reps.one (show Kd.M (Kd.int .i64) _ _ _ a0 [.int .i64 a0] from rfl) (Reps.one (show Kd.M (Kd.int .i64) _ _ _ a1 [.int .i64 a1] from rfl) (Reps.none _ _)))); intro v588 w25 ho26 hb hg_ hnew_; clear hg_ hnew_; (first | rw [← Ny587.out] at ho26 | (simp only [Int.reduceToNat] at ho26; rw [← Ny587.out] at ho26)); have n0_ := Aside0.mk (Kd.R_elder' (by (with_reducible repeat (first | apply Kd.R_alloc | apply Kd.R_drewN | apply Kd.R_drew)); exact HO584.out) (Kd.R_base ho26) hb); have n1_ := Aside0.mk (Kd.R_lower (Kd.R_new' ho26 (Kd.R_lt (by (with_reducible repeat (first | apply Kd.R_alloc | apply Kd.R_drewN | apply Kd.R_drew)); exact HO584.out))) (below_size (by repeat (first | (with_reducible first | exact HB.out | apply below_alloc | apply pw_below_drewN | apply below_drew1) | exact HB.out)))); have n2_ := Aside0.mk (below_step (by repeat (first | (with_reducible first | exact HB.out | apply below_alloc | apply pw_below_drewN | apply below_drew1) | exact HB.out)) hb); clear HO584; clear HB; have HO584 := n0_; have HO589 := n1_; have HB := n2_; clear n0_ n1_ n2_; clear hb ho26; obtain ⟨Ao27, co27, eo27⟩ := Kd.R_slice HO589.out; subst eo27) | ((with_reducible refine gate_callee (f := 13) rfl ?_); refine goesL_ (some 35) rfl rfl Try.func13 (by kernel_rfl) rfl #[.string (⟨#[65, 79, 80, 95, 80, 70, 88, 95, 49, 48, 95, 77, 76, 83]⟩ : ByteArray), .slice Ao27 y587.length co27] rfl (by (try simp only [List.map_toArray, List.map_cons, List.map_nil]); first | done | rfl | (simp only [List.length_drop, List.length_take]; rfl)) ?_; (with_reducible refine (impl_Encode.calls kj2 (⟨#[65, 79, 80, 95, 80, 70, 88, 95, 49, 48, 95, 77, 76, 83]⟩ : ByteArray) _ _ y587 t590 true _ ?side1 ?side2 A9.out).mono ?_); (case side1 => repeat (first | exact (Kd.R_reads' HO589.out).2.2 | (with_reducible refine Kd.C_alloc ?_ _) | (with_reducible refine Kd.C_drewN ?_ _) | (with_reducible refine Kd.C_drew ?_))); (case side2 => exact (Kd.R_reads' HO589.out).2.1); rintro e w28 ⟨rfl, hb⟩; refine ⟨_, rfl, ?_⟩; have n0_ := Aside0.mk (Kd.R_below (by (with_reducible repeat (first | apply Kd.R_alloc | apply Kd.R_drewN | apply Kd.R_drew)); exact HO584.out) hb); have n1_ := Aside0.mk (Kd.R_below (by (with_reducible repeat (first | apply Kd.R_alloc | apply Kd.R_drewN | apply Kd.R_drew)); exact HO589.out) hb); have n2_ := Aside0.mk (below_step (by repeat (first | (with_reducible first | exact HB.out | apply below_alloc | apply pw_below_drewN | apply below_drew1) | exact HB.out)) hb); clear HO584; clear HO589; clear HB; have HO584 := n0_; have HO589 := n1_; have HB := n2_; clear n0_ n1_ n2_; (try clear hb); (try clear hb2); (try clear hk); (try clear hi)))
              go_ret
              exact ⟨by first | rfl | (simp [errW_none, errW_some] <;> rfl) | (simp [*, errW_none, errW_some] <;> rfl), by repeat (first | (with_reducible first | exact HB.out | apply below_alloc | apply pw_below_drewN | apply below_drew1) | exact HB.out)⟩
          · replace c11 := Bool.eq_false_iff.mpr c11
            subst c11
            have H1 : (some false) = some r := by rw [if_neg (show ¬ (false = true) by decide)] at H; exact H
            clear H
            have H := H1
            clear H1
            obtain rfl := Option.some.inj H
            go_wp2_with (first | ((with_reducible refine gate_dst (N := 27) rfl ?_); refine Kd.R_lit (Kd.int .i64) _ 3 ?hg (N := 27) ?hd (xs := ([a0, a1] : List Int)) (inner := [.int .i64 a0, .int .i64 a1]) (ok := fun _ => True) (okp := fun _ => True) ?hr ?hp (fun _ hk => hk) trivial (Below.refl _ _) (Nat.le_refl _) (by simp) ?_; (case hd => rfl); (case hg => rfl); (case hr => first | (go_simp; done) | (go_simp; rfl)); (case hp => exact (Reps.one (show Kd.M (Kd.int .i64) _ _ _ a0 [.int .i64 a0] from rfl) (Reps.one (show Kd.M (Kd.int .i64) _ _ _ a1 [.int .i64 a1] from rfl) (Reps.none _ _)))); intro v583 w29 ho30 hb hg_ hnew_; clear hg_ hnew_; (first | rw [← Ny582.out] at ho30 | (simp only [Int.reduceToNat] at ho30; rw [← Ny582.out] at ho30)); have n0_ := Aside0.mk (Kd.R_lower ho30 (below_size (by repeat (first | (with_reducible first | exact HB.out | apply below_alloc | apply pw_below_drewN | apply below_drew1) | exact HB.out)))); have n1_ := Aside0.mk (below_step (by repeat (first | (with_reducible first | exact HB.out | apply below_alloc | apply pw_below_drewN | apply below_drew1) | exact HB.out)) hb); clear HB; have HO584 := n0_; have HB := n1_; clear n0_ n1_; clear hb ho30; obtain ⟨Ao31, co31, eo31⟩ := Kd.R_slice HO584.out; subst eo31) | ((with_reducible refine gate_callee (f := 13) rfl ?_); refine goesL_ (some 28) rfl rfl Try.func13 (by kernel_rfl) rfl #[.string (⟨#[65, 79, 80, 95, 80, 70, 88, 95, 48, 48, 95, 56, 76, 83]⟩ : ByteArray), .slice Ao31 y582.length co31] rfl (by (try simp only [List.map_toArray, List.map_cons, List.map_nil]); first | done | rfl | (simp only [List.length_drop, List.length_take]; rfl)) ?_; (with_reducible refine (impl_Encode.calls kj2 (⟨#[65, 79, 80, 95, 80, 70, 88, 95, 48, 48, 95, 56, 76, 83]⟩ : ByteArray) _ _ y582 t585 true _ ?side1 ?side2 A8.out).mono ?_); (case side1 => repeat (first | exact (Kd.R_reads' HO584.out).2.2 | (with_reducible refine Kd.C_alloc ?_ _) | (with_reducible refine Kd.C_drewN ?_ _) | (with_reducible refine Kd.C_drew ?_))); (case side2 => exact (Kd.R_reads' HO584.out).2.1); rintro e w32 ⟨rfl, hb⟩; refine ⟨_, rfl, ?_⟩; have n0_ := Aside0.mk (Kd.R_below (by (with_reducible repeat (first | apply Kd.R_alloc | apply Kd.R_drewN | apply Kd.R_drew)); exact HO584.out) hb); have n1_ := Aside0.mk (below_step (by repeat (first | (with_reducible first | exact HB.out | apply below_alloc | apply pw_below_drewN | apply below_drew1) | exact HB.out)) hb); clear HO584; clear HB; have HO584 := n0_; have HB := n1_; clear n0_ n1_; (try clear hb); (try clear hb2); (try clear hk); (try clear hi)) | ((with_reducible refine gate_dst (N := 34) rfl ?_); refine Kd.R_lit (Kd.int .i64) _ 3 ?hg (N := 34) ?hd (xs := ([a0, a1] : List Int)) (inner := [.int .i64 a0, .int .i64 a1]) (ok := fun _ => True) (okp := fun _ => True) ?hr ?hp (fun _ hk => hk) trivial (Below.refl _ _) (Nat.le_refl _) (by simp) ?_; (case hd => rfl); (case hg => rfl); (case hr => first | (go_simp; done) | (go_simp; rfl)); (case hp => exact (Reps.one (show Kd.M (Kd.int .i64) _ _ _ a0 [.int .i64 a0] from rfl) (Reps.one (show Kd.M (Kd.int .i64) _ _ _ a1 [.int .i64 a1] from rfl) (Reps.none _ _)))); intro v588 w33 ho34 hb hg_ hnew_; clear hg_ hnew_; (first | rw [← Ny587.out] at ho34 | (simp only [Int.reduceToNat] at ho34; rw [← Ny587.out] at ho34)); have n0_ := Aside0.mk (Kd.R_elder' (by (with_reducible repeat (first | apply Kd.R_alloc | apply Kd.R_drewN | apply Kd.R_drew)); exact HO584.out) (Kd.R_base ho34) hb); have n1_ := Aside0.mk (Kd.R_lower (Kd.R_new' ho34 (Kd.R_lt (by (with_reducible repeat (first | apply Kd.R_alloc | apply Kd.R_drewN | apply Kd.R_drew)); exact HO584.out))) (below_size (by repeat (first | (with_reducible first | exact HB.out | apply below_alloc | apply pw_below_drewN | apply below_drew1) | exact HB.out)))); have n2_ := Aside0.mk (below_step (by repeat (first | (with_reducible first | exact HB.out | apply below_alloc | apply pw_below_drewN | apply below_drew1) | exact HB.out)) hb); clear HO584; clear HB; have HO584 := n0_; have HO589 := n1_; have HB := n2_; clear n0_ n1_ n2_; clear hb ho34; obtain ⟨Ao35, co35, eo35⟩ := Kd.R_slice HO589.out; subst eo35) | ((with_reducible refine gate_callee (f := 13) rfl ?_); refine goesL_ (some 35) rfl rfl Try.func13 (by kernel_rfl) rfl #[.string (⟨#[65, 79, 80, 95, 80, 70, 88, 95, 49, 48, 95, 77, 76, 83]⟩ : ByteArray), .slice Ao35 y587.length co35] rfl (by (try simp only [List.map_toArray, List.map_cons, List.map_nil]); first | done | rfl | (simp only [List.length_drop, List.length_take]; rfl)) ?_; (with_reducible refine (impl_Encode.calls kj2 (⟨#[65, 79, 80, 95, 80, 70, 88, 95, 49, 48, 95, 77, 76, 83]⟩ : ByteArray) _ _ y587 t590 false _ ?side1 ?side2 A9.out).mono ?_); (case side1 => repeat (first | exact (Kd.R_reads' HO589.out).2.2 | (with_reducible refine Kd.C_alloc ?_ _) | (with_reducible refine Kd.C_drewN ?_ _) | (with_reducible refine Kd.C_drew ?_))); (case side2 => exact (Kd.R_reads' HO589.out).2.1); rintro e w36 ⟨rfl, hb⟩; refine ⟨_, rfl, ?_⟩; have n0_ := Aside0.mk (Kd.R_below (by (with_reducible repeat (first | apply Kd.R_alloc | apply Kd.R_drewN | apply Kd.R_drew)); exact HO584.out) hb); have n1_ := Aside0.mk (Kd.R_below (by (with_reducible repeat (first | apply Kd.R_alloc | apply Kd.R_drewN | apply Kd.R_drew)); exact HO589.out) hb); have n2_ := Aside0.mk (below_step (by repeat (first | (with_reducible first | exact HB.out | apply below_alloc | apply pw_below_drewN | apply below_drew1) | exact HB.out)) hb); clear HO584; clear HO589; clear HB; have HO584 := n0_; have HO589 := n1_; have HB := n2_; clear n0_ n1_ n2_; (try clear hb); (try clear hb2); (try clear hk); (try clear hi)))
            go_ret
            exact ⟨by first | rfl | (simp [errW_none, errW_some] <;> rfl) | (simp [*, errW_none, errW_some] <;> rfl), by repeat (first | (with_reducible first | exact HB.out | apply below_alloc | apply pw_below_drewN | apply below_drew1) | exact HB.out)⟩
        · replace c10 := Bool.eq_false_iff.mpr c10
          subst c10
          have H1 : (some false) = some r := by rw [if_neg (show ¬ (false = true) by decide)] at H; exact H
          clear H
          have H := H1
          clear H1
          obtain rfl := Option.some.inj H
          go_wp2_with (first | ((with_reducible refine gate_dst (N := 27) rfl ?_); refine Kd.R_lit (Kd.int .i64) _ 3 ?hg (N := 27) ?hd (xs := ([a0, a1] : List Int)) (inner := [.int .i64 a0, .int .i64 a1]) (ok := fun _ => True) (okp := fun _ => True) ?hr ?hp (fun _ hk => hk) trivial (Below.refl _ _) (Nat.le_refl _) (by simp) ?_; (case hd => rfl); (case hg => rfl); (case hr => first | (go_simp; done) | (go_simp; rfl)); (case hp => exact (Reps.one (show Kd.M (Kd.int .i64) _ _ _ a0 [.int .i64 a0] from rfl) (Reps.one (show Kd.M (Kd.int .i64) _ _ _ a1 [.int .i64 a1] from rfl) (Reps.none _ _)))); intro v583 w37 ho38 hb hg_ hnew_; clear hg_ hnew_; (first | rw [← Ny582.out] at ho38 | (simp only [Int.reduceToNat] at ho38; rw [← Ny582.out] at ho38)); have n0_ := Aside0.mk (Kd.R_lower ho38 (below_size (by repeat (first | (with_reducible first | exact HB.out | apply below_alloc | apply pw_below_drewN | apply below_drew1) | exact HB.out)))); have n1_ := Aside0.mk (below_step (by repeat (first | (with_reducible first | exact HB.out | apply below_alloc | apply pw_below_drewN | apply below_drew1) | exact HB.out)) hb); clear HB; have HO584 := n0_; have HB := n1_; clear n0_ n1_; clear hb ho38; obtain ⟨Ao39, co39, eo39⟩ := Kd.R_slice HO584.out; subst eo39) | ((with_reducible refine gate_callee (f := 13) rfl ?_); refine goesL_ (some 28) rfl rfl Try.func13 (by kernel_rfl) rfl #[.string (⟨#[65, 79, 80, 95, 80, 70, 88, 95, 48, 48, 95, 56, 76, 83]⟩ : ByteArray), .slice Ao39 y582.length co39] rfl (by (try simp only [List.map_toArray, List.map_cons, List.map_nil]); first | done | rfl | (simp only [List.length_drop, List.length_take]; rfl)) ?_; (with_reducible refine (impl_Encode.calls kj2 (⟨#[65, 79, 80, 95, 80, 70, 88, 95, 48, 48, 95, 56, 76, 83]⟩ : ByteArray) _ _ y582 t585 false _ ?side1 ?side2 A8.out).mono ?_); (case side1 => repeat (first | exact (Kd.R_reads' HO584.out).2.2 | (with_reducible refine Kd.C_alloc ?_ _) | (with_reducible refine Kd.C_drewN ?_ _) | (with_reducible refine Kd.C_drew ?_))); (case side2 => exact (Kd.R_reads' HO584.out).2.1); rintro e w40 ⟨rfl, hb⟩; refine ⟨_, rfl, ?_⟩; have n0_ := Aside0.mk (Kd.R_below (by (with_reducible repeat (first | apply Kd.R_alloc | apply Kd.R_drewN | apply Kd.R_drew)); exact HO584.out) hb); have n1_ := Aside0.mk (below_step (by repeat (first | (with_reducible first | exact HB.out | apply below_alloc | apply pw_below_drewN | apply below_drew1) | exact HB.out)) hb); clear HO584; clear HB; have HO584 := n0_; have HB := n1_; clear n0_ n1_; (try clear hb); (try clear hb2); (try clear hk); (try clear hi)) | ((with_reducible refine gate_dst (N := 34) rfl ?_); refine Kd.R_lit (Kd.int .i64) _ 3 ?hg (N := 34) ?hd (xs := ([a0, a1] : List Int)) (inner := [.int .i64 a0, .int .i64 a1]) (ok := fun _ => True) (okp := fun _ => True) ?hr ?hp (fun _ hk => hk) trivial (Below.refl _ _) (Nat.le_refl _) (by simp) ?_; (case hd => rfl); (case hg => rfl); (case hr => first | (go_simp; done) | (go_simp; rfl)); (case hp => exact (Reps.one (show Kd.M (Kd.int .i64) _ _ _ a0 [.int .i64 a0] from rfl) (Reps.one (show Kd.M (Kd.int .i64) _ _ _ a1 [.int .i64 a1] from rfl) (Reps.none _ _)))); intro v588 w41 ho42 hb hg_ hnew_; clear hg_ hnew_; (first | rw [← Ny587.out] at ho42 | (simp only [Int.reduceToNat] at ho42; rw [← Ny587.out] at ho42)); have n0_ := Aside0.mk (Kd.R_elder' (by (with_reducible repeat (first | apply Kd.R_alloc | apply Kd.R_drewN | apply Kd.R_drew)); exact HO584.out) (Kd.R_base ho42) hb); have n1_ := Aside0.mk (Kd.R_lower (Kd.R_new' ho42 (Kd.R_lt (by (with_reducible repeat (first | apply Kd.R_alloc | apply Kd.R_drewN | apply Kd.R_drew)); exact HO584.out))) (below_size (by repeat (first | (with_reducible first | exact HB.out | apply below_alloc | apply pw_below_drewN | apply below_drew1) | exact HB.out)))); have n2_ := Aside0.mk (below_step (by repeat (first | (with_reducible first | exact HB.out | apply below_alloc | apply pw_below_drewN | apply below_drew1) | exact HB.out)) hb); clear HO584; clear HB; have HO584 := n0_; have HO589 := n1_; have HB := n2_; clear n0_ n1_ n2_; clear hb ho42; obtain ⟨Ao43, co43, eo43⟩ := Kd.R_slice HO589.out; subst eo43) | ((with_reducible refine gate_callee (f := 13) rfl ?_); refine goesL_ (some 35) rfl rfl Try.func13 (by kernel_rfl) rfl #[.string (⟨#[65, 79, 80, 95, 80, 70, 88, 95, 49, 48, 95, 77, 76, 83]⟩ : ByteArray), .slice Ao43 y587.length co43] rfl (by (try simp only [List.map_toArray, List.map_cons, List.map_nil]); first | done | rfl | (simp only [List.length_drop, List.length_take]; rfl)) ?_; (with_reducible refine (impl_Encode.calls kj2 (⟨#[65, 79, 80, 95, 80, 70, 88, 95, 49, 48, 95, 77, 76, 83]⟩ : ByteArray) _ _ y587 t590 t591 _ ?side1 ?side2 A9.out).mono ?_); (case side1 => repeat (first | exact (Kd.R_reads' HO589.out).2.2 | (with_reducible refine Kd.C_alloc ?_ _) | (with_reducible refine Kd.C_drewN ?_ _) | (with_reducible refine Kd.C_drew ?_))); (case side2 => exact (Kd.R_reads' HO589.out).2.1); rintro e w44 ⟨rfl, hb⟩; refine ⟨_, rfl, ?_⟩; have n0_ := Aside0.mk (Kd.R_below (by (with_reducible repeat (first | apply Kd.R_alloc | apply Kd.R_drewN | apply Kd.R_drew)); exact HO584.out) hb); have n1_ := Aside0.mk (Kd.R_below (by (with_reducible repeat (first | apply Kd.R_alloc | apply Kd.R_drewN | apply Kd.R_drew)); exact HO589.out) hb); have n2_ := Aside0.mk (below_step (by repeat (first | (with_reducible first | exact HB.out | apply below_alloc | apply pw_below_drewN | apply below_drew1) | exact HB.out)) hb); clear HO584; clear HO589; clear HB; have HO584 := n0_; have HO589 := n1_; have HB := n2_; clear n0_ n1_ n2_; (try clear hb); (try clear hb2); (try clear hk); (try clear hi)))
          go_ret
          exact ⟨by first | rfl | (simp [errW_none, errW_some] <;> rfl) | (simp [*, errW_none, errW_some] <;> rfl), by repeat (first | (with_reducible first | exact HB.out | apply below_alloc | apply pw_below_drewN | apply below_drew1) | exact HB.out)⟩

/-- THE ONE PURE STATEMENT of laws_FnPrefix: yours. -/
def laws_FnPrefix.Pure : Prop := ∀ (a0 : Int) (a1 : Int), (Lit.int .i64 a0).wf = true → (Lit.int .i64 a1).wf = true → ∃ k, laws_FnPrefix.f k a0 a1 = some true
theorem laws_FnPrefix.walk (P : laws_FnPrefix.Pure) (a0 : Int) (a1 : Int) (w : World) (w0 : (Lit.int .i64 a0).wf = true) (w1 : (Lit.int .i64 a1).wf = true) :
    Calls Try.prog 9 #[.int .i64 a0, .int .i64 a1] w fun e w' => e = .returned (.bool true) ∧ Below w.heap.size w w' := by
  obtain ⟨k, h⟩ := P a0 a1 w0 w1
  refine (laws_FnPrefix.calls k a0 a1 true w h).mono ?_
  rintro e w' ⟨rfl, hd⟩
  exact ⟨rfl, hd⟩

end Go.Proofs.Ytnfkdmoblncclaa.X
