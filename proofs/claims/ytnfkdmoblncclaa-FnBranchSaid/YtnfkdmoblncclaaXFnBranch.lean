/- The walk of the law FnBranch. -/
import Derived.Test.YtnfkdmoblncclaaXEncode
namespace Go.Proofs.Ytnfkdmoblncclaa.X
open Go.RowKit Go.Proofs.YtnfkdmoblncclaaW.PrintWords Go.Proofs.YtnfkdmoblncclaaW.PrintLast Go.Proofs.YtnfkdmoblncclaaW.PrintMore
attribute [local go_sem] max2_int min2_int max_two min_two max_three min_three max_four min_four   -- for this text's walks alone
set_option linter.unusedVariables false
set_option linter.unusedSimpArgs false

/-! ### laws_FnBranch: function 4 -/
def laws_FnBranch.f (k : Nat) (a0 : Int) (a1 : Int) (a2 : Int) : Option (Bool) := if a1 < 0 then (some true) else (if a1 ≥ 67108864 then (some true) else (if a2 < 0 then (some true) else (if a2 > 1 then (some true) else ((impl_Encode.f k (⟨#[79, 80, 95, 66, 82]⟩ : ByteArray) (([wrap64 (a0), a1, a2] : List Int))).bind fun bt564 => (if bt564.2 = true then (some (bt564.1 == (Go.bits .or .u32 (Go.bits .or .u32 a0 (Go.bits .and .u32 ((a1) % 4294967296) 67108860)) ((((a2) % 4294967296) * 2) % 4294967296)))) else (some false))))))
theorem laws_FnBranch.mono : ∀ a0 a1 a2 k, LeO (laws_FnBranch.f k a0 a1 a2) (laws_FnBranch.f (k + 1) a0 a1 a2) := by
  intro a0 a1 a2 k
  unfold laws_FnBranch.f
  repeat' first
      | (with_reducible exact impl_Encode.mono _ _ _)
      | (with_reducible exact LeO.refl _)
      | (with_reducible exact LeO.none _)
      | (with_reducible refine LeO.ite ?_ ?_)
      | (with_reducible refine LeO.bind ?_ (fun _ => ?_))
      | exact impl_Encode.mono _ _ _
      | exact LeO.none _
      | refine LeO.ite ?_ ?_
      | refine LeO.bind ?_ (fun _ => ?_)
set_option maxHeartbeats 8000000 in
set_option maxRecDepth 100000 in
theorem laws_FnBranch.calls (k : Nat) (a0 : Int) (a1 : Int) (a2 : Int) (r : Bool) (w : World) (h : laws_FnBranch.f k a0 a1 a2 = some r) :
    Calls Try.prog 4 #[.int .u32 a0, .int .i64 a1, .int .i64 a2] w fun e w' => e = .returned (.bool r) ∧ Below w.heap.size w w' := by
  have HB := Aside0.mk (Below.refl w.heap.size w)
  have H : (if a1 < 0 then (some true) else (if a1 ≥ 67108864 then (some true) else (if a2 < 0 then (some true) else (if a2 > 1 then (some true) else ((impl_Encode.f k (⟨#[79, 80, 95, 66, 82]⟩ : ByteArray) (([wrap64 (a0), a1, a2] : List Int))).bind fun bt564 => (if bt564.2 = true then (some (bt564.1 == (Go.bits .or .u32 (Go.bits .or .u32 a0 (Go.bits .and .u32 ((a1) % 4294967296) 67108860)) ((((a2) % 4294967296) * 2) % 4294967296)))) else (some false))))))) = some r := h
  clear h
  by_cases c4 : a1 < 0
  · rw [if_pos c4] at H
    have c4b0 : decide (a1 < 0) = true := decide_eq_true c4
    clear c4
    obtain rfl := Option.some.inj H
    go_enter Try.func4, Try.ntmps4
    go_wp2
    go_ret
    exact ⟨by first | rfl | (simp [errW_none, errW_some] <;> rfl) | (simp [*, errW_none, errW_some] <;> rfl), by repeat (first | (with_reducible first | exact HB.out | apply below_alloc | apply pw_below_drewN | apply below_drew1) | exact HB.out)⟩
  · rw [if_neg c4] at H
    have c4b0 : decide (a1 < 0) = false := decide_eq_false c4
    clear c4
    by_cases c5 : a1 ≥ 67108864
    · rw [if_pos c5] at H
      have c5b0 : decide (67108864 ≤ a1) = true := decide_eq_true c5
      clear c5
      obtain rfl := Option.some.inj H
      go_enter Try.func4, Try.ntmps4
      go_wp2
      go_ret
      exact ⟨by first | rfl | (simp [errW_none, errW_some] <;> rfl) | (simp [*, errW_none, errW_some] <;> rfl), by repeat (first | (with_reducible first | exact HB.out | apply below_alloc | apply pw_below_drewN | apply below_drew1) | exact HB.out)⟩
    · rw [if_neg c5] at H
      have c5b0 : decide (67108864 ≤ a1) = false := decide_eq_false c5
      clear c5
      by_cases c6 : a2 < 0
      · rw [if_pos c6] at H
        have c6b0 : decide (a2 < 0) = true := decide_eq_true c6
        clear c6
        obtain rfl := Option.some.inj H
        go_enter Try.func4, Try.ntmps4
        go_wp2
        go_ret
        exact ⟨by first | rfl | (simp [errW_none, errW_some] <;> rfl) | (simp [*, errW_none, errW_some] <;> rfl), by repeat (first | (with_reducible first | exact HB.out | apply below_alloc | apply pw_below_drewN | apply below_drew1) | exact HB.out)⟩
      · rw [if_neg c6] at H
        have c6b0 : decide (a2 < 0) = false := decide_eq_false c6
        clear c6
        by_cases c7 : a2 > 1
        · rw [if_pos c7] at H
          have c7b0 : decide (1 < a2) = true := decide_eq_true c7
          clear c7
          obtain rfl := Option.some.inj H
          go_enter Try.func4, Try.ntmps4
          go_wp2
          go_ret
          exact ⟨by first | rfl | (simp [errW_none, errW_some] <;> rfl) | (simp [*, errW_none, errW_some] <;> rfl), by repeat (first | (with_reducible first | exact HB.out | apply below_alloc | apply pw_below_drewN | apply below_drew1) | exact HB.out)⟩
        · rw [if_neg c7] at H
          have c7b0 : decide (1 < a2) = false := decide_eq_false c7
          clear c7
          obtain ⟨y561, hy561⟩ : ∃ y_ : List Int, y_ = (([wrap64 (a0), a1, a2] : List Int)) := ⟨_, rfl⟩
          replace H : ((impl_Encode.f k (⟨#[79, 80, 95, 66, 82]⟩ : ByteArray) y561).bind fun bt564 => (if bt564.2 = true then (some (bt564.1 == (Go.bits .or .u32 (Go.bits .or .u32 a0 (Go.bits .and .u32 ((a1) % 4294967296) 67108860)) ((((a2) % 4294967296) * 2) % 4294967296)))) else (some false))) = some r := by first | (rw [hy561]; with_reducible exact H) | (have H2_ := (Option.bind_some _ _).symm.trans H; rw [hy561]; with_reducible exact H2_) | (have H2_ := (Option.bind_some _ _).symm.trans H; with_reducible exact H2_) | with_reducible exact H | (rw [hy561]; exact H) | exact H
          have Ny561 := Aside0.mk hy561
          clear hy561
          replace H := Option.bind_eq_some_iff.mp H
          obtain ⟨⟨t564, t565⟩, A80, H⟩ := H
          replace H : (if t565 = true then (some (t564 == (Go.bits .or .u32 (Go.bits .or .u32 a0 (Go.bits .and .u32 ((a1) % 4294967296) 67108860)) ((((a2) % 4294967296) * 2) % 4294967296)))) else (some false)) = some r := H
          have A8 := Aside0.mk A80
          clear A80
          by_cases c9 : t565 = true
          · subst c9
            have H1 : (some (t564 == (Go.bits .or .u32 (Go.bits .or .u32 a0 (Go.bits .and .u32 ((a1) % 4294967296) 67108860)) ((((a2) % 4294967296) * 2) % 4294967296)))) = some r := by rw [if_pos rfl] at H; exact H
            clear H
            have H := H1
            clear H1
            obtain rfl := Option.some.inj H
            go_enter Try.func4, Try.ntmps4
            go_wp2_with (first | ((with_reducible refine gate_dst (N := 28) rfl ?_); refine Kd.R_lit (Kd.int .i64) _ 3 ?hg (N := 28) ?hd (xs := ([wrap64 (a0), a1, a2] : List Int)) (inner := [.int .i64 (wrap64 (a0)), .int .i64 a1, .int .i64 a2]) (ok := fun _ => True) (okp := fun _ => True) ?hr ?hp (fun _ hk => hk) trivial (Below.refl _ _) (Nat.le_refl _) (by simp) ?_; (case hd => rfl); (case hg => rfl); (case hr => first | (go_simp; done) | (go_simp; rfl)); (case hp => exact (Reps.one (show Kd.M (Kd.int .i64) _ _ _ (wrap64 (a0)) [.int .i64 (wrap64 (a0))] from rfl) (Reps.one (show Kd.M (Kd.int .i64) _ _ _ a1 [.int .i64 a1] from rfl) (Reps.one (show Kd.M (Kd.int .i64) _ _ _ a2 [.int .i64 a2] from rfl) (Reps.none _ _))))); intro v562 w10 ho11 hb hg_ hnew_; clear hg_ hnew_; (first | rw [← Ny561.out] at ho11 | (simp only [Int.reduceToNat] at ho11; rw [← Ny561.out] at ho11)); have n0_ := Aside0.mk (Kd.R_lower ho11 (below_size (by repeat (first | (with_reducible first | exact HB.out | apply below_alloc | apply pw_below_drewN | apply below_drew1) | exact HB.out)))); have n1_ := Aside0.mk (below_step (by repeat (first | (with_reducible first | exact HB.out | apply below_alloc | apply pw_below_drewN | apply below_drew1) | exact HB.out)) hb); clear HB; have HO563 := n0_; have HB := n1_; clear n0_ n1_; clear hb ho11; obtain ⟨Ao12, co12, eo12⟩ := Kd.R_slice HO563.out; subst eo12) | ((with_reducible refine gate_callee (f := 13) rfl ?_); refine goesL_ (some 29) rfl rfl Try.func13 (by kernel_rfl) rfl #[.string (⟨#[79, 80, 95, 66, 82]⟩ : ByteArray), .slice Ao12 y561.length co12] rfl (by (try simp only [List.map_toArray, List.map_cons, List.map_nil]); first | done | rfl | (simp only [List.length_drop, List.length_take]; rfl)) ?_; (with_reducible refine (impl_Encode.calls k (⟨#[79, 80, 95, 66, 82]⟩ : ByteArray) _ _ y561 t564 true _ ?side1 ?side2 A8.out).mono ?_); (case side1 => repeat (first | exact (Kd.R_reads' HO563.out).2.2 | (with_reducible refine Kd.C_alloc ?_ _) | (with_reducible refine Kd.C_drewN ?_ _) | (with_reducible refine Kd.C_drew ?_))); (case side2 => exact (Kd.R_reads' HO563.out).2.1); rintro e w13 ⟨rfl, hb⟩; refine ⟨_, rfl, ?_⟩; have n0_ := Aside0.mk (Kd.R_below (by (with_reducible repeat (first | apply Kd.R_alloc | apply Kd.R_drewN | apply Kd.R_drew)); exact HO563.out) hb); have n1_ := Aside0.mk (below_step (by repeat (first | (with_reducible first | exact HB.out | apply below_alloc | apply pw_below_drewN | apply below_drew1) | exact HB.out)) hb); clear HO563; clear HB; have HO563 := n0_; have HB := n1_; clear n0_ n1_; (try clear hb); (try clear hb2); (try clear hk); (try clear hi)))
            go_ret
            exact ⟨by first | rfl | (simp [errW_none, errW_some] <;> rfl) | (simp [*, errW_none, errW_some] <;> rfl), by repeat (first | (with_reducible first | exact HB.out | apply below_alloc | apply pw_below_drewN | apply below_drew1) | exact HB.out)⟩
          · replace c9 := Bool.eq_false_iff.mpr c9
            subst c9
            have H1 : (some false) = some r := by rw [if_neg (show ¬ (false = true) by decide)] at H; exact H
            clear H
            have H := H1
            clear H1
            obtain rfl := Option.some.inj H
            go_enter Try.func4, Try.ntmps4
            go_wp2_with (first | ((with_reducible refine gate_dst (N := 28) rfl ?_); refine Kd.R_lit (Kd.int .i64) _ 3 ?hg (N := 28) ?hd (xs := ([wrap64 (a0), a1, a2] : List Int)) (inner := [.int .i64 (wrap64 (a0)), .int .i64 a1, .int .i64 a2]) (ok := fun _ => True) (okp := fun _ => True) ?hr ?hp (fun _ hk => hk) trivial (Below.refl _ _) (Nat.le_refl _) (by simp) ?_; (case hd => rfl); (case hg => rfl); (case hr => first | (go_simp; done) | (go_simp; rfl)); (case hp => exact (Reps.one (show Kd.M (Kd.int .i64) _ _ _ (wrap64 (a0)) [.int .i64 (wrap64 (a0))] from rfl) (Reps.one (show Kd.M (Kd.int .i64) _ _ _ a1 [.int .i64 a1] from rfl) (Reps.one (show Kd.M (Kd.int .i64) _ _ _ a2 [.int .i64 a2] from rfl) (Reps.none _ _))))); intro v562 w14 ho15 hb hg_ hnew_; clear hg_ hnew_; (first | rw [← Ny561.out] at ho15 | (simp only [Int.reduceToNat] at ho15; rw [← Ny561.out] at ho15)); have n0_ := Aside0.mk (Kd.R_lower ho15 (below_size (by repeat (first | (with_reducible first | exact HB.out | apply below_alloc | apply pw_below_drewN | apply below_drew1) | exact HB.out)))); have n1_ := Aside0.mk (below_step (by repeat (first | (with_reducible first | exact HB.out | apply below_alloc | apply pw_below_drewN | apply below_drew1) | exact HB.out)) hb); clear HB; have HO563 := n0_; have HB := n1_; clear n0_ n1_; clear hb ho15; obtain ⟨Ao16, co16, eo16⟩ := Kd.R_slice HO563.out; subst eo16) | ((with_reducible refine gate_callee (f := 13) rfl ?_); refine goesL_ (some 29) rfl rfl Try.func13 (by kernel_rfl) rfl #[.string (⟨#[79, 80, 95, 66, 82]⟩ : ByteArray), .slice Ao16 y561.length co16] rfl (by (try simp only [List.map_toArray, List.map_cons, List.map_nil]); first | done | rfl | (simp only [List.length_drop, List.length_take]; rfl)) ?_; (with_reducible refine (impl_Encode.calls k (⟨#[79, 80, 95, 66, 82]⟩ : ByteArray) _ _ y561 t564 false _ ?side1 ?side2 A8.out).mono ?_); (case side1 => repeat (first | exact (Kd.R_reads' HO563.out).2.2 | (with_reducible refine Kd.C_alloc ?_ _) | (with_reducible refine Kd.C_drewN ?_ _) | (with_reducible refine Kd.C_drew ?_))); (case side2 => exact (Kd.R_reads' HO563.out).2.1); rintro e w17 ⟨rfl, hb⟩; refine ⟨_, rfl, ?_⟩; have n0_ := Aside0.mk (Kd.R_below (by (with_reducible repeat (first | apply Kd.R_alloc | apply Kd.R_drewN | apply Kd.R_drew)); exact HO563.out) hb); have n1_ := Aside0.mk (below_step (by repeat (first | (with_reducible first | exact HB.out | apply below_alloc | apply pw_below_drewN | apply below_drew1) | exact HB.out)) hb); clear HO563; clear HB; have HO563 := n0_; have HB := n1_; clear n0_ n1_; (try clear hb); (try clear hb2); (try clear hk); (try clear hi)))
            go_ret
            exact ⟨by first | rfl | (simp [errW_none, errW_some] <;> rfl) | (simp [*, errW_none, errW_some] <;> rfl), by repeat (first | (with_reducible first | exact HB.out | apply below_alloc | apply pw_below_drewN | apply below_drew1) | exact HB.out)⟩

/-- THE ONE PURE STATEMENT of laws_FnBranch: yours. -/
def laws_FnBranch.Pure : Prop := ∀ (a0 : Int) (a1 : Int) (a2 : Int), (Lit.int .u32 a0).wf = true → (Lit.int .i64 a1).wf = true → (Lit.int .i64 a2).wf = true → ∃ k, laws_FnBranch.f k a0 a1 a2 = some true
theorem laws_FnBranch.walk (P : laws_FnBranch.Pure) (a0 : Int) (a1 : Int) (a2 : Int) (w : World) (w0 : (Lit.int .u32 a0).wf = true) (w1 : (Lit.int .i64 a1).wf = true) (w2 : (Lit.int .i64 a2).wf = true) :
    Calls Try.prog 4 #[.int .u32 a0, .int .i64 a1, .int .i64 a2] w fun e w' => e = .returned (.bool true) ∧ Below w.heap.size w w' := by
  obtain ⟨k, h⟩ := P a0 a1 a2 w0 w1 w2
  refine (laws_FnBranch.calls k a0 a1 a2 true w h).mono ?_
  rintro e w' ⟨rfl, hd⟩
  exact ⟨rfl, hd⟩

end Go.Proofs.Ytnfkdmoblncclaa.X
