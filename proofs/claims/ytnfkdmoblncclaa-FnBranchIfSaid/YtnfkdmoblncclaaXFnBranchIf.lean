/- The walk of the law FnBranchIf. -/
import Derived.Test.YtnfkdmoblncclaaXEncode
namespace Go.Proofs.Ytnfkdmoblncclaa.X
open Go.RowKit Go.Proofs.YtnfkdmoblncclaaW.PrintWords Go.Proofs.YtnfkdmoblncclaaW.PrintLast Go.Proofs.YtnfkdmoblncclaaW.PrintMore
attribute [local go_sem] max2_int min2_int max_two min_two max_three min_three max_four min_four   -- for this text's walks alone
set_option linter.unusedVariables false
set_option linter.unusedSimpArgs false

/-! ### laws_FnBranchIf: function 5 -/
def laws_FnBranchIf.f (k : Nat) (a0 : Int) (a1 : Int) (a2 : Int) (a3 : Int) (a4 : Int) : Option (Bool) := if a1 < 0 then (some true) else (if a1 > 31 then (some true) else (if a2 < 0 then (some true) else (if a2 > 31 then (some true) else (if a3 < 0 then (some true) else (if a3 > 65535 then (some true) else (if a4 < 0 then (some true) else (if a4 > 1 then (some true) else ((impl_Encode.f k (⟨#[79, 80, 95, 66, 67]⟩ : ByteArray) (([wrap64 (a0), a1, a2, a3, a4] : List Int))).bind fun bt569 => (if bt569.2 = true then (some (bt569.1 == (Go.bits .or .u32 (Go.bits .or .u32 (Go.bits .or .u32 (Go.bits .or .u32 a0 ((((a1) % 4294967296) * 2097152) % 4294967296)) ((((a2) % 4294967296) * 65536) % 4294967296)) (Go.bits .and .u32 ((a3) % 4294967296) 65532)) ((((a4) % 4294967296) * 2) % 4294967296)))) else (some false))))))))))
theorem laws_FnBranchIf.mono : ∀ a0 a1 a2 a3 a4 k, LeO (laws_FnBranchIf.f k a0 a1 a2 a3 a4) (laws_FnBranchIf.f (k + 1) a0 a1 a2 a3 a4) := by
  intro a0 a1 a2 a3 a4 k
  unfold laws_FnBranchIf.f
  repeat' first
      | (with_reducible exact impl_Encode.mono _ _ _)
      | (with_reducible exact LeO.refl _)
      | (with_reducible exact LeO.none _)
      | (with_reducible refine LeO.ite ?_ ?_)
      | (with_reducible refine LeO.bind ?_ (fun _ => ?_))
      | exact impl_Encode.mono _ _ _
      | exact LeO.none _
      | refine LeO.ite ?_ ?_
      | refine LeO.bind ?_ (fun _ => ?_)
set_option maxHeartbeats 8000000 in
set_option maxRecDepth 100000 in
theorem laws_FnBranchIf.calls (k : Nat) (a0 : Int) (a1 : Int) (a2 : Int) (a3 : Int) (a4 : Int) (r : Bool) (w : World) (h : laws_FnBranchIf.f k a0 a1 a2 a3 a4 = some r) :
    Calls Try.prog 5 #[.int .u32 a0, .int .i64 a1, .int .i64 a2, .int .i64 a3, .int .i64 a4] w fun e w' => e = .returned (.bool r) ∧ Below w.heap.size w w' := by
  have HB := Aside0.mk (Below.refl w.heap.size w)
  have H : (if a1 < 0 then (some true) else (if a1 > 31 then (some true) else (if a2 < 0 then (some true) else (if a2 > 31 then (some true) else (if a3 < 0 then (some true) else (if a3 > 65535 then (some true) else (if a4 < 0 then (some true) else (if a4 > 1 then (some true) else ((impl_Encode.f k (⟨#[79, 80, 95, 66, 67]⟩ : ByteArray) (([wrap64 (a0), a1, a2, a3, a4] : List Int))).bind fun bt569 => (if bt569.2 = true then (some (bt569.1 == (Go.bits .or .u32 (Go.bits .or .u32 (Go.bits .or .u32 (Go.bits .or .u32 a0 ((((a1) % 4294967296) * 2097152) % 4294967296)) ((((a2) % 4294967296) * 65536) % 4294967296)) (Go.bits .and .u32 ((a3) % 4294967296) 65532)) ((((a4) % 4294967296) * 2) % 4294967296)))) else (some false))))))))))) = some r := h
  clear h
  by_cases c6 : a1 < 0
  · rw [if_pos c6] at H
    have c6b0 : decide (a1 < 0) = true := decide_eq_true c6
    clear c6
    obtain rfl := Option.some.inj H
    go_enter Try.func5, Try.ntmps5
    go_wp2
    go_ret
    exact ⟨by first | rfl | (simp [errW_none, errW_some] <;> rfl) | (simp [*, errW_none, errW_some] <;> rfl), by repeat (first | (with_reducible first | exact HB.out | apply below_alloc | apply pw_below_drewN | apply below_drew1) | exact HB.out)⟩
  · rw [if_neg c6] at H
    have c6b0 : decide (a1 < 0) = false := decide_eq_false c6
    clear c6
    by_cases c7 : a1 > 31
    · rw [if_pos c7] at H
      have c7b0 : decide (31 < a1) = true := decide_eq_true c7
      clear c7
      obtain rfl := Option.some.inj H
      go_enter Try.func5, Try.ntmps5
      go_wp2
      go_ret
      exact ⟨by first | rfl | (simp [errW_none, errW_some] <;> rfl) | (simp [*, errW_none, errW_some] <;> rfl), by repeat (first | (with_reducible first | exact HB.out | apply below_alloc | apply pw_below_drewN | apply below_drew1) | exact HB.out)⟩
    · rw [if_neg c7] at H
      have c7b0 : decide (31 < a1) = false := decide_eq_false c7
      clear c7
      by_cases c8 : a2 < 0
      · rw [if_pos c8] at H
        have c8b0 : decide (a2 < 0) = true := decide_eq_true c8
        clear c8
        obtain rfl := Option.some.inj H
        go_enter Try.func5, Try.ntmps5
        go_wp2
        go_ret
        exact ⟨by first | rfl | (simp [errW_none, errW_some] <;> rfl) | (simp [*, errW_none, errW_some] <;> rfl), by repeat (first | (with_reducible first | exact HB.out | apply below_alloc | apply pw_below_drewN | apply below_drew1) | exact HB.out)⟩
      · rw [if_neg c8] at H
        have c8b0 : decide (a2 < 0) = false := decide_eq_false c8
        clear c8
        by_cases c9 : a2 > 31
        · rw [if_pos c9] at H
          have c9b0 : decide (31 < a2) = true := decide_eq_true c9
          clear c9
          obtain rfl := Option.some.inj H
          go_enter Try.func5, Try.ntmps5
          go_wp2
          go_ret
          exact ⟨by first | rfl | (simp [errW_none, errW_some] <;> rfl) | (simp [*, errW_none, errW_some] <;> rfl), by repeat (first | (with_reducible first | exact HB.out | apply below_alloc | apply pw_below_drewN | apply below_drew1) | exact HB.out)⟩
        · rw [if_neg c9] at H
          have c9b0 : decide (31 < a2) = false := decide_eq_false c9
          clear c9
          by_cases c10 : a3 < 0
          · rw [if_pos c10] at H
            have c10b0 : decide (a3 < 0) = true := decide_eq_true c10
            clear c10
            obtain rfl := Option.some.inj H
            go_enter Try.func5, Try.ntmps5
            go_wp2
            go_ret
            exact ⟨by first | rfl | (simp [errW_none, errW_some] <;> rfl) | (simp [*, errW_none, errW_some] <;> rfl), by repeat (first | (with_reducible first | exact HB.out | apply below_alloc | apply pw_below_drewN | apply below_drew1) | exact HB.out)⟩
          · rw [if_neg c10] at H
            have c10b0 : decide (a3 < 0) = false := decide_eq_false c10
            clear c10
            by_cases c11 : a3 > 65535
            · rw [if_pos c11] at H
              have c11b0 : decide (65535 < a3) = true := decide_eq_true c11
              clear c11
              obtain rfl := Option.some.inj H
              go_enter Try.func5, Try.ntmps5
              go_wp2
              go_ret
              exact ⟨by first | rfl | (simp [errW_none, errW_some] <;> rfl) | (simp [*, errW_none, errW_some] <;> rfl), by repeat (first | (with_reducible first | exact HB.out | apply below_alloc | apply pw_below_drewN | apply below_drew1) | exact HB.out)⟩
            · rw [if_neg c11] at H
              have c11b0 : decide (65535 < a3) = false := decide_eq_false c11
              clear c11
              by_cases c12 : a4 < 0
              · rw [if_pos c12] at H
                have c12b0 : decide (a4 < 0) = true := decide_eq_true c12
                clear c12
                obtain rfl := Option.some.inj H
                go_enter Try.func5, Try.ntmps5
                go_wp2
                go_ret
                exact ⟨by first | rfl | (simp [errW_none, errW_some] <;> rfl) | (simp [*, errW_none, errW_some] <;> rfl), by repeat (first | (with_reducible first | exact HB.out | apply below_alloc | apply pw_below_drewN | apply below_drew1) | exact HB.out)⟩
              · rw [if_neg c12] at H
                have c12b0 : decide (a4 < 0) = false := decide_eq_false c12
                clear c12
                by_cases c13 : a4 > 1
                · rw [if_pos c13] at H
                  have c13b0 : decide (1 < a4) = true := decide_eq_true c13
                  clear c13
                  obtain rfl := Option.some.inj H
                  go_enter Try.func5, Try.ntmps5
                  go_wp2
                  go_ret
                  exact ⟨by first | rfl | (simp [errW_none, errW_some] <;> rfl) | (simp [*, errW_none, errW_some] <;> rfl), by repeat (first | (with_reducible first | exact HB.out | apply below_alloc | apply pw_below_drewN | apply below_drew1) | exact HB.out)⟩
                · rw [if_neg c13] at H
                  have c13b0 : decide (1 < a4) = false := decide_eq_false c13
                  clear c13
                  obtain ⟨y566, hy566⟩ : ∃ y_ : List Int, y_ = (([wrap64 (a0), a1, a2, a3, a4] : List Int)) := ⟨_, rfl⟩
                  replace H : ((impl_Encode.f k (⟨#[79, 80, 95, 66, 67]⟩ : ByteArray) y566).bind fun bt569 => (if bt569.2 = true then (some (bt569.1 == (Go.bits .or .u32 (Go.bits .or .u32 (Go.bits .or .u32 (Go.bits .or .u32 a0 ((((a1) % 4294967296) * 2097152) % 4294967296)) ((((a2) % 4294967296) * 65536) % 4294967296)) (Go.bits .and .u32 ((a3) % 4294967296) 65532)) ((((a4) % 4294967296) * 2) % 4294967296)))) else (some false))) = some r := by first | (rw [hy566]; with_reducible exact H) | (have H2_ := (Option.bind_some _ _).symm.trans H; rw [hy566]; with_reducible exact H2_) | (have H2_ := (Option.bind_some _ _).symm.trans H; with_reducible exact H2_) | with_reducible exact H | (rw [hy566]; exact H) | exact H
                  have Ny566 := Aside0.mk hy566
                  clear hy566
                  replace H := Option.bind_eq_some_iff.mp H
                  obtain ⟨⟨t569, t570⟩, A140, H⟩ := H
                  replace H : (if t570 = true then (some (t569 == (Go.bits .or .u32 (Go.bits .or .u32 (Go.bits .or .u32 (Go.bits .or .u32 a0 ((((a1) % 4294967296) * 2097152) % 4294967296)) ((((a2) % 4294967296) * 65536) % 4294967296)) (Go.bits .and .u32 ((a3) % 4294967296) 65532)) ((((a4) % 4294967296) * 2) % 4294967296)))) else (some false)) = some r := H
                  have A14 := Aside0.mk A140
                  clear A140
                  by_cases c15 : t570 = true
                  · subst c15
                    have H1 : (some (t569 == (Go.bits .or .u32 (Go.bits .or .u32 (Go.bits .or .u32 (Go.bits .or .u32 a0 ((((a1) % 4294967296) * 2097152) % 4294967296)) ((((a2) % 4294967296) * 65536) % 4294967296)) (Go.bits .and .u32 ((a3) % 4294967296) 65532)) ((((a4) % 4294967296) * 2) % 4294967296)))) = some r := by rw [if_pos rfl] at H; exact H
                    clear H
                    have H := H1
                    clear H1
                    obtain rfl := Option.some.inj H
                    go_enter Try.func5, Try.ntmps5
                    go_wp2_with (first | ((with_reducible refine gate_dst (N := 50) rfl ?_); refine Kd.R_lit (Kd.int .i64) _ 3 ?hg (N := 50) ?hd (xs := ([wrap64 (a0), a1, a2, a3, a4] : List Int)) (inner := [.int .i64 (wrap64 (a0)), .int .i64 a1, .int .i64 a2, .int .i64 a3, .int .i64 a4]) (ok := fun _ => True) (okp := fun _ => True) ?hr ?hp (fun _ hk => hk) trivial (Below.refl _ _) (Nat.le_refl _) (by simp) ?_; (case hd => rfl); (case hg => rfl); (case hr => first | (go_simp; done) | (go_simp; rfl)); (case hp => exact (Reps.one (show Kd.M (Kd.int .i64) _ _ _ (wrap64 (a0)) [.int .i64 (wrap64 (a0))] from rfl) (Reps.one (show Kd.M (Kd.int .i64) _ _ _ a1 [.int .i64 a1] from rfl) (Reps.one (show Kd.M (Kd.int .i64) _ _ _ a2 [.int .i64 a2] from rfl) (Reps.one (show Kd.M (Kd.int .i64) _ _ _ a3 [.int .i64 a3] from rfl) (Reps.one (show Kd.M (Kd.int .i64) _ _ _ a4 [.int .i64 a4] from rfl) (Reps.none _ _))))))); intro v567 w16 ho17 hb hg_ hnew_; clear hg_ hnew_; (first | rw [← Ny566.out] at ho17 | (simp only [Int.reduceToNat] at ho17; rw [← Ny566.out] at ho17)); have n0_ := Aside0.mk (Kd.R_lower ho17 (below_size (by repeat (first | (with_reducible first | exact HB.out | apply below_alloc | apply pw_below_drewN | apply below_drew1) | exact HB.out)))); have n1_ := Aside0.mk (below_step (by repeat (first | (with_reducible first | exact HB.out | apply below_alloc | apply pw_below_drewN | apply below_drew1) | exact HB.out)) hb); clear HB; have HO568 := n0_; have HB := n1_; clear n0_ n1_; clear hb ho17; obtain ⟨Ao18, co18, eo18⟩ := Kd.R_slice HO568.out; subst eo18) | ((with_reducible refine gate_callee (f := 13) rfl ?_); refine goesL_ (some 51) rfl rfl Try.func13 (by kernel_rfl) rfl #[.string (⟨#[79, 80, 95, 66, 67]⟩ : ByteArray), .slice Ao18 y566.length co18] rfl (by (try simp only [List.map_toArray, List.map_cons, List.map_nil]); first | done | rfl | (simp only [List.length_drop, List.length_take]; rfl)) ?_; (with_reducible refine (impl_Encode.calls k (⟨#[79, 80, 95, 66, 67]⟩ : ByteArray) _ _ y566 t569 true _ ?side1 ?side2 A14.out).mono ?_); (case side1 => repeat (first | exact (Kd.R_reads' HO568.out).2.2 | (with_reducible refine Kd.C_alloc ?_ _) | (with_reducible refine Kd.C_drewN ?_ _) | (with_reducible refine Kd.C_drew ?_))); (case side2 => exact (Kd.R_reads' HO568.out).2.1); rintro e w19 ⟨rfl, hb⟩; refine ⟨_, rfl, ?_⟩; have n0_ := Aside0.mk (Kd.R_below (by (with_reducible repeat (first | apply Kd.R_alloc | apply Kd.R_drewN | apply Kd.R_drew)); exact HO568.out) hb); have n1_ := Aside0.mk (below_step (by repeat (first | (with_reducible first | exact HB.out | apply below_alloc | apply pw_below_drewN | apply below_drew1) | exact HB.out)) hb); clear HO568; clear HB; have HO568 := n0_; have HB := n1_; clear n0_ n1_; (try clear hb); (try clear hb2); (try clear hk); (try clear hi)))
                    go_ret
                    exact ⟨by first | rfl | (simp [errW_none, errW_some] <;> rfl) | (simp [*, errW_none, errW_some] <;> rfl), by repeat (first | (with_reducible first | exact HB.out | apply below_alloc | apply pw_below_drewN | apply below_drew1) | exact HB.out)⟩
                  · replace c15 := Bool.eq_false_iff.mpr c15
                    subst c15
                    have H1 : (some false) = some r := by rw [if_neg (show ¬ (false = true) by decide)] at H; exact H
                    clear H
                    have H := H1
                    clear H1
                    obtain rfl := Option.some.inj H
                    go_enter Try.func5, Try.ntmps5
                    go_wp2_with (first | ((with_reducible refine gate_dst (N := 50) rfl ?_); refine Kd.R_lit (Kd.int .i64) _ 3 ?hg (N := 50) ?hd (xs := ([wrap64 (a0), a1, a2, a3, a4] : List Int)) (inner := [.int .i64 (wrap64 (a0)), .int .i64 a1, .int .i64 a2, .int .i64 a3, .int .i64 a4]) (ok := fun _ => True) (okp := fun _ => True) ?hr ?hp (fun _ hk => hk) trivial (Below.refl _ _) (Nat.le_refl _) (by simp) ?_; (case hd => rfl); (case hg => rfl); (case hr => first | (go_simp; done) | (go_simp; rfl)); (case hp => exact (Reps.one (show Kd.M (Kd.int .i64) _ _ _ (wrap64 (a0)) [.int .i64 (wrap64 (a0))] from rfl) (Reps.one (show Kd.M (Kd.int .i64) _ _ _ a1 [.int .i64 a1] from rfl) (Reps.one (show Kd.M (Kd.int .i64) _ _ _ a2 [.int .i64 a2] from rfl) (Reps.one (show Kd.M (Kd.int .i64) _ _ _ a3 [.int .i64 a3] from rfl) (Reps.one (show Kd.M (Kd.int .i64) _ _ _ a4 [.int .i64 a4] from rfl) (Reps.none _ _))))))); intro v567 w20 ho21 hb hg_ hnew_; clear hg_ hnew_; (first | rw [← Ny566.out] at ho21 | (simp only [Int.reduceToNat] at ho21; rw [← Ny566.out] at ho21)); have n0_ := Aside0.mk (Kd.R_lower ho21 (below_size (by repeat (first | (with_reducible first | exact HB.out | apply below_alloc | apply pw_below_drewN | apply below_drew1) | exact HB.out)))); have n1_ := Aside0.mk (below_step (by repeat (first | (with_reducible first | exact HB.out | apply below_alloc | apply pw_below_drewN | apply below_drew1) | exact HB.out)) hb); clear HB; have HO568 := n0_; have HB := n1_; clear n0_ n1_; clear hb ho21; obtain ⟨Ao22, co22, eo22⟩ := Kd.R_slice HO568.out; subst eo22) | ((with_reducible refine gate_callee (f := 13) rfl ?_); refine goesL_ (some 51) rfl rfl Try.func13 (by kernel_rfl) rfl #[.string (⟨#[79, 80, 95, 66, 67]⟩ : ByteArray), .slice Ao22 y566.length co22] rfl (by (try simp only [List.map_toArray, List.map_cons, List.map_nil]); first | done | rfl | (simp only [List.length_drop, List.length_take]; rfl)) ?_; (with_reducible refine (impl_Encode.calls k (⟨#[79, 80, 95, 66, 67]⟩ : ByteArray) _ _ y566 t569 false _ ?side1 ?side2 A14.out).mono ?_); (case side1 => repeat (first | exact (Kd.R_reads' HO568.out).2.2 | (with_reducible refine Kd.C_alloc ?_ _) | (with_reducible refine Kd.C_drewN ?_ _) | (with_reducible refine Kd.C_drew ?_))); (case side2 => exact (Kd.R_reads' HO568.out).2.1); rintro e w23 ⟨rfl, hb⟩; refine ⟨_, rfl, ?_⟩; have n0_ := Aside0.mk (Kd.R_below (by (with_reducible repeat (first | apply Kd.R_alloc | apply Kd.R_drewN | apply Kd.R_drew)); exact HO568.out) hb); have n1_ := Aside0.mk (below_step (by repeat (first | (with_reducible first | exact HB.out | apply below_alloc | apply pw_below_drewN | apply below_drew1) | exact HB.out)) hb); clear HO568; clear HB; have HO568 := n0_; have HB := n1_; clear n0_ n1_; (try clear hb); (try clear hb2); (try clear hk); (try clear hi)))
                    go_ret
                    exact ⟨by first | rfl | (simp [errW_none, errW_some] <;> rfl) | (simp [*, errW_none, errW_some] <;> rfl), by repeat (first | (with_reducible first | exact HB.out | apply below_alloc | apply pw_below_drewN | apply below_drew1) | exact HB.out)⟩

/-- THE ONE PURE STATEMENT of laws_FnBranchIf: yours. -/
def laws_FnBranchIf.Pure : Prop := ∀ (a0 : Int) (a1 : Int) (a2 : Int) (a3 : Int) (a4 : Int), (Lit.int .u32 a0).wf = true → (Lit.int .i64 a1).wf = true → (Lit.int .i64 a2).wf = true → (Lit.int .i64 a3).wf = true → (Lit.int .i64 a4).wf = true → ∃ k, laws_FnBranchIf.f k a0 a1 a2 a3 a4 = some true
theorem laws_FnBranchIf.walk (P : laws_FnBranchIf.Pure) (a0 : Int) (a1 : Int) (a2 : Int) (a3 : Int) (a4 : Int) (w : World) (w0 : (Lit.int .u32 a0).wf = true) (w1 : (Lit.int .i64 a1).wf = true) (w2 : (Lit.int .i64 a2).wf = true) (w3 : (Lit.int .i64 a3).wf = true) (w4 : (Lit.int .i64 a4).wf = true) :
    Calls Try.prog 5 #[.int .u32 a0, .int .i64 a1, .int .i64 a2, .int .i64 a3, .int .i64 a4] w fun e w' => e = .returned (.bool true) ∧ Below w.heap.size w w' := by
  obtain ⟨k, h⟩ := P a0 a1 a2 a3 a4 w0 w1 w2 w3 w4
  refine (laws_FnBranchIf.calls k a0 a1 a2 a3 a4 true w h).mono ?_
  rintro e w' ⟨rfl, hd⟩
  exact ⟨rfl, hd⟩

end Go.Proofs.Ytnfkdmoblncclaa.X
