/- What an encoder makes of its fields by its name, or that it is refused. -/
import Derived.Test.YtnfkdmoblncclaaXWithin
import Derived.Test.YtnfkdmoblncclaaXNil
import Derived.Test.YtnfkdmoblncclaaXEnc
import Derived.Lib.SliceRun
namespace Go.Proofs.Ytnfkdmoblncclaa.X
open Go.RowKit Go.Proofs.YtnfkdmoblncclaaW.PrintWords Go.Proofs.YtnfkdmoblncclaaW.PrintLast Go.Proofs.YtnfkdmoblncclaaW.PrintMore
attribute [local go_sem] max2_int min2_int max_two min_two max_three min_three max_four min_four   -- for this text's walks alone
set_option linter.unusedVariables false
set_option linter.unusedSimpArgs false

/-! ### impl_Encode: function 13 -/
mutual
def impl_Encode.j0 : Nat → ByteArray → List Int → List Int → Bool → Option (Int × Bool)
  | 0, _, _, _, _ => none
  | k + 1, x0, x1, x6, x19 => if x19 = true then (some (0, false)) else (impl_Encode.l0 k x0 x1 x6 x1 (x1.length : Int) 0)
def impl_Encode.l0 : Nat → ByteArray → List Int → List Int → List Int → Int → Int → Option (Int × Bool)
  | 0, _, _, _, _, _, _ => none
  | k + 1, x0, x1, x6, x20, x21, x22 => if x22 < x21 then (if 0 ≤ x22 then (if x22 < (x20.length : Int) then (if x22 < (x6.length : Int) then ((impl_within.f (rd x20 x22) (rd x6 x22)).bind fun t559 => (if t559 = true then (impl_Encode.l0 k x0 x1 x6 x20 x21 (wrap64 (x22 + 1))) else (some (0, false)))) else (none)) else (none)) else (none)) else ((impl_encoded.f x0 x1).bind fun t560 => (some (t560, true)))
end
def impl_Encode.f (k : Nat) (a0 : ByteArray) (l1 : List Int) : Option (Int × Bool) := (impl_bounds.f a0).bind fun t554 => (if (t554).length = 0 then (impl_Encode.j0 k a0 l1 t554 true) else (impl_Encode.j0 k a0 l1 t554 ((l1.length : Int) != (t554.length : Int))))
set_option maxHeartbeats 8000000 in
set_option maxRecDepth 100000 in
theorem impl_Encode.calls_some (k : Nat) (a0 : ByteArray) (A1 : Option Addr) (c1 : Nat) (l1 : List Int) (r1 : Int) (r2 : Bool) (w : World) (hr1 : Kd.C (Kd.int .i64) w A1 l1.length l1) (hc1 : l1.length ≤ c1) (hb0 : impl_bounds.f a0 ≠ some []) (h : impl_Encode.f k a0 l1 = some (r1, r2)) :
    Calls Try.prog 13 #[.string a0, .slice A1 l1.length c1] w fun e w' => e = .returned (.tuple #[.int .u32 r1, .bool r2]) ∧ Below w.heap.size w w' := by
  have hsn : ∀ (w : World) (a : Option Addr) (n c : Nat), (binOp .eql 22 (.slice a n c) (.slice none 0 0)).run Try.prog w = .ok (.bool a.isNone) w := fun w a n c => Lib.run_eql_slice_nil w 22 3 a n c 0 0 Try.underlying22
  have HR1 := Aside0.mk hr1
  have HC1 := Aside0.mk hc1
  clear hr1 hc1
  have HB := Aside0.mk (Below.refl w.heap.size w)
  have H : ((impl_bounds.f a0).bind fun t554 => (if (t554).length = 0 then (impl_Encode.j0 k a0 l1 t554 true) else (impl_Encode.j0 k a0 l1 t554 ((l1.length : Int) != (t554.length : Int))))) = some (r1, r2) := h
  clear h
  replace H := Option.bind_eq_some_iff.mp H
  obtain ⟨t554, A30, H⟩ := H
  replace H : (if (t554).length = 0 then (impl_Encode.j0 k a0 l1 t554 true) else (impl_Encode.j0 k a0 l1 t554 ((l1.length : Int) != (t554.length : Int)))) = some (r1, r2) := H
  have hnil : t554 ≠ [] := fun e => hb0 (by rw [A30, e])
  have hpos := Aside0.mk (List.length_pos_iff.mpr hnil)
  clear hnil hb0
  have A3 := Aside0.mk A30
  clear A30
  have HC4 := Aside0.mk H
  clear H
  go_enter Try.func13, Try.ntmps13
  go_upto_region 2 with (first | ((with_reducible refine gate_callee (f := 20) rfl ?_); refine goesL_ (some 10) rfl rfl Try.func20 (by kernel_rfl) rfl #[.string a0] rfl (by (try simp only [List.map_toArray, List.map_cons, List.map_nil]); first | done | rfl | (simp only [List.length_drop, List.length_take]; rfl)) ?_; (with_reducible refine (impl_bounds.calls a0 t554 _ A3.out).mono ?_); rintro e w5 ⟨v555, rfl, ho0, hb⟩; refine ⟨_, rfl, ?_⟩; have n0_ := Aside0.mk (Kd.R_lower ho0 (below_size (by repeat (first | (with_reducible first | exact HB.out | apply below_alloc | apply pw_below_drewN | apply below_drew1) | exact HB.out)))); have n1_ := Aside0.mk (below_step (by repeat (first | (with_reducible first | exact HB.out | apply below_alloc | apply pw_below_drewN | apply below_drew1) | exact HB.out)) hb); clear HB; have HO556 := n0_; have HB := n1_; clear n0_ n1_; (try clear hb); (try clear hb2); (try clear hk); (try clear hi); (try clear ho0)))
  (try simp only [Act.put, List.setIfInBounds_toArray, List.set_cons_zero, List.set_cons_succ])
  go_cut [19] (fun v19 wc => ∃ (kq : Nat) (x19_3 : Bool), v19 = .bool x19_3 ∧ Aside0 (impl_Encode.j0 kq a0 l1 t554 x19_3 = some (r1, r2)) ∧ Aside0 (kq ≤ k) ∧ Aside0 (Kd.R (Kd.int .i64) 3 wc w.heap.size (fun _ => True) v555 t554) ∧ Aside0 (Below w.heap.size w wc))
  case first =>
    have H := HC4.out
    clear HC4
    rw [if_neg (by have := hpos.out; omega)] at H
    have H' := Aside0.mk H
    clear H
    obtain ⟨Ao7, co7, eo7⟩ := Kd.R_slice HO556.out
    subst eo7
    obtain ⟨ad7, e7, hx7⟩ := Kd.at_int (Kd.R_reads' HO556.out).2.2 0 (by omega) (by have := hpos.out; omega)
    cases e7
    clear hx7
    go_wp2
    go_meet
    case rel => exact ⟨_, (((l1.length : Int) != (t554.length : Int))), (by first | rfl | (simp; done) | (simp [*]; done)), H', ⟨by first | omega | exact Nat.le_refl _⟩, ⟨by (with_reducible repeat (first | apply Kd.R_alloc | apply Kd.R_drewN | apply Kd.R_drew)); exact HO556.out⟩, ⟨by repeat (first | (with_reducible first | exact HB.out | apply below_alloc | apply pw_below_drewN | apply below_drew1) | exact HB.out)⟩⟩
  case rest =>
    clear HC4
    try clear c1
    try clear c2
    try clear p2
    try clear c6
    try clear c6b0
    try clear c6b1
    obtain ⟨kq, x19_3, rfl, HA, HJ3, HO_6, HB⟩ := hcut
    cases kq with
    | zero => exact absurd HA.out (by simp [impl_Encode.j0])
    | succ kj3 =>
      have H := HA.out
      clear HA
      simp only [impl_Encode.j0] at H
      by_cases c8 : x19_3 = true
      · subst c8
        have H1 : (some (0, false)) = some (r1, r2) := by rw [if_pos rfl] at H; exact H
        clear H
        have H := H1
        clear H1
        simp only [Option.some.injEq, Prod.mk.injEq] at H
        obtain ⟨rfl, rfl⟩ := H
        go_wp2
        go_ret2
        exact ⟨by first | rfl | (simp [errW_none, errW_some] <;> rfl) | (simp [*, errW_none, errW_some] <;> rfl), by repeat (first | (with_reducible first | exact HB.out | apply below_alloc | apply pw_below_drewN | apply below_drew1) | exact HB.out)⟩
      · replace c8 := Bool.eq_false_iff.mpr c8
        subst c8
        have H1 : (impl_Encode.l0 kj3 a0 l1 t554 l1 (l1.length : Int) 0) = some (r1, r2) := by rw [if_neg (show ¬ (false = true) by decide)] at H; exact H
        clear H
        have H := H1
        clear H1
        have H' := Aside0.mk H
        clear H
        go_wp2
        go_loopg [22] kj3 (fun kq v22 w' => ∃ (x22_2 : Int), v22 = .int .i64 x22_2 ∧ Aside0 (impl_Encode.l0 kq a0 l1 t554 l1 (l1.length : Int) x22_2 = some (r1, r2)) ∧ Aside0 (kq ≤ kj3) ∧ Aside0 (Kd.R (Kd.int .i64) 3 w' w.heap.size (fun _ => True) v555 t554) ∧ Aside0 (Below w.heap.size w w'))
        case atStart => exact ⟨(0), (by first | rfl | (simp; done) | (simp [*]; done)), H', ⟨Nat.le_refl _⟩, ⟨by (with_reducible repeat (first | apply Kd.R_alloc | apply Kd.R_drewN | apply Kd.R_drew)); exact HO_6.out⟩, ⟨by repeat (first | (with_reducible first | exact HB.out | apply below_alloc | apply pw_below_drewN | apply below_drew1) | exact HB.out)⟩⟩
        case round =>
          clear H'
          try clear c1
          try clear c2
          try clear p2
          try clear c6
          try clear c6b0
          try clear c6b1
          try clear c8
          try clear p2
          obtain ⟨x22_2, rfl, HA, HK2, HO_6, HB⟩ := hrel
          cases gk with
          | zero => exact absurd HA.out (by simp [impl_Encode.l0])
          | succ k2 =>
            have H := HA.out
            clear HA
            simp only [impl_Encode.l0] at H
            by_cases c9 : x22_2 < (l1.length : Int)
            · rw [if_pos c9] at H
              have c9b0 : decide (x22_2 < (l1.length : Int)) = true := decide_eq_true c9
              clear c9
              by_cases c10 : 0 ≤ x22_2
              · rw [if_pos c10] at H
                have c10b0 : decide (0 ≤ x22_2) = true := decide_eq_true c10
                clear c10
                by_cases c11 : x22_2 < (l1.length : Int)
                · rw [if_pos c11] at H
                  have c11b0 : decide (x22_2 < (l1.length : Int)) = true := decide_eq_true c11
                  clear c11
                  by_cases c12 : x22_2 < (t554.length : Int)
                  · rw [if_pos c12] at H
                    have c12b0 : decide (x22_2 < (t554.length : Int)) = true := decide_eq_true c12
                    clear c12
                    replace H := Option.bind_eq_some_iff.mp H
                    obtain ⟨t559, A130, H⟩ := H
                    replace H : (if t559 = true then (impl_Encode.l0 k2 a0 l1 t554 l1 (l1.length : Int) (wrap64 (x22_2 + 1))) else (some (0, false))) = some (r1, r2) := H
                    have A13 := Aside0.mk A130
                    clear A130
                    by_cases c14 : t559 = true
                    · subst c14
                      have H1 : (impl_Encode.l0 k2 a0 l1 t554 l1 (l1.length : Int) (wrap64 (x22_2 + 1))) = some (r1, r2) := by rw [if_pos rfl] at H; exact H
                      clear H
                      have H := H1
                      clear H1
                      have H' := Aside0.mk H
                      clear H
                      have p557 : 0 ≤ (x22_2 : Int) := of_decide_eq_true (by first | (with_reducible assumption) | assumption)
                      have q557 : x22_2 < (l1.length : Int) := of_decide_eq_true (by first | (with_reducible assumption) | assumption)
                      obtain ⟨ad557, e557, hx557_0⟩ := Kd.at_int HR1.out x22_2 p557 q557
                      cases e557
                      replace hx557_0 := (HB.out.cell (World.block_lt_of_cell? w _ hx557_0)).trans hx557_0
                      replace p557 := eq_true p557
                      replace q557 := eq_true q557
                      obtain ⟨Ao15, co15, eo15⟩ := Kd.R_slice HO_6.out
                      subst eo15
                      have p558 : 0 ≤ (x22_2 : Int) := of_decide_eq_true (by first | (with_reducible assumption) | assumption)
                      have q558 : x22_2 < (t554.length : Int) := of_decide_eq_true (by first | (with_reducible assumption) | assumption)
                      obtain ⟨ad558, e558, hx558_0⟩ := Kd.at_int (Kd.R_reads' HO_6.out).2.2 x22_2 p558 q558
                      cases e558
                      replace p558 := eq_true p558
                      replace q558 := eq_true q558
                      go_wp2_with (first | ((with_reducible refine gate_callee (f := 21) rfl ?_); refine goesL_ (some 32) rfl rfl Try.func21 (by kernel_rfl) rfl #[.int .i64 (rd l1 x22_2), .int .i64 (rd t554 x22_2)] rfl (by (try simp only [List.map_toArray, List.map_cons, List.map_nil]); first | done | rfl | (simp only [List.length_drop, List.length_take]; rfl)) ?_; (with_reducible refine (impl_within.calls (rd l1 x22_2) (rd t554 x22_2) true _ A13.out).mono ?_); rintro e w' ⟨rfl, ⟨nd, rfl⟩⟩; refine ⟨_, rfl, ?_⟩))
                      go_roundg k2
                      case measure => have := HJ3.out; have := HK2.out; omega
                      case rel => exact ⟨(wrap64 (x22_2 + 1)), (by first | rfl | (simp; done) | (simp [*]; done)), H', ⟨by have := HJ3.out; have := HK2.out; omega⟩, ⟨by (with_reducible repeat (first | apply Kd.R_alloc | apply Kd.R_drewN | apply Kd.R_drew)); exact HO_6.out⟩, ⟨by repeat (first | (with_reducible first | exact HB.out | apply below_alloc | apply pw_below_drewN | apply below_drew1) | exact HB.out)⟩⟩
                    · replace c14 := Bool.eq_false_iff.mpr c14
                      subst c14
                      have H1 : (some (0, false)) = some (r1, r2) := by rw [if_neg (show ¬ (false = true) by decide)] at H; exact H
                      clear H
                      have H := H1
                      clear H1
                      simp only [Option.some.injEq, Prod.mk.injEq] at H
                      obtain ⟨rfl, rfl⟩ := H
                      have p557 : 0 ≤ (x22_2 : Int) := of_decide_eq_true (by first | (with_reducible assumption) | assumption)
                      have q557 : x22_2 < (l1.length : Int) := of_decide_eq_true (by first | (with_reducible assumption) | assumption)
                      obtain ⟨ad557, e557, hx557_0⟩ := Kd.at_int HR1.out x22_2 p557 q557
                      cases e557
                      replace hx557_0 := (HB.out.cell (World.block_lt_of_cell? w _ hx557_0)).trans hx557_0
                      replace p557 := eq_true p557
                      replace q557 := eq_true q557
                      obtain ⟨Ao16, co16, eo16⟩ := Kd.R_slice HO_6.out
                      subst eo16
                      have p558 : 0 ≤ (x22_2 : Int) := of_decide_eq_true (by first | (with_reducible assumption) | assumption)
                      have q558 : x22_2 < (t554.length : Int) := of_decide_eq_true (by first | (with_reducible assumption) | assumption)
                      obtain ⟨ad558, e558, hx558_0⟩ := Kd.at_int (Kd.R_reads' HO_6.out).2.2 x22_2 p558 q558
                      cases e558
                      replace p558 := eq_true p558
                      replace q558 := eq_true q558
                      go_wp2_with (first | ((with_reducible refine gate_callee (f := 21) rfl ?_); refine goesL_ (some 32) rfl rfl Try.func21 (by kernel_rfl) rfl #[.int .i64 (rd l1 x22_2), .int .i64 (rd t554 x22_2)] rfl (by (try simp only [List.map_toArray, List.map_cons, List.map_nil]); first | done | rfl | (simp only [List.length_drop, List.length_take]; rfl)) ?_; (with_reducible refine (impl_within.calls (rd l1 x22_2) (rd t554 x22_2) false _ A13.out).mono ?_); rintro e w' ⟨rfl, ⟨nd, rfl⟩⟩; refine ⟨_, rfl, ?_⟩))
                      go_ret2
                      exact ⟨by first | rfl | (simp [errW_none, errW_some] <;> rfl) | (simp [*, errW_none, errW_some] <;> rfl), by repeat (first | (with_reducible first | exact HB.out | apply below_alloc | apply pw_below_drewN | apply below_drew1) | exact HB.out)⟩
                  · rw [if_neg c12] at H
                    exact absurd H (by simp)
                · rw [if_neg c11] at H
                  exact absurd H (by simp)
              · rw [if_neg c10] at H
                exact absurd H (by simp)
            · rw [if_neg c9] at H
              have c9b0 : decide (x22_2 < (l1.length : Int)) = false := decide_eq_false c9
              clear c9
              replace H := Option.bind_eq_some_iff.mp H
              obtain ⟨t560, A170, H⟩ := H
              replace H : (some (t560, true)) = some (r1, r2) := H
              have A17 := Aside0.mk A170
              clear A170
              simp only [Option.some.injEq, Prod.mk.injEq] at H
              obtain ⟨rfl, rfl⟩ := H
              go_wp2_with (first | ((with_reducible refine gate_callee (f := 22) rfl ?_); refine goesL_ (some 37) rfl rfl Try.func22 (by kernel_rfl) rfl #[.string a0, .slice A1 l1.length c1] rfl (by (try simp only [List.map_toArray, List.map_cons, List.map_nil]); first | done | rfl | (simp only [List.length_drop, List.length_take]; rfl)) ?_; (with_reducible refine (impl_encoded.calls a0 _ _ l1 t560 _ ?side1 ?side2 A17.out).mono ?_); (case side1 => repeat (first | exact (Kd.C_below HR1.out HB.out) | (with_reducible refine Kd.C_alloc ?_ _) | (with_reducible refine Kd.C_drewN ?_ _) | (with_reducible refine Kd.C_drew ?_))); (case side2 => exact HC1.out); rintro e w' ⟨rfl, ⟨nd, rfl⟩⟩; refine ⟨_, rfl, ?_⟩))
              go_ret2
              exact ⟨by first | rfl | (simp [errW_none, errW_some] <;> rfl) | (simp [*, errW_none, errW_some] <;> rfl), by repeat (first | (with_reducible first | exact HB.out | apply below_alloc | apply pw_below_drewN | apply below_drew1) | exact HB.out)⟩

set_option maxHeartbeats 8000000 in
set_option maxRecDepth 100000 in
theorem impl_Encode.calls_nil (k : Nat) (a0 : ByteArray) (A1 : Option Addr) (c1 : Nat) (l1 : List Int) (r1 : Int) (r2 : Bool) (w : World) (hb0 : impl_bounds.f a0 = some []) (h : impl_Encode.f k a0 l1 = some (r1, r2)) :
    Calls Try.prog 13 #[.string a0, .slice A1 l1.length c1] w fun e w' => e = .returned (.tuple #[.int .u32 r1, .bool r2]) ∧ Below w.heap.size w w' := by
  have HB := Aside0.mk (Below.refl w.heap.size w)
  have A3 := Aside0.mk hb0
  unfold impl_Encode.f at h
  rw [hb0] at h
  simp only [Option.bind_some, List.length_nil, if_true] at h
  cases k with
  | zero => exact absurd h (by simp [impl_Encode.j0])
  | succ k =>
    simp only [impl_Encode.j0, if_true, Option.some.injEq, Prod.mk.injEq] at h
    obtain ⟨rfl, rfl⟩ := h
    clear hb0
    have hsn : ∀ (w : World) (a : Option Addr) (n c : Nat), (binOp .eql 22 (.slice a n c) (.slice none 0 0)).run Try.prog w = .ok (.bool a.isNone) w := fun w a n c => Lib.run_eql_slice_nil w 22 3 a n c 0 0 Try.underlying22
    go_enter Try.func13, Try.ntmps13
    go_wp2_with (first | ((with_reducible refine gate_callee (f := 20) rfl ?_); refine goesL_ (some 10) rfl rfl Try.func20 (by kernel_rfl) rfl #[.string a0] rfl (by (try simp only [List.map_toArray, List.map_cons, List.map_nil]); first | done | rfl | (simp only [List.length_drop, List.length_take]; rfl)) ?_; (with_reducible refine (impl_bounds.nil_calls a0 _ A3.out).mono ?_); rintro e w5 ⟨rfl, hb⟩; refine ⟨_, rfl, ?_⟩; have n1_ := Aside0.mk (below_step (by repeat (first | (with_reducible first | exact HB.out | apply below_alloc | apply pw_below_drewN | apply below_drew1) | exact HB.out)) hb); clear HB; have HB := n1_; clear n1_; clear hb))
    go_ret2
    exact ⟨by first | rfl | (simp [errW_none, errW_some] <;> rfl) | (simp [*, errW_none, errW_some] <;> rfl), by repeat (first | (with_reducible first | exact HB.out | apply below_alloc | apply pw_below_drewN | apply below_drew1) | exact HB.out)⟩

theorem impl_Encode.calls (k : Nat) (a0 : ByteArray) (A1 : Option Addr) (c1 : Nat) (l1 : List Int) (r1 : Int) (r2 : Bool) (w : World) (hr1 : Kd.C (Kd.int .i64) w A1 l1.length l1) (hc1 : l1.length ≤ c1) (h : impl_Encode.f k a0 l1 = some (r1, r2)) :
    Calls Try.prog 13 #[.string a0, .slice A1 l1.length c1] w fun e w' => e = .returned (.tuple #[.int .u32 r1, .bool r2]) ∧ Below w.heap.size w w' := by
  by_cases hb0 : impl_bounds.f a0 = some []
  · exact impl_Encode.calls_nil k a0 A1 c1 l1 r1 r2 w hb0 h
  · exact impl_Encode.calls_some k a0 A1 c1 l1 r1 r2 w hr1 hc1 hb0 h

end Go.Proofs.Ytnfkdmoblncclaa.X
