/- A word of a code and fields by the reference. -/
import Derived.Test.YtnfkdmoblncclaaXPut
namespace Go.Proofs.Ytnfkdmoblncclaa.X
open Go.RowKit Go.Proofs.YtnfkdmoblncclaaW.PrintWords Go.Proofs.YtnfkdmoblncclaaW.PrintLast Go.Proofs.YtnfkdmoblncclaaW.PrintMore
attribute [local go_sem] max2_int min2_int max_two min_two max_three min_three max_four min_four   -- for this text's walks alone
set_option linter.unusedVariables false
set_option linter.unusedSimpArgs false

/-! ### spec_Word: function 12 -/
def spec_Word.l0 : Nat → Int → List Int → Int → ByteArray → ByteArray → Option (Int × Bool)
 | 0, _, _, _, _, _ => none
 | k + 1, x1, x2, x8, x680000, x680001 => if x8 < (x2.length : Int) then (if 0 ≤ x8 then (if (rd x2 x8) < 0 then (some (0, false)) else (if x8 < (x680001.size : Int) then ((spec_Size.f k (bt x680001 x8)).bind fun t682 => (if 0 ≤ t682 then (if (rd x2 x8) ≥ (shl .i64 1 t682) then (some (0, false)) else ((spec_Put.f k (rd x2 x8) (bt x680001 x8)).bind fun t684 => (spec_Word.l0 k (Go.bits .or .u32 x1 t684) x2 (wrap64 (x8 + 1)) x680000 x680001))) else (none))) else (none))) else (none)) else (some (x1, true))
def spec_Word.f (k : Nat) (a0_0 : ByteArray) (a0_1 : ByteArray) (a1 : Int) (l2 : List Int) : Option (Int × Bool) := if (l2.length : Int) = (a0_1.size : Int) then (spec_Word.l0 k a1 l2 0 a0_0 a0_1) else (some (0, false))
set_option maxHeartbeats 8000000 in
set_option maxRecDepth 100000 in
theorem spec_Word.calls (k : Nat) (a0_0 : ByteArray) (a0_1 : ByteArray) (a1 : Int) (A2 : Option Addr) (c2 : Nat) (l2 : List Int) (r1 : Int) (r2 : Bool) (w : World) (hr2 : Kd.C (Kd.int .i64) w A2 l2.length l2) (hc2 : l2.length ≤ c2) (h : spec_Word.f k a0_0 a0_1 a1 l2 = some (r1, r2)) :
  Calls Try.prog 12 #[.agg #[.string a0_0, .string a0_1], .int .u32 a1, .slice A2 l2.length c2] w fun e w' => e = .returned (.tuple #[.int .u32 r1, .bool r2]) ∧ Below w.heap.size w w' := by
 have hu29 := Try.underlying29
 have HR2 := Aside0.mk hr2
 have HC2 := Aside0.mk hc2
 clear hr2 hc2
 have HB := Aside0.mk (Below.refl w.heap.size w)
 have H : (if (l2.length : Int) = (a0_1.size : Int) then (spec_Word.l0 k a1 l2 0 a0_0 a0_1) else (some (0, false))) = some (r1, r2) := h
 clear h
 by_cases c4 : (l2.length : Int) = (a0_1.size : Int)
 ·rw [if_pos c4] at H
  have c4b0 : ((l2.length : Int) == (a0_1.size : Int)) = true := beq_iff_eq.mpr c4
  have c4b1 : ((l2.length : Int) != (a0_1.size : Int)) = false := bne_eq_false_iff_eq.mpr c4
  have c4b2 : (l2.length == a0_1.size) = true := by first | simpa using c4 | (simp at c4 ⊢; omega)
  clear c4
  have H' := Aside0.mk H
  clear H
  go_enter Try.func12, Try.ntmps12
  go_wp2_with (first | ((with_reducible refine gate_dst (N := 3) rfl ?_); refine box_event ?hg (N := 3) ?hd (cs := #[.string a0_0, .string a0_1]) (t := 29) ?hr ?_; (case hd => rfl); (case hg => rfl); (case hr => first | (go_simp; done) | (go_simp; rfl)); intro gb679 hg w5 hbox hb; have n0_ := Aside0.mk (below_step (by repeat (first | (with_reducible first | exact HB.out | apply below_alloc | apply pw_below_drewN | apply below_drew1) | exact HB.out)) hb); have n1_ := Aside0.mk (hbox); have n2_ := Aside0.mk ((by rw [hg]; exact (below_size (by repeat (first | (with_reducible first | exact HB.out | apply below_alloc | apply pw_below_drewN | apply below_drew1) | exact HB.out))) : w.heap.size ≤ gb679)); have n3_ := Aside0.mk ((by rw [hg]; exact (below_size (by repeat (first | (with_reducible first | exact HB.out | apply below_alloc | apply pw_below_drewN | apply below_drew1) | exact HB.out))) : w.heap.size ≤ gb679)); clear HB; have HB := n0_; have BK679 := n1_; have GW679 := n2_; have GE679 := n3_; clear n0_ n1_ n2_ n3_; clear hb hbox hg; have hcz6_0 : w5.cell? ⟨gb679, 0, none⟩ = some (.string a0_0) := (blk_cell BK679.out 0).trans rfl; have hcz6_1 : w5.cell? ⟨gb679, 1, none⟩ = some (.string a0_1) := (blk_cell BK679.out 1).trans rfl; have hfz6_0 := blk_frozen BK679.out 0; have hfz6_1 := blk_frozen BK679.out 1))
  repeat (go_quiet (first | ((with_reducible refine gate_dst (N := 3) rfl ?_); refine box_event ?hg (N := 3) ?hd (cs := #[.string a0_0, .string a0_1]) (t := 29) ?hr ?_; (case hd => rfl); (case hg => rfl); (case hr => first | (go_simp; done) | (go_simp; rfl)); intro gb679 hg w5 hbox hb; have n0_ := Aside0.mk (below_step (by repeat (first | (with_reducible first | exact HB.out | apply below_alloc | apply pw_below_drewN | apply below_drew1) | exact HB.out)) hb); have n1_ := Aside0.mk (hbox); have n2_ := Aside0.mk ((by rw [hg]; exact (below_size (by repeat (first | (with_reducible first | exact HB.out | apply below_alloc | apply pw_below_drewN | apply below_drew1) | exact HB.out))) : w.heap.size ≤ gb679)); have n3_ := Aside0.mk ((by rw [hg]; exact (below_size (by repeat (first | (with_reducible first | exact HB.out | apply below_alloc | apply pw_below_drewN | apply below_drew1) | exact HB.out))) : w.heap.size ≤ gb679)); clear HB; have HB := n0_; have BK679 := n1_; have GW679 := n2_; have GE679 := n3_; clear n0_ n1_ n2_ n3_; clear hb hbox hg; have hcz6_0 : w5.cell? ⟨gb679, 0, none⟩ = some (.string a0_0) := (blk_cell BK679.out 0).trans rfl; have hcz6_1 : w5.cell? ⟨gb679, 1, none⟩ = some (.string a0_1) := (blk_cell BK679.out 1).trans rfl; have hfz6_0 := blk_frozen BK679.out 0; have hfz6_1 := blk_frozen BK679.out 1)); try go_wp2_with (first | ((with_reducible refine gate_dst (N := 3) rfl ?_); refine box_event ?hg (N := 3) ?hd (cs := #[.string a0_0, .string a0_1]) (t := 29) ?hr ?_; (case hd => rfl); (case hg => rfl); (case hr => first | (go_simp; done) | (go_simp; rfl)); intro gb679 hg w5 hbox hb; have n0_ := Aside0.mk (below_step (by repeat (first | (with_reducible first | exact HB.out | apply below_alloc | apply pw_below_drewN | apply below_drew1) | exact HB.out)) hb); have n1_ := Aside0.mk (hbox); have n2_ := Aside0.mk ((by rw [hg]; exact (below_size (by repeat (first | (with_reducible first | exact HB.out | apply below_alloc | apply pw_below_drewN | apply below_drew1) | exact HB.out))) : w.heap.size ≤ gb679)); have n3_ := Aside0.mk ((by rw [hg]; exact (below_size (by repeat (first | (with_reducible first | exact HB.out | apply below_alloc | apply pw_below_drewN | apply below_drew1) | exact HB.out))) : w.heap.size ≤ gb679)); clear HB; have HB := n0_; have BK679 := n1_; have GW679 := n2_; have GE679 := n3_; clear n0_ n1_ n2_ n3_; clear hb hbox hg; have hcz6_0 : w5.cell? ⟨gb679, 0, none⟩ = some (.string a0_0) := (blk_cell BK679.out 0).trans rfl; have hcz6_1 : w5.cell? ⟨gb679, 1, none⟩ = some (.string a0_1) := (blk_cell BK679.out 1).trans rfl; have hfz6_0 := blk_frozen BK679.out 0; have hfz6_1 := blk_frozen BK679.out 1)))
  go_loopg [1, 8] k (fun kq v1 v8 w' => ∃ (x1_1 : Int) (x8_1 : Int), v1 = .int .u32 x1_1 ∧ v8 = .int .i64 x8_1 ∧ Aside0 (spec_Word.l0 kq x1_1 l2 x8_1 a0_0 a0_1 = some (r1, r2)) ∧ Aside0 (kq ≤ k) ∧ Aside0 (w'.heap[gb679]? = some (.cells #[.string a0_0, .string a0_1] 29 (0, 0))) ∧ Aside0 (Below w.heap.size w w'))
  case atStart => exact ⟨(a1), (0), (by first | rfl | (simp; done) | (simp [*]; done)), (by first | rfl | (simp; done) | (simp [*]; done)), H', ⟨Nat.le_refl _⟩, ⟨by (with_reducible repeat (first | refine blk_drewN ?_ _ | refine blk_drew ?_ | refine blk_alloc ?_ _)); exact BK679.out⟩, ⟨by repeat (first | (with_reducible first | exact HB.out | apply below_alloc | apply pw_below_drewN | apply below_drew1 | refine below_set ?_ GE679.out) | exact HB.out)⟩⟩
  case round =>
   clear H'
   try clear c1
   try clear c2
   try clear p2
   try clear c4
   try clear c4b0
   try clear c4b1
   try clear c4b2
   try clear hcz6_0
   try clear hcz6_1
   try clear hfz6_0
   try clear hfz6_1
   obtain ⟨x1_1, x8_1, rfl, rfl, HA, HK1, BK679, HB⟩ := hrel
   cases gk with
   | zero => exact absurd HA.out (by simp [spec_Word.l0])
   | succ k1 =>
    have H := HA.out
    clear HA
    simp only [spec_Word.l0] at H
    by_cases c7 : x8_1 < (l2.length : Int)
    ·rw [if_pos c7] at H
     have c7b0 : decide (x8_1 < (l2.length : Int)) = true := decide_eq_true c7
     clear c7
     by_cases c8 : 0 ≤ x8_1
     ·rw [if_pos c8] at H
      have c8b0 : decide (0 ≤ x8_1) = true := decide_eq_true c8
      clear c8
      by_cases c9 : (rd l2 x8_1) < 0
      ·rw [if_pos c9] at H
       have c9b0 : decide ((rd l2 x8_1) < 0) = true := decide_eq_true c9
       clear c9
       simp only [Option.some.injEq, Prod.mk.injEq] at H
       obtain ⟨rfl, rfl⟩ := H
       have p680 : 0 ≤ (x8_1 : Int) := of_decide_eq_true (by first | (with_reducible assumption) | assumption)
       have q680 : x8_1 < (l2.length : Int) := of_decide_eq_true (by first | (with_reducible assumption) | assumption)
       obtain ⟨ad680, e680, hx680_0⟩ := Kd.at_int HR2.out x8_1 p680 q680
       cases e680
       replace hx680_0 := (HB.out.cell (World.block_lt_of_cell? w _ hx680_0)).trans hx680_0
       replace p680 := eq_true p680
       replace q680 := eq_true q680
       go_wp2
       repeat (go_quiet (fail); try go_wp2)
       go_ret2
       exact ⟨by first | rfl | (simp [errW_none, errW_some] <;> rfl) | (simp [*, errW_none, errW_some] <;> rfl), by repeat (first | (with_reducible first | exact HB.out | apply below_alloc | apply pw_below_drewN | apply below_drew1 | refine below_set ?_ GE679.out) | exact HB.out)⟩
      ·rw [if_neg c9] at H
       have c9b0 : decide ((rd l2 x8_1) < 0) = false := decide_eq_false c9
       clear c9
       by_cases c10 : x8_1 < (a0_1.size : Int)
       ·rw [if_pos c10] at H
        have c10b0 : decide (x8_1 < (a0_1.size : Int)) = true := decide_eq_true c10
        clear c10
        replace H := Option.bind_eq_some_iff.mp H
        obtain ⟨t682, A120, H⟩ := H
        replace H : (if 0 ≤ t682 then (if (rd l2 x8_1) ≥ (shl .i64 1 t682) then (some (0, false)) else ((spec_Put.f k1 (rd l2 x8_1) (bt a0_1 x8_1)).bind fun t684 => (spec_Word.l0 k1 (Go.bits .or .u32 x1_1 t684) l2 (wrap64 (x8_1 + 1)) a0_0 a0_1))) else (none)) = some (r1, r2) := H
        have A12 := Aside0.mk A120
        clear A120
        by_cases c13 : 0 ≤ t682
        ·rw [if_pos c13] at H
         have c13b0 := eq_true c13
         have c13b1 : decide (0 ≤ t682) = true := decide_eq_true c13
         clear c13
         obtain ⟨ji14, hji14⟩ : ∃ j_ : Int, (shl .i64 1 t682) = j_ := ⟨_, rfl⟩
         replace H : (if (rd l2 x8_1) ≥ (ji14) then (some (0, false)) else ((spec_Put.f k1 (rd l2 x8_1) (bt a0_1 x8_1)).bind fun t684 => (spec_Word.l0 k1 (Go.bits .or .u32 x1_1 t684) l2 (wrap64 (x8_1 + 1)) a0_0 a0_1))) = some (r1, r2) := by first | (rw [hji14] at H; exact H) | (simp only [hji14] at H ⊢; exact H)
         (try rw [hji14] at A12)
         have hji14_ : (IntKind.i64.wrap (1 * 2 ^ min t682.toNat 64)) = ji14 := hji14
         have hji14z : t682 ≤ 64 → (IntKind.i64.wrap (1 * 2 ^ t682.toNat)) = ji14 := shl_small hji14
         have hji14u : (IntKind.i64.wrap (2 ^ min t682.toNat 64)) = ji14 := by have h_ := hji14_; rw [Int.one_mul] at h_; exact h_
         have hji14v : t682 ≤ 64 → (IntKind.i64.wrap (2 ^ t682.toNat)) = ji14 := fun hle_ => by have h_ := hji14z hle_; rw [Int.one_mul] at h_; exact h_
         have hji14y : (wrap64 (1 * 2 ^ min t682.toNat 64)) = ji14 := (i64_w _).symm.trans hji14_
         have hji14x : t682 ≤ 64 → (wrap64 (1 * 2 ^ t682.toNat)) = ji14 := fun h_ => (i64_w _).symm.trans (hji14z h_)
         by_cases c15 : (rd l2 x8_1) ≥ (ji14)
         ·rw [if_pos c15] at H
          have c15b0 : decide ((ji14) ≤ (rd l2 x8_1)) = true := decide_eq_true c15
          clear c15
          simp only [Option.some.injEq, Prod.mk.injEq] at H
          obtain ⟨rfl, rfl⟩ := H
          have p680 : 0 ≤ (x8_1 : Int) := of_decide_eq_true (by first | (with_reducible assumption) | assumption)
          have q680 : x8_1 < (l2.length : Int) := of_decide_eq_true (by first | (with_reducible assumption) | assumption)
          obtain ⟨ad680, e680, hx680_0⟩ := Kd.at_int HR2.out x8_1 p680 q680
          cases e680
          replace hx680_0 := (HB.out.cell (World.block_lt_of_cell? w _ hx680_0)).trans hx680_0
          replace p680 := eq_true p680
          replace q680 := eq_true q680
          have p681 : 0 ≤ (x8_1 : Int) := of_decide_eq_true (by first | (with_reducible assumption) | assumption)
          have q681 : x8_1 < (l2.length : Int) := of_decide_eq_true (by first | (with_reducible assumption) | assumption)
          obtain ⟨ad681, e681, hx681_0⟩ := Kd.at_int HR2.out x8_1 p681 q681
          obtain rfl : ad680 = ad681 := (by injection e681)
          replace hx681_0 := (HB.out.cell (World.block_lt_of_cell? w _ hx681_0)).trans hx681_0
          replace p681 := eq_true p681
          replace q681 := eq_true q681
          have hcz16_0 : wr.cell? ⟨gb679, 0, none⟩ = some (.string a0_0) := (blk_cell BK679.out 0).trans rfl
          have hcz16_1 : wr.cell? ⟨gb679, 1, none⟩ = some (.string a0_1) := (blk_cell BK679.out 1).trans rfl
          have hfz16_0 := blk_frozen BK679.out 0
          have hfz16_1 := blk_frozen BK679.out 1
          have p11 : 0 ≤ (x8_1 : Int) := of_decide_eq_true (by first | (with_reducible assumption) | assumption)
          have q11 : x8_1 < (a0_1.size : Int) := of_decide_eq_true (by first | (with_reducible assumption) | assumption)
          have hx11 := bt_at a0_1 x8_1
          replace p11 := eq_true p11
          replace q11 := eq_true q11
          go_wp2_with (first | (go_at_call 19; (with_reducible refine (spec_Size.calls k1 (bt a0_1 x8_1) t682 _ A12.out).mono ?_); rintro e w' ⟨rfl, ⟨nd, rfl⟩⟩; (try first | exact ⟨rfl, _, World.drewN_drewN _ _ _⟩ | exact ⟨rfl, _, Eq.trans (World.drewN_drewN _ _ _) (congrArg (World.drewN _) (Nat.add_assoc _ _ _))⟩)))
          repeat (go_quiet (first | (go_at_call 19; (with_reducible refine (spec_Size.calls k1 (bt a0_1 x8_1) t682 _ A12.out).mono ?_); rintro e w' ⟨rfl, ⟨nd, rfl⟩⟩; (try first | exact ⟨rfl, _, World.drewN_drewN _ _ _⟩ | exact ⟨rfl, _, Eq.trans (World.drewN_drewN _ _ _) (congrArg (World.drewN _) (Nat.add_assoc _ _ _))⟩))); try go_wp2_with (first | (go_at_call 19; (with_reducible refine (spec_Size.calls k1 (bt a0_1 x8_1) t682 _ A12.out).mono ?_); rintro e w' ⟨rfl, ⟨nd, rfl⟩⟩; (try first | exact ⟨rfl, _, World.drewN_drewN _ _ _⟩ | exact ⟨rfl, _, Eq.trans (World.drewN_drewN _ _ _) (congrArg (World.drewN _) (Nat.add_assoc _ _ _))⟩))))
          go_ret2
          exact ⟨by first | rfl | (simp [errW_none, errW_some] <;> rfl) | (simp only [← hji14]; first | rfl | (simp [errW_none, errW_some] <;> rfl)) | (simp [*, errW_none, errW_some] <;> rfl), by repeat (first | (with_reducible first | exact HB.out | apply below_alloc | apply pw_below_drewN | apply below_drew1 | refine below_set ?_ GE679.out) | exact HB.out)⟩
         ·rw [if_neg c15] at H
          have c15b0 : decide ((ji14) ≤ (rd l2 x8_1)) = false := decide_eq_false c15
          clear c15
          replace H := Option.bind_eq_some_iff.mp H
          obtain ⟨t684, A180, H⟩ := H
          replace H : (spec_Word.l0 k1 (Go.bits .or .u32 x1_1 t684) l2 (wrap64 (x8_1 + 1)) a0_0 a0_1) = some (r1, r2) := H
          have A18 := Aside0.mk A180
          clear A180
          have H' := Aside0.mk H
          clear H
          have p680 : 0 ≤ (x8_1 : Int) := of_decide_eq_true (by first | (with_reducible assumption) | assumption)
          have q680 : x8_1 < (l2.length : Int) := of_decide_eq_true (by first | (with_reducible assumption) | assumption)
          obtain ⟨ad680, e680, hx680_0⟩ := Kd.at_int HR2.out x8_1 p680 q680
          cases e680
          replace hx680_0 := (HB.out.cell (World.block_lt_of_cell? w _ hx680_0)).trans hx680_0
          replace p680 := eq_true p680
          replace q680 := eq_true q680
          have p681 : 0 ≤ (x8_1 : Int) := of_decide_eq_true (by first | (with_reducible assumption) | assumption)
          have q681 : x8_1 < (l2.length : Int) := of_decide_eq_true (by first | (with_reducible assumption) | assumption)
          obtain ⟨ad681, e681, hx681_0⟩ := Kd.at_int HR2.out x8_1 p681 q681
          obtain rfl : ad680 = ad681 := (by injection e681)
          replace hx681_0 := (HB.out.cell (World.block_lt_of_cell? w _ hx681_0)).trans hx681_0
          replace p681 := eq_true p681
          replace q681 := eq_true q681
          have hcz19_0 : wr.cell? ⟨gb679, 0, none⟩ = some (.string a0_0) := (blk_cell BK679.out 0).trans rfl
          have hcz19_1 : wr.cell? ⟨gb679, 1, none⟩ = some (.string a0_1) := (blk_cell BK679.out 1).trans rfl
          have hfz19_0 := blk_frozen BK679.out 0
          have hfz19_1 := blk_frozen BK679.out 1
          have p11 : 0 ≤ (x8_1 : Int) := of_decide_eq_true (by first | (with_reducible assumption) | assumption)
          have q11 : x8_1 < (a0_1.size : Int) := of_decide_eq_true (by first | (with_reducible assumption) | assumption)
          have hx11 := bt_at a0_1 x8_1
          replace p11 := eq_true p11
          replace q11 := eq_true q11
          go_wp2_with (first | (go_at_call 19; (with_reducible refine (spec_Size.calls k1 (bt a0_1 x8_1) t682 _ A12.out).mono ?_); rintro e w' ⟨rfl, ⟨nd, rfl⟩⟩; (try first | exact ⟨rfl, _, World.drewN_drewN _ _ _⟩ | exact ⟨rfl, _, Eq.trans (World.drewN_drewN _ _ _) (congrArg (World.drewN _) (Nat.add_assoc _ _ _))⟩); have p683 : 0 ≤ (x8_1 : Int) := of_decide_eq_true (by first | (with_reducible assumption) | assumption); have q683 : x8_1 < (l2.length : Int) := of_decide_eq_true (by first | (with_reducible assumption) | assumption); obtain ⟨ad683, e683, hx683_0⟩ := Kd.at_int HR2.out x8_1 p683 q683; obtain rfl : ad680 = ad683 := (by injection e683); replace hx683_0 := (HB.out.cell (World.block_lt_of_cell? w _ hx683_0)).trans hx683_0; replace p683 := eq_true p683; replace q683 := eq_true q683; have p17 : 0 ≤ (x8_1 : Int) := of_decide_eq_true (by first | (with_reducible assumption) | assumption); have q17 : x8_1 < (a0_1.size : Int) := of_decide_eq_true (by first | (with_reducible assumption) | assumption); have hx17 := bt_at a0_1 x8_1; replace p17 := eq_true p17; replace q17 := eq_true q17) | (go_at_call 18; (with_reducible refine (spec_Put.calls k1 (rd l2 x8_1) (bt a0_1 x8_1) t684 _ A18.out).mono ?_); rintro e w' ⟨rfl, ⟨nd, rfl⟩⟩; (try first | exact ⟨rfl, _, World.drewN_drewN _ _ _⟩ | exact ⟨rfl, _, Eq.trans (World.drewN_drewN _ _ _) (congrArg (World.drewN _) (Nat.add_assoc _ _ _))⟩)))
          repeat (go_quiet (first | (go_at_call 19; (with_reducible refine (spec_Size.calls k1 (bt a0_1 x8_1) t682 _ A12.out).mono ?_); rintro e w' ⟨rfl, ⟨nd, rfl⟩⟩; (try first | exact ⟨rfl, _, World.drewN_drewN _ _ _⟩ | exact ⟨rfl, _, Eq.trans (World.drewN_drewN _ _ _) (congrArg (World.drewN _) (Nat.add_assoc _ _ _))⟩); have p683 : 0 ≤ (x8_1 : Int) := of_decide_eq_true (by first | (with_reducible assumption) | assumption); have q683 : x8_1 < (l2.length : Int) := of_decide_eq_true (by first | (with_reducible assumption) | assumption); obtain ⟨ad683, e683, hx683_0⟩ := Kd.at_int HR2.out x8_1 p683 q683; obtain rfl : ad680 = ad683 := (by injection e683); replace hx683_0 := (HB.out.cell (World.block_lt_of_cell? w _ hx683_0)).trans hx683_0; replace p683 := eq_true p683; replace q683 := eq_true q683; have p17 : 0 ≤ (x8_1 : Int) := of_decide_eq_true (by first | (with_reducible assumption) | assumption); have q17 : x8_1 < (a0_1.size : Int) := of_decide_eq_true (by first | (with_reducible assumption) | assumption); have hx17 := bt_at a0_1 x8_1; replace p17 := eq_true p17; replace q17 := eq_true q17) | (go_at_call 18; (with_reducible refine (spec_Put.calls k1 (rd l2 x8_1) (bt a0_1 x8_1) t684 _ A18.out).mono ?_); rintro e w' ⟨rfl, ⟨nd, rfl⟩⟩; (try first | exact ⟨rfl, _, World.drewN_drewN _ _ _⟩ | exact ⟨rfl, _, Eq.trans (World.drewN_drewN _ _ _) (congrArg (World.drewN _) (Nat.add_assoc _ _ _))⟩))); try go_wp2_with (first | (go_at_call 19; (with_reducible refine (spec_Size.calls k1 (bt a0_1 x8_1) t682 _ A12.out).mono ?_); rintro e w' ⟨rfl, ⟨nd, rfl⟩⟩; (try first | exact ⟨rfl, _, World.drewN_drewN _ _ _⟩ | exact ⟨rfl, _, Eq.trans (World.drewN_drewN _ _ _) (congrArg (World.drewN _) (Nat.add_assoc _ _ _))⟩); have p683 : 0 ≤ (x8_1 : Int) := of_decide_eq_true (by first | (with_reducible assumption) | assumption); have q683 : x8_1 < (l2.length : Int) := of_decide_eq_true (by first | (with_reducible assumption) | assumption); obtain ⟨ad683, e683, hx683_0⟩ := Kd.at_int HR2.out x8_1 p683 q683; obtain rfl : ad680 = ad683 := (by injection e683); replace hx683_0 := (HB.out.cell (World.block_lt_of_cell? w _ hx683_0)).trans hx683_0; replace p683 := eq_true p683; replace q683 := eq_true q683; have p17 : 0 ≤ (x8_1 : Int) := of_decide_eq_true (by first | (with_reducible assumption) | assumption); have q17 : x8_1 < (a0_1.size : Int) := of_decide_eq_true (by first | (with_reducible assumption) | assumption); have hx17 := bt_at a0_1 x8_1; replace p17 := eq_true p17; replace q17 := eq_true q17) | (go_at_call 18; (with_reducible refine (spec_Put.calls k1 (rd l2 x8_1) (bt a0_1 x8_1) t684 _ A18.out).mono ?_); rintro e w' ⟨rfl, ⟨nd, rfl⟩⟩; (try first | exact ⟨rfl, _, World.drewN_drewN _ _ _⟩ | exact ⟨rfl, _, Eq.trans (World.drewN_drewN _ _ _) (congrArg (World.drewN _) (Nat.add_assoc _ _ _))⟩))))
          go_roundg k1
          case measure => have := HK1.out; omega
          case rel => exact ⟨(Go.bits .or .u32 x1_1 t684), (wrap64 (x8_1 + 1)), (by first | rfl | (simp; done) | (simp [*]; done)), (by first | rfl | (simp; done) | (simp [*]; done)), H', ⟨by have := HK1.out; omega⟩, ⟨by (with_reducible repeat (first | refine blk_drewN ?_ _ | refine blk_drew ?_ | refine blk_alloc ?_ _)); exact BK679.out⟩, ⟨by repeat (first | (with_reducible first | exact HB.out | apply below_alloc | apply pw_below_drewN | apply below_drew1 | refine below_set ?_ GE679.out) | exact HB.out)⟩⟩
        ·rw [if_neg c13] at H
         exact absurd H (by simp)
       ·rw [if_neg c10] at H
        exact absurd H (by simp)
     ·rw [if_neg c8] at H
      exact absurd H (by simp)
    ·rw [if_neg c7] at H
     have c7b0 : decide (x8_1 < (l2.length : Int)) = false := decide_eq_false c7
     clear c7
     simp only [Option.some.injEq, Prod.mk.injEq] at H
     obtain ⟨rfl, rfl⟩ := H
     go_wp2
     repeat (go_quiet (fail); try go_wp2)
     go_ret2
     exact ⟨by first | rfl | (simp [errW_none, errW_some] <;> rfl) | (simp [*, errW_none, errW_some] <;> rfl), by repeat (first | (with_reducible first | exact HB.out | apply below_alloc | apply pw_below_drewN | apply below_drew1 | refine below_set ?_ GE679.out) | exact HB.out)⟩
 ·rw [if_neg c4] at H
  have c4b0 : ((l2.length : Int) == (a0_1.size : Int)) = false := beq_eq_false_iff_ne.mpr c4
  have c4b1 : ((l2.length : Int) != (a0_1.size : Int)) = true := bne_iff_ne.mpr c4
  have c4b2 : (l2.length == a0_1.size) = false := by first | simpa using c4 | (simp at c4 ⊢; omega)
  simp only [Option.some.injEq, Prod.mk.injEq] at H
  obtain ⟨rfl, rfl⟩ := H
  go_enter Try.func12, Try.ntmps12
  go_wp2_with (first | ((with_reducible refine gate_dst (N := 3) rfl ?_); refine box_event ?hg (N := 3) ?hd (cs := #[.string a0_0, .string a0_1]) (t := 29) ?hr ?_; (case hd => rfl); (case hg => rfl); (case hr => first | (go_simp; done) | (go_simp; rfl)); intro gb679 hg w20 hbox hb; have n0_ := Aside0.mk (below_step (by repeat (first | (with_reducible first | exact HB.out | apply below_alloc | apply pw_below_drewN | apply below_drew1) | exact HB.out)) hb); have n1_ := Aside0.mk (hbox); have n2_ := Aside0.mk ((by rw [hg]; exact (below_size (by repeat (first | (with_reducible first | exact HB.out | apply below_alloc | apply pw_below_drewN | apply below_drew1) | exact HB.out))) : w.heap.size ≤ gb679)); have n3_ := Aside0.mk ((by rw [hg]; exact (below_size (by repeat (first | (with_reducible first | exact HB.out | apply below_alloc | apply pw_below_drewN | apply below_drew1) | exact HB.out))) : w.heap.size ≤ gb679)); clear HB; have HB := n0_; have BK679 := n1_; have GW679 := n2_; have GE679 := n3_; clear n0_ n1_ n2_ n3_; clear hb hbox hg; have hcz21_0 : w20.cell? ⟨gb679, 0, none⟩ = some (.string a0_0) := (blk_cell BK679.out 0).trans rfl; have hcz21_1 : w20.cell? ⟨gb679, 1, none⟩ = some (.string a0_1) := (blk_cell BK679.out 1).trans rfl; have hfz21_0 := blk_frozen BK679.out 0; have hfz21_1 := blk_frozen BK679.out 1))
  repeat (go_quiet (first | ((with_reducible refine gate_dst (N := 3) rfl ?_); refine box_event ?hg (N := 3) ?hd (cs := #[.string a0_0, .string a0_1]) (t := 29) ?hr ?_; (case hd => rfl); (case hg => rfl); (case hr => first | (go_simp; done) | (go_simp; rfl)); intro gb679 hg w20 hbox hb; have n0_ := Aside0.mk (below_step (by repeat (first | (with_reducible first | exact HB.out | apply below_alloc | apply pw_below_drewN | apply below_drew1) | exact HB.out)) hb); have n1_ := Aside0.mk (hbox); have n2_ := Aside0.mk ((by rw [hg]; exact (below_size (by repeat (first | (with_reducible first | exact HB.out | apply below_alloc | apply pw_below_drewN | apply below_drew1) | exact HB.out))) : w.heap.size ≤ gb679)); have n3_ := Aside0.mk ((by rw [hg]; exact (below_size (by repeat (first | (with_reducible first | exact HB.out | apply below_alloc | apply pw_below_drewN | apply below_drew1) | exact HB.out))) : w.heap.size ≤ gb679)); clear HB; have HB := n0_; have BK679 := n1_; have GW679 := n2_; have GE679 := n3_; clear n0_ n1_ n2_ n3_; clear hb hbox hg; have hcz21_0 : w20.cell? ⟨gb679, 0, none⟩ = some (.string a0_0) := (blk_cell BK679.out 0).trans rfl; have hcz21_1 : w20.cell? ⟨gb679, 1, none⟩ = some (.string a0_1) := (blk_cell BK679.out 1).trans rfl; have hfz21_0 := blk_frozen BK679.out 0; have hfz21_1 := blk_frozen BK679.out 1)); try go_wp2_with (first | ((with_reducible refine gate_dst (N := 3) rfl ?_); refine box_event ?hg (N := 3) ?hd (cs := #[.string a0_0, .string a0_1]) (t := 29) ?hr ?_; (case hd => rfl); (case hg => rfl); (case hr => first | (go_simp; done) | (go_simp; rfl)); intro gb679 hg w20 hbox hb; have n0_ := Aside0.mk (below_step (by repeat (first | (with_reducible first | exact HB.out | apply below_alloc | apply pw_below_drewN | apply below_drew1) | exact HB.out)) hb); have n1_ := Aside0.mk (hbox); have n2_ := Aside0.mk ((by rw [hg]; exact (below_size (by repeat (first | (with_reducible first | exact HB.out | apply below_alloc | apply pw_below_drewN | apply below_drew1) | exact HB.out))) : w.heap.size ≤ gb679)); have n3_ := Aside0.mk ((by rw [hg]; exact (below_size (by repeat (first | (with_reducible first | exact HB.out | apply below_alloc | apply pw_below_drewN | apply below_drew1) | exact HB.out))) : w.heap.size ≤ gb679)); clear HB; have HB := n0_; have BK679 := n1_; have GW679 := n2_; have GE679 := n3_; clear n0_ n1_ n2_ n3_; clear hb hbox hg; have hcz21_0 : w20.cell? ⟨gb679, 0, none⟩ = some (.string a0_0) := (blk_cell BK679.out 0).trans rfl; have hcz21_1 : w20.cell? ⟨gb679, 1, none⟩ = some (.string a0_1) := (blk_cell BK679.out 1).trans rfl; have hfz21_0 := blk_frozen BK679.out 0; have hfz21_1 := blk_frozen BK679.out 1)))
  go_ret2
  exact ⟨by first | rfl | (simp [errW_none, errW_some] <;> rfl) | (simp [*, errW_none, errW_some] <;> rfl), by repeat (first | (with_reducible first | exact HB.out | apply below_alloc | apply pw_below_drewN | apply below_drew1 | refine below_set ?_ GE679.out) | exact HB.out)⟩

end Go.Proofs.Ytnfkdmoblncclaa.X
