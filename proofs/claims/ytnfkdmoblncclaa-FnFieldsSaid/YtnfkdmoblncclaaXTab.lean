/- Each form: its bounds, its encoder, and what Encode comes to where its fields fit. -/
import Derived.Test.YtnfkdmoblncclaaXPureEnc
namespace Go.Proofs.Ytnfkdmoblncclaa.X
open Go.RowKit Go.Proofs.YtnfkdmoblncclaaW.PrintWords Go.Proofs.YtnfkdmoblncclaaW.PrintLast Go.Proofs.YtnfkdmoblncclaaW.PrintMore
attribute [local go_sem] max2_int min2_int max_two min_two max_three min_three max_four min_four   -- for this text's walks alone
set_option linter.unusedVariables false
set_option linter.unusedSimpArgs false

theorem below_2 {P : Nat → Prop} (h0 : P 0) (h1 : P 1) : ∀ j : Nat, j < 2 → P j := by
  intro j hj
  match j, hj with
  | 0, _ => exact h0
  | 1, _ => exact h1
theorem below_3 {P : Nat → Prop} (h0 : P 0) (h1 : P 1) (h2 : P 2) : ∀ j : Nat, j < 3 → P j := by
  intro j hj
  match j, hj with
  | 0, _ => exact h0
  | 1, _ => exact h1
  | 2, _ => exact h2
theorem below_4 {P : Nat → Prop} (h0 : P 0) (h1 : P 1) (h2 : P 2) (h3 : P 3) : ∀ j : Nat, j < 4 → P j := by
  intro j hj
  match j, hj with
  | 0, _ => exact h0
  | 1, _ => exact h1
  | 2, _ => exact h2
  | 3, _ => exact h3
theorem below_5 {P : Nat → Prop} (h0 : P 0) (h1 : P 1) (h2 : P 2) (h3 : P 3) (h4 : P 4) : ∀ j : Nat, j < 5 → P j := by
  intro j hj
  match j, hj with
  | 0, _ => exact h0
  | 1, _ => exact h1
  | 2, _ => exact h2
  | 3, _ => exact h3
  | 4, _ => exact h4
theorem below_6 {P : Nat → Prop} (h0 : P 0) (h1 : P 1) (h2 : P 2) (h3 : P 3) (h4 : P 4) (h5 : P 5) : ∀ j : Nat, j < 6 → P j := by
  intro j hj
  match j, hj with
  | 0, _ => exact h0
  | 1, _ => exact h1
  | 2, _ => exact h2
  | 3, _ => exact h3
  | 4, _ => exact h4
  | 5, _ => exact h5
theorem w_m26 (a : Int) : impl_within.f a (-26) = some (decide ((-33554432) ≤ a) && decide (a < 67108864)) := rfl
theorem w1_m26 {a : Int} (h0 : (-33554432) ≤ a) (h1 : a < 67108864) : impl_within.f a (-26) = some true := by rw [w_m26, decide_eq_true h0, decide_eq_true h1]; rfl
theorem w_m16 (a : Int) : impl_within.f a (-16) = some (decide ((-32768) ≤ a) && decide (a < 65536)) := rfl
theorem w1_m16 {a : Int} (h0 : (-32768) ≤ a) (h1 : a < 65536) : impl_within.f a (-16) = some true := by rw [w_m16, decide_eq_true h0, decide_eq_true h1]; rfl
theorem w_m5 (a : Int) : impl_within.f a (-5) = some (decide ((-16) ≤ a) && decide (a < 32)) := rfl
theorem w1_m5 {a : Int} (h0 : (-16) ≤ a) (h1 : a < 32) : impl_within.f a (-5) = some true := by rw [w_m5, decide_eq_true h0, decide_eq_true h1]; rfl
theorem w_1 (a : Int) : impl_within.f a 1 = some (decide (0 ≤ a) && decide (a < 2)) := rfl
theorem w1_1 {a : Int} (h0 : 0 ≤ a) (h1 : a < 2) : impl_within.f a 1 = some true := by rw [w_1, decide_eq_true h0, decide_eq_true h1]; rfl
theorem w_2 (a : Int) : impl_within.f a 2 = some (decide (0 ≤ a) && decide (a < 4)) := rfl
theorem w1_2 {a : Int} (h0 : 0 ≤ a) (h1 : a < 4) : impl_within.f a 2 = some true := by rw [w_2, decide_eq_true h0, decide_eq_true h1]; rfl
theorem w_4 (a : Int) : impl_within.f a 4 = some (decide (0 ≤ a) && decide (a < 16)) := rfl
theorem w1_4 {a : Int} (h0 : 0 ≤ a) (h1 : a < 16) : impl_within.f a 4 = some true := by rw [w_4, decide_eq_true h0, decide_eq_true h1]; rfl
theorem w_5 (a : Int) : impl_within.f a 5 = some (decide (0 ≤ a) && decide (a < 32)) := rfl
theorem w1_5 {a : Int} (h0 : 0 ≤ a) (h1 : a < 32) : impl_within.f a 5 = some true := by rw [w_5, decide_eq_true h0, decide_eq_true h1]; rfl
theorem w_6 (a : Int) : impl_within.f a 6 = some (decide (0 ≤ a) && decide (a < 64)) := rfl
theorem w1_6 {a : Int} (h0 : 0 ≤ a) (h1 : a < 64) : impl_within.f a 6 = some true := by rw [w_6, decide_eq_true h0, decide_eq_true h1]; rfl
theorem w_8 (a : Int) : impl_within.f a 8 = some (decide (0 ≤ a) && decide (a < 256)) := rfl
theorem w1_8 {a : Int} (h0 : 0 ≤ a) (h1 : a < 256) : impl_within.f a 8 = some true := by rw [w_8, decide_eq_true h0, decide_eq_true h1]; rfl
theorem w_9 (a : Int) : impl_within.f a 9 = some (decide (0 ≤ a) && decide (a < 512)) := rfl
theorem w1_9 {a : Int} (h0 : 0 ≤ a) (h1 : a < 512) : impl_within.f a 9 = some true := by rw [w_9, decide_eq_true h0, decide_eq_true h1]; rfl
theorem w_10 (a : Int) : impl_within.f a 10 = some (decide (0 ≤ a) && decide (a < 1024)) := rfl
theorem w1_10 {a : Int} (h0 : 0 ≤ a) (h1 : a < 1024) : impl_within.f a 10 = some true := by rw [w_10, decide_eq_true h0, decide_eq_true h1]; rfl
theorem w_11 (a : Int) : impl_within.f a 11 = some (decide (0 ≤ a) && decide (a < 2048)) := rfl
theorem w1_11 {a : Int} (h0 : 0 ≤ a) (h1 : a < 2048) : impl_within.f a 11 = some true := by rw [w_11, decide_eq_true h0, decide_eq_true h1]; rfl
theorem w_12 (a : Int) : impl_within.f a 12 = some (decide (0 ≤ a) && decide (a < 4096)) := rfl
theorem w1_12 {a : Int} (h0 : 0 ≤ a) (h1 : a < 4096) : impl_within.f a 12 = some true := by rw [w_12, decide_eq_true h0, decide_eq_true h1]; rfl
theorem w_18 (a : Int) : impl_within.f a 18 = some (decide (0 ≤ a) && decide (a < 262144)) := rfl
theorem w1_18 {a : Int} (h0 : 0 ≤ a) (h1 : a < 262144) : impl_within.f a 18 = some true := by rw [w_18, decide_eq_true h0, decide_eq_true h1]; rfl
theorem w_32 (a : Int) : impl_within.f a 32 = some (decide (0 ≤ a) && decide (a < 4294967296)) := rfl
theorem w1_32 {a : Int} (h0 : 0 ≤ a) (h1 : a < 4294967296) : impl_within.f a 32 = some true := by rw [w_32, decide_eq_true h0, decide_eq_true h1]; rfl
theorem bounds_AOP_RRR : impl_bounds.f (⟨#[65, 79, 80, 95, 82, 82, 82]⟩ : ByteArray) = some [32, 5, 5, 5] := by simp [impl_bounds.f]
theorem encoded_is_AOP_RRR (a0 a1 a2 a3 : Int) : impl_encoded.f (⟨#[65, 79, 80, 95, 82, 82, 82]⟩ : ByteArray) [a0, a1, a2, a3] = ppc64obj_AOP_RRR.f (a0 % 4294967296) (a1 % 4294967296) (a2 % 4294967296) (a3 % 4294967296) := by rfl
theorem Encode_AOP_RRR {a0 a1 a2 a3 : Int} (h0 : 0 ≤ a0) (g0 : a0 < 4294967296) (h1 : 0 ≤ a1) (g1 : a1 < 32) (h2 : 0 ≤ a2) (g2 : a2 < 32) (h3 : 0 ≤ a3) (g3 : a3 < 32) {v : Int} (hv : ppc64obj_AOP_RRR.f (a0 % 4294967296) (a1 % 4294967296) (a2 % 4294967296) (a3 % 4294967296) = some v) :
    ∀ k, 10 ≤ k → impl_Encode.f k (⟨#[65, 79, 80, 95, 82, 82, 82]⟩ : ByteArray) [a0, a1, a2, a3] = some (v, true) := by
  intro k hk
  refine enc_ok (l1 := [a0, a1, a2, a3]) bounds_AOP_RRR (by simp) (by simp) (by simp) (below_4 (P := fun j => impl_within.f (rd [a0, a1, a2, a3] j) (rd [32, 5, 5, 5] j) = some true) (w1_32 h0 g0) (w1_5 h1 g1) (w1_5 h2 g2) (w1_5 h3 g3)) ((encoded_is_AOP_RRR a0 a1 a2 a3).trans hv) k (by simp only [List.length_cons, List.length_nil]; omega)
theorem bounds_AOP_RR : impl_bounds.f (⟨#[65, 79, 80, 95, 82, 82]⟩ : ByteArray) = some [32, 5, 5] := by simp [impl_bounds.f]
theorem encoded_is_AOP_RR (a0 a1 a2 : Int) : impl_encoded.f (⟨#[65, 79, 80, 95, 82, 82]⟩ : ByteArray) [a0, a1, a2] = ppc64obj_AOP_RR.f (a0 % 4294967296) (a1 % 4294967296) (a2 % 4294967296) := by rfl
theorem Encode_AOP_RR {a0 a1 a2 : Int} (h0 : 0 ≤ a0) (g0 : a0 < 4294967296) (h1 : 0 ≤ a1) (g1 : a1 < 32) (h2 : 0 ≤ a2) (g2 : a2 < 32) {v : Int} (hv : ppc64obj_AOP_RR.f (a0 % 4294967296) (a1 % 4294967296) (a2 % 4294967296) = some v) :
    ∀ k, 10 ≤ k → impl_Encode.f k (⟨#[65, 79, 80, 95, 82, 82]⟩ : ByteArray) [a0, a1, a2] = some (v, true) := by
  intro k hk
  refine enc_ok (l1 := [a0, a1, a2]) bounds_AOP_RR (by simp) (by simp) (by simp) (below_3 (P := fun j => impl_within.f (rd [a0, a1, a2] j) (rd [32, 5, 5] j) = some true) (w1_32 h0 g0) (w1_5 h1 g1) (w1_5 h2 g2)) ((encoded_is_AOP_RR a0 a1 a2).trans hv) k (by simp only [List.length_cons, List.length_nil]; omega)
theorem bounds_AOP_RRRR : impl_bounds.f (⟨#[65, 79, 80, 95, 82, 82, 82, 82]⟩ : ByteArray) = some [32, 5, 5, 5, 5] := by simp [impl_bounds.f]
theorem encoded_is_AOP_RRRR (a0 a1 a2 a3 a4 : Int) : impl_encoded.f (⟨#[65, 79, 80, 95, 82, 82, 82, 82]⟩ : ByteArray) [a0, a1, a2, a3, a4] = ppc64obj_AOP_RRRR.f (a0 % 4294967296) (a1 % 4294967296) (a2 % 4294967296) (a3 % 4294967296) (a4 % 4294967296) := by rfl
theorem Encode_AOP_RRRR {a0 a1 a2 a3 a4 : Int} (h0 : 0 ≤ a0) (g0 : a0 < 4294967296) (h1 : 0 ≤ a1) (g1 : a1 < 32) (h2 : 0 ≤ a2) (g2 : a2 < 32) (h3 : 0 ≤ a3) (g3 : a3 < 32) (h4 : 0 ≤ a4) (g4 : a4 < 32) {v : Int} (hv : ppc64obj_AOP_RRRR.f (a0 % 4294967296) (a1 % 4294967296) (a2 % 4294967296) (a3 % 4294967296) (a4 % 4294967296) = some v) :
    ∀ k, 10 ≤ k → impl_Encode.f k (⟨#[65, 79, 80, 95, 82, 82, 82, 82]⟩ : ByteArray) [a0, a1, a2, a3, a4] = some (v, true) := by
  intro k hk
  refine enc_ok (l1 := [a0, a1, a2, a3, a4]) bounds_AOP_RRRR (by simp) (by simp) (by simp) (below_5 (P := fun j => impl_within.f (rd [a0, a1, a2, a3, a4] j) (rd [32, 5, 5, 5, 5] j) = some true) (w1_32 h0 g0) (w1_5 h1 g1) (w1_5 h2 g2) (w1_5 h3 g3) (w1_5 h4 g4)) ((encoded_is_AOP_RRRR a0 a1 a2 a3 a4).trans hv) k (by simp only [List.length_cons, List.length_nil]; omega)
theorem bounds_AOP_IRR : impl_bounds.f (⟨#[65, 79, 80, 95, 73, 82, 82]⟩ : ByteArray) = some [32, 5, 5, -16] := by simp [impl_bounds.f]
theorem encoded_is_AOP_IRR (a0 a1 a2 a3 : Int) : impl_encoded.f (⟨#[65, 79, 80, 95, 73, 82, 82]⟩ : ByteArray) [a0, a1, a2, a3] = ppc64obj_AOP_IRR.f (a0 % 4294967296) (a1 % 4294967296) (a2 % 4294967296) (a3 % 4294967296) := by rfl
theorem Encode_AOP_IRR {a0 a1 a2 a3 : Int} (h0 : 0 ≤ a0) (g0 : a0 < 4294967296) (h1 : 0 ≤ a1) (g1 : a1 < 32) (h2 : 0 ≤ a2) (g2 : a2 < 32) (h3 : (-32768) ≤ a3) (g3 : a3 < 65536) {v : Int} (hv : ppc64obj_AOP_IRR.f (a0 % 4294967296) (a1 % 4294967296) (a2 % 4294967296) (a3 % 4294967296) = some v) :
    ∀ k, 10 ≤ k → impl_Encode.f k (⟨#[65, 79, 80, 95, 73, 82, 82]⟩ : ByteArray) [a0, a1, a2, a3] = some (v, true) := by
  intro k hk
  refine enc_ok (l1 := [a0, a1, a2, a3]) bounds_AOP_IRR (by simp) (by simp) (by simp) (below_4 (P := fun j => impl_within.f (rd [a0, a1, a2, a3] j) (rd [32, 5, 5, -16] j) = some true) (w1_32 h0 g0) (w1_5 h1 g1) (w1_5 h2 g2) (w1_m16 h3 g3)) ((encoded_is_AOP_IRR a0 a1 a2 a3).trans hv) k (by simp only [List.length_cons, List.length_nil]; omega)
theorem bounds_AOP_VIRR : impl_bounds.f (⟨#[65, 79, 80, 95, 86, 73, 82, 82]⟩ : ByteArray) = some [32, 5, 5, 5] := by simp [impl_bounds.f]
theorem encoded_is_AOP_VIRR (a0 a1 a2 a3 : Int) : impl_encoded.f (⟨#[65, 79, 80, 95, 86, 73, 82, 82]⟩ : ByteArray) [a0, a1, a2, a3] = ppc64obj_AOP_VIRR.f (a0 % 4294967296) (a1 % 4294967296) (a2 % 4294967296) (a3 % 4294967296) := by rfl
theorem Encode_AOP_VIRR {a0 a1 a2 a3 : Int} (h0 : 0 ≤ a0) (g0 : a0 < 4294967296) (h1 : 0 ≤ a1) (g1 : a1 < 32) (h2 : 0 ≤ a2) (g2 : a2 < 32) (h3 : 0 ≤ a3) (g3 : a3 < 32) {v : Int} (hv : ppc64obj_AOP_VIRR.f (a0 % 4294967296) (a1 % 4294967296) (a2 % 4294967296) (a3 % 4294967296) = some v) :
    ∀ k, 10 ≤ k → impl_Encode.f k (⟨#[65, 79, 80, 95, 86, 73, 82, 82]⟩ : ByteArray) [a0, a1, a2, a3] = some (v, true) := by
  intro k hk
  refine enc_ok (l1 := [a0, a1, a2, a3]) bounds_AOP_VIRR (by simp) (by simp) (by simp) (below_4 (P := fun j => impl_within.f (rd [a0, a1, a2, a3] j) (rd [32, 5, 5, 5] j) = some true) (w1_32 h0 g0) (w1_5 h1 g1) (w1_5 h2 g2) (w1_5 h3 g3)) ((encoded_is_AOP_VIRR a0 a1 a2 a3).trans hv) k (by simp only [List.length_cons, List.length_nil]; omega)
theorem bounds_AOP_IIRR : impl_bounds.f (⟨#[65, 79, 80, 95, 73, 73, 82, 82]⟩ : ByteArray) = some [32, 5, 5, 1, 4] := by simp [impl_bounds.f]
theorem encoded_is_AOP_IIRR (a0 a1 a2 a3 a4 : Int) : impl_encoded.f (⟨#[65, 79, 80, 95, 73, 73, 82, 82]⟩ : ByteArray) [a0, a1, a2, a3, a4] = ppc64obj_AOP_IIRR.f (a0 % 4294967296) (a1 % 4294967296) (a2 % 4294967296) (a3 % 4294967296) (a4 % 4294967296) := by rfl
theorem Encode_AOP_IIRR {a0 a1 a2 a3 a4 : Int} (h0 : 0 ≤ a0) (g0 : a0 < 4294967296) (h1 : 0 ≤ a1) (g1 : a1 < 32) (h2 : 0 ≤ a2) (g2 : a2 < 32) (h3 : 0 ≤ a3) (g3 : a3 < 2) (h4 : 0 ≤ a4) (g4 : a4 < 16) {v : Int} (hv : ppc64obj_AOP_IIRR.f (a0 % 4294967296) (a1 % 4294967296) (a2 % 4294967296) (a3 % 4294967296) (a4 % 4294967296) = some v) :
    ∀ k, 10 ≤ k → impl_Encode.f k (⟨#[65, 79, 80, 95, 73, 73, 82, 82]⟩ : ByteArray) [a0, a1, a2, a3, a4] = some (v, true) := by
  intro k hk
  refine enc_ok (l1 := [a0, a1, a2, a3, a4]) bounds_AOP_IIRR (by simp) (by simp) (by simp) (below_5 (P := fun j => impl_within.f (rd [a0, a1, a2, a3, a4] j) (rd [32, 5, 5, 1, 4] j) = some true) (w1_32 h0 g0) (w1_5 h1 g1) (w1_5 h2 g2) (w1_1 h3 g3) (w1_4 h4 g4)) ((encoded_is_AOP_IIRR a0 a1 a2 a3 a4).trans hv) k (by simp only [List.length_cons, List.length_nil]; omega)
theorem bounds_AOP_IRRR : impl_bounds.f (⟨#[65, 79, 80, 95, 73, 82, 82, 82]⟩ : ByteArray) = some [32, 5, 5, 5, 4] := by simp [impl_bounds.f]
theorem encoded_is_AOP_IRRR (a0 a1 a2 a3 a4 : Int) : impl_encoded.f (⟨#[65, 79, 80, 95, 73, 82, 82, 82]⟩ : ByteArray) [a0, a1, a2, a3, a4] = ppc64obj_AOP_IRRR.f (a0 % 4294967296) (a1 % 4294967296) (a2 % 4294967296) (a3 % 4294967296) (a4 % 4294967296) := by rfl
theorem Encode_AOP_IRRR {a0 a1 a2 a3 a4 : Int} (h0 : 0 ≤ a0) (g0 : a0 < 4294967296) (h1 : 0 ≤ a1) (g1 : a1 < 32) (h2 : 0 ≤ a2) (g2 : a2 < 32) (h3 : 0 ≤ a3) (g3 : a3 < 32) (h4 : 0 ≤ a4) (g4 : a4 < 16) {v : Int} (hv : ppc64obj_AOP_IRRR.f (a0 % 4294967296) (a1 % 4294967296) (a2 % 4294967296) (a3 % 4294967296) (a4 % 4294967296) = some v) :
    ∀ k, 10 ≤ k → impl_Encode.f k (⟨#[65, 79, 80, 95, 73, 82, 82, 82]⟩ : ByteArray) [a0, a1, a2, a3, a4] = some (v, true) := by
  intro k hk
  refine enc_ok (l1 := [a0, a1, a2, a3, a4]) bounds_AOP_IRRR (by simp) (by simp) (by simp) (below_5 (P := fun j => impl_within.f (rd [a0, a1, a2, a3, a4] j) (rd [32, 5, 5, 5, 4] j) = some true) (w1_32 h0 g0) (w1_5 h1 g1) (w1_5 h2 g2) (w1_5 h3 g3) (w1_4 h4 g4)) ((encoded_is_AOP_IRRR a0 a1 a2 a3 a4).trans hv) k (by simp only [List.length_cons, List.length_nil]; omega)
theorem bounds_AOP_IR : impl_bounds.f (⟨#[65, 79, 80, 95, 73, 82]⟩ : ByteArray) = some [32, 5, -5] := by simp [impl_bounds.f]
theorem encoded_is_AOP_IR (a0 a1 a2 : Int) : impl_encoded.f (⟨#[65, 79, 80, 95, 73, 82]⟩ : ByteArray) [a0, a1, a2] = ppc64obj_AOP_IR.f (a0 % 4294967296) (a1 % 4294967296) (a2 % 4294967296) := by rfl
theorem Encode_AOP_IR {a0 a1 a2 : Int} (h0 : 0 ≤ a0) (g0 : a0 < 4294967296) (h1 : 0 ≤ a1) (g1 : a1 < 32) (h2 : (-16) ≤ a2) (g2 : a2 < 32) {v : Int} (hv : ppc64obj_AOP_IR.f (a0 % 4294967296) (a1 % 4294967296) (a2 % 4294967296) = some v) :
    ∀ k, 10 ≤ k → impl_Encode.f k (⟨#[65, 79, 80, 95, 73, 82]⟩ : ByteArray) [a0, a1, a2] = some (v, true) := by
  intro k hk
  refine enc_ok (l1 := [a0, a1, a2]) bounds_AOP_IR (by simp) (by simp) (by simp) (below_3 (P := fun j => impl_within.f (rd [a0, a1, a2] j) (rd [32, 5, -5] j) = some true) (w1_32 h0 g0) (w1_5 h1 g1) (w1_m5 h2 g2)) ((encoded_is_AOP_IR a0 a1 a2).trans hv) k (by simp only [List.length_cons, List.length_nil]; omega)
theorem bounds_AOP_XX1 : impl_bounds.f (⟨#[65, 79, 80, 95, 88, 88, 49]⟩ : ByteArray) = some [32, 6, 5, 5] := by simp [impl_bounds.f]
theorem encoded_is_AOP_XX1 (a0 a1 a2 a3 : Int) : impl_encoded.f (⟨#[65, 79, 80, 95, 88, 88, 49]⟩ : ByteArray) [a0, a1, a2, a3] = ppc64obj_AOP_XX1.f (a0 % 4294967296) (a1 % 4294967296) (a2 % 4294967296) (a3 % 4294967296) := by rfl
theorem Encode_AOP_XX1 {a0 a1 a2 a3 : Int} (h0 : 0 ≤ a0) (g0 : a0 < 4294967296) (h1 : 0 ≤ a1) (g1 : a1 < 64) (h2 : 0 ≤ a2) (g2 : a2 < 32) (h3 : 0 ≤ a3) (g3 : a3 < 32) {v : Int} (hv : ppc64obj_AOP_XX1.f (a0 % 4294967296) (a1 % 4294967296) (a2 % 4294967296) (a3 % 4294967296) = some v) :
    ∀ k, 10 ≤ k → impl_Encode.f k (⟨#[65, 79, 80, 95, 88, 88, 49]⟩ : ByteArray) [a0, a1, a2, a3] = some (v, true) := by
  intro k hk
  refine enc_ok (l1 := [a0, a1, a2, a3]) bounds_AOP_XX1 (by simp) (by simp) (by simp) (below_4 (P := fun j => impl_within.f (rd [a0, a1, a2, a3] j) (rd [32, 6, 5, 5] j) = some true) (w1_32 h0 g0) (w1_6 h1 g1) (w1_5 h2 g2) (w1_5 h3 g3)) ((encoded_is_AOP_XX1 a0 a1 a2 a3).trans hv) k (by simp only [List.length_cons, List.length_nil]; omega)
theorem bounds_AOP_XX2 : impl_bounds.f (⟨#[65, 79, 80, 95, 88, 88, 50]⟩ : ByteArray) = some [32, 6, 2, 6] := by simp [impl_bounds.f]
theorem encoded_is_AOP_XX2 (a0 a1 a2 a3 : Int) : impl_encoded.f (⟨#[65, 79, 80, 95, 88, 88, 50]⟩ : ByteArray) [a0, a1, a2, a3] = ppc64obj_AOP_XX2.f (a0 % 4294967296) (a1 % 4294967296) (a2 % 4294967296) (a3 % 4294967296) := by rfl
theorem Encode_AOP_XX2 {a0 a1 a2 a3 : Int} (h0 : 0 ≤ a0) (g0 : a0 < 4294967296) (h1 : 0 ≤ a1) (g1 : a1 < 64) (h2 : 0 ≤ a2) (g2 : a2 < 4) (h3 : 0 ≤ a3) (g3 : a3 < 64) {v : Int} (hv : ppc64obj_AOP_XX2.f (a0 % 4294967296) (a1 % 4294967296) (a2 % 4294967296) (a3 % 4294967296) = some v) :
    ∀ k, 10 ≤ k → impl_Encode.f k (⟨#[65, 79, 80, 95, 88, 88, 50]⟩ : ByteArray) [a0, a1, a2, a3] = some (v, true) := by
  intro k hk
  refine enc_ok (l1 := [a0, a1, a2, a3]) bounds_AOP_XX2 (by simp) (by simp) (by simp) (below_4 (P := fun j => impl_within.f (rd [a0, a1, a2, a3] j) (rd [32, 6, 2, 6] j) = some true) (w1_32 h0 g0) (w1_6 h1 g1) (w1_2 h2 g2) (w1_6 h3 g3)) ((encoded_is_AOP_XX2 a0 a1 a2 a3).trans hv) k (by simp only [List.length_cons, List.length_nil]; omega)
theorem bounds_AOP_XX3 : impl_bounds.f (⟨#[65, 79, 80, 95, 88, 88, 51]⟩ : ByteArray) = some [32, 6, 6, 6] := by simp [impl_bounds.f]
theorem encoded_is_AOP_XX3 (a0 a1 a2 a3 : Int) : impl_encoded.f (⟨#[65, 79, 80, 95, 88, 88, 51]⟩ : ByteArray) [a0, a1, a2, a3] = ppc64obj_AOP_XX3.f (a0 % 4294967296) (a1 % 4294967296) (a2 % 4294967296) (a3 % 4294967296) := by rfl
theorem Encode_AOP_XX3 {a0 a1 a2 a3 : Int} (h0 : 0 ≤ a0) (g0 : a0 < 4294967296) (h1 : 0 ≤ a1) (g1 : a1 < 64) (h2 : 0 ≤ a2) (g2 : a2 < 64) (h3 : 0 ≤ a3) (g3 : a3 < 64) {v : Int} (hv : ppc64obj_AOP_XX3.f (a0 % 4294967296) (a1 % 4294967296) (a2 % 4294967296) (a3 % 4294967296) = some v) :
    ∀ k, 10 ≤ k → impl_Encode.f k (⟨#[65, 79, 80, 95, 88, 88, 51]⟩ : ByteArray) [a0, a1, a2, a3] = some (v, true) := by
  intro k hk
  refine enc_ok (l1 := [a0, a1, a2, a3]) bounds_AOP_XX3 (by simp) (by simp) (by simp) (below_4 (P := fun j => impl_within.f (rd [a0, a1, a2, a3] j) (rd [32, 6, 6, 6] j) = some true) (w1_32 h0 g0) (w1_6 h1 g1) (w1_6 h2 g2) (w1_6 h3 g3)) ((encoded_is_AOP_XX3 a0 a1 a2 a3).trans hv) k (by simp only [List.length_cons, List.length_nil]; omega)
theorem bounds_AOP_XX3I : impl_bounds.f (⟨#[65, 79, 80, 95, 88, 88, 51, 73]⟩ : ByteArray) = some [32, 6, 6, 6, 2] := by simp [impl_bounds.f]
theorem encoded_is_AOP_XX3I (a0 a1 a2 a3 a4 : Int) : impl_encoded.f (⟨#[65, 79, 80, 95, 88, 88, 51, 73]⟩ : ByteArray) [a0, a1, a2, a3, a4] = ppc64obj_AOP_XX3I.f (a0 % 4294967296) (a1 % 4294967296) (a2 % 4294967296) (a3 % 4294967296) (a4 % 4294967296) := by rfl
theorem Encode_AOP_XX3I {a0 a1 a2 a3 a4 : Int} (h0 : 0 ≤ a0) (g0 : a0 < 4294967296) (h1 : 0 ≤ a1) (g1 : a1 < 64) (h2 : 0 ≤ a2) (g2 : a2 < 64) (h3 : 0 ≤ a3) (g3 : a3 < 64) (h4 : 0 ≤ a4) (g4 : a4 < 4) {v : Int} (hv : ppc64obj_AOP_XX3I.f (a0 % 4294967296) (a1 % 4294967296) (a2 % 4294967296) (a3 % 4294967296) (a4 % 4294967296) = some v) :
    ∀ k, 10 ≤ k → impl_Encode.f k (⟨#[65, 79, 80, 95, 88, 88, 51, 73]⟩ : ByteArray) [a0, a1, a2, a3, a4] = some (v, true) := by
  intro k hk
  refine enc_ok (l1 := [a0, a1, a2, a3, a4]) bounds_AOP_XX3I (by simp) (by simp) (by simp) (below_5 (P := fun j => impl_within.f (rd [a0, a1, a2, a3, a4] j) (rd [32, 6, 6, 6, 2] j) = some true) (w1_32 h0 g0) (w1_6 h1 g1) (w1_6 h2 g2) (w1_6 h3 g3) (w1_2 h4 g4)) ((encoded_is_AOP_XX3I a0 a1 a2 a3 a4).trans hv) k (by simp only [List.length_cons, List.length_nil]; omega)
theorem bounds_AOP_XX4 : impl_bounds.f (⟨#[65, 79, 80, 95, 88, 88, 52]⟩ : ByteArray) = some [32, 6, 6, 6, 6] := by simp [impl_bounds.f]
theorem encoded_is_AOP_XX4 (a0 a1 a2 a3 a4 : Int) : impl_encoded.f (⟨#[65, 79, 80, 95, 88, 88, 52]⟩ : ByteArray) [a0, a1, a2, a3, a4] = ppc64obj_AOP_XX4.f (a0 % 4294967296) (a1 % 4294967296) (a2 % 4294967296) (a3 % 4294967296) (a4 % 4294967296) := by rfl
theorem Encode_AOP_XX4 {a0 a1 a2 a3 a4 : Int} (h0 : 0 ≤ a0) (g0 : a0 < 4294967296) (h1 : 0 ≤ a1) (g1 : a1 < 64) (h2 : 0 ≤ a2) (g2 : a2 < 64) (h3 : 0 ≤ a3) (g3 : a3 < 64) (h4 : 0 ≤ a4) (g4 : a4 < 64) {v : Int} (hv : ppc64obj_AOP_XX4.f (a0 % 4294967296) (a1 % 4294967296) (a2 % 4294967296) (a3 % 4294967296) (a4 % 4294967296) = some v) :
    ∀ k, 10 ≤ k → impl_Encode.f k (⟨#[65, 79, 80, 95, 88, 88, 52]⟩ : ByteArray) [a0, a1, a2, a3, a4] = some (v, true) := by
  intro k hk
  refine enc_ok (l1 := [a0, a1, a2, a3, a4]) bounds_AOP_XX4 (by simp) (by simp) (by simp) (below_5 (P := fun j => impl_within.f (rd [a0, a1, a2, a3, a4] j) (rd [32, 6, 6, 6, 6] j) = some true) (w1_32 h0 g0) (w1_6 h1 g1) (w1_6 h2 g2) (w1_6 h3 g3) (w1_6 h4 g4)) ((encoded_is_AOP_XX4 a0 a1 a2 a3 a4).trans hv) k (by simp only [List.length_cons, List.length_nil]; omega)
theorem bounds_AOP_Z23I : impl_bounds.f (⟨#[65, 79, 80, 95, 90, 50, 51, 73]⟩ : ByteArray) = some [32, 5, 5, 5, 2] := by simp [impl_bounds.f]
theorem encoded_is_AOP_Z23I (a0 a1 a2 a3 a4 : Int) : impl_encoded.f (⟨#[65, 79, 80, 95, 90, 50, 51, 73]⟩ : ByteArray) [a0, a1, a2, a3, a4] = ppc64obj_AOP_Z23I.f (a0 % 4294967296) (a1 % 4294967296) (a2 % 4294967296) (a3 % 4294967296) (a4 % 4294967296) := by rfl
theorem Encode_AOP_Z23I {a0 a1 a2 a3 a4 : Int} (h0 : 0 ≤ a0) (g0 : a0 < 4294967296) (h1 : 0 ≤ a1) (g1 : a1 < 32) (h2 : 0 ≤ a2) (g2 : a2 < 32) (h3 : 0 ≤ a3) (g3 : a3 < 32) (h4 : 0 ≤ a4) (g4 : a4 < 4) {v : Int} (hv : ppc64obj_AOP_Z23I.f (a0 % 4294967296) (a1 % 4294967296) (a2 % 4294967296) (a3 % 4294967296) (a4 % 4294967296) = some v) :
    ∀ k, 10 ≤ k → impl_Encode.f k (⟨#[65, 79, 80, 95, 90, 50, 51, 73]⟩ : ByteArray) [a0, a1, a2, a3, a4] = some (v, true) := by
  intro k hk
  refine enc_ok (l1 := [a0, a1, a2, a3, a4]) bounds_AOP_Z23I (by simp) (by simp) (by simp) (below_5 (P := fun j => impl_within.f (rd [a0, a1, a2, a3, a4] j) (rd [32, 5, 5, 5, 2] j) = some true) (w1_32 h0 g0) (w1_5 h1 g1) (w1_5 h2 g2) (w1_5 h3 g3) (w1_2 h4 g4)) ((encoded_is_AOP_Z23I a0 a1 a2 a3 a4).trans hv) k (by simp only [List.length_cons, List.length_nil]; omega)
theorem bounds_AOP_RRRI : impl_bounds.f (⟨#[65, 79, 80, 95, 82, 82, 82, 73]⟩ : ByteArray) = some [32, 5, 5, 5, 1] := by simp [impl_bounds.f]
theorem encoded_is_AOP_RRRI (a0 a1 a2 a3 a4 : Int) : impl_encoded.f (⟨#[65, 79, 80, 95, 82, 82, 82, 73]⟩ : ByteArray) [a0, a1, a2, a3, a4] = ppc64obj_AOP_RRRI.f (a0 % 4294967296) (a1 % 4294967296) (a2 % 4294967296) (a3 % 4294967296) (a4 % 4294967296) := by rfl
theorem Encode_AOP_RRRI {a0 a1 a2 a3 a4 : Int} (h0 : 0 ≤ a0) (g0 : a0 < 4294967296) (h1 : 0 ≤ a1) (g1 : a1 < 32) (h2 : 0 ≤ a2) (g2 : a2 < 32) (h3 : 0 ≤ a3) (g3 : a3 < 32) (h4 : 0 ≤ a4) (g4 : a4 < 2) {v : Int} (hv : ppc64obj_AOP_RRRI.f (a0 % 4294967296) (a1 % 4294967296) (a2 % 4294967296) (a3 % 4294967296) (a4 % 4294967296) = some v) :
    ∀ k, 10 ≤ k → impl_Encode.f k (⟨#[65, 79, 80, 95, 82, 82, 82, 73]⟩ : ByteArray) [a0, a1, a2, a3, a4] = some (v, true) := by
  intro k hk
  refine enc_ok (l1 := [a0, a1, a2, a3, a4]) bounds_AOP_RRRI (by simp) (by simp) (by simp) (below_5 (P := fun j => impl_within.f (rd [a0, a1, a2, a3, a4] j) (rd [32, 5, 5, 5, 1] j) = some true) (w1_32 h0 g0) (w1_5 h1 g1) (w1_5 h2 g2) (w1_5 h3 g3) (w1_1 h4 g4)) ((encoded_is_AOP_RRRI a0 a1 a2 a3 a4).trans hv) k (by simp only [List.length_cons, List.length_nil]; omega)
theorem bounds_LOP_RRR : impl_bounds.f (⟨#[76, 79, 80, 95, 82, 82, 82]⟩ : ByteArray) = some [32, 5, 5, 5] := by simp [impl_bounds.f]
theorem encoded_is_LOP_RRR (a0 a1 a2 a3 : Int) : impl_encoded.f (⟨#[76, 79, 80, 95, 82, 82, 82]⟩ : ByteArray) [a0, a1, a2, a3] = ppc64obj_LOP_RRR.f (a0 % 4294967296) (a1 % 4294967296) (a2 % 4294967296) (a3 % 4294967296) := by rfl
theorem Encode_LOP_RRR {a0 a1 a2 a3 : Int} (h0 : 0 ≤ a0) (g0 : a0 < 4294967296) (h1 : 0 ≤ a1) (g1 : a1 < 32) (h2 : 0 ≤ a2) (g2 : a2 < 32) (h3 : 0 ≤ a3) (g3 : a3 < 32) {v : Int} (hv : ppc64obj_LOP_RRR.f (a0 % 4294967296) (a1 % 4294967296) (a2 % 4294967296) (a3 % 4294967296) = some v) :
    ∀ k, 10 ≤ k → impl_Encode.f k (⟨#[76, 79, 80, 95, 82, 82, 82]⟩ : ByteArray) [a0, a1, a2, a3] = some (v, true) := by
  intro k hk
  refine enc_ok (l1 := [a0, a1, a2, a3]) bounds_LOP_RRR (by simp) (by simp) (by simp) (below_4 (P := fun j => impl_within.f (rd [a0, a1, a2, a3] j) (rd [32, 5, 5, 5] j) = some true) (w1_32 h0 g0) (w1_5 h1 g1) (w1_5 h2 g2) (w1_5 h3 g3)) ((encoded_is_LOP_RRR a0 a1 a2 a3).trans hv) k (by simp only [List.length_cons, List.length_nil]; omega)
theorem bounds_LOP_IRR : impl_bounds.f (⟨#[76, 79, 80, 95, 73, 82, 82]⟩ : ByteArray) = some [32, 5, 5, -16] := by simp [impl_bounds.f]
theorem encoded_is_LOP_IRR (a0 a1 a2 a3 : Int) : impl_encoded.f (⟨#[76, 79, 80, 95, 73, 82, 82]⟩ : ByteArray) [a0, a1, a2, a3] = ppc64obj_LOP_IRR.f (a0 % 4294967296) (a1 % 4294967296) (a2 % 4294967296) (a3 % 4294967296) := by rfl
theorem Encode_LOP_IRR {a0 a1 a2 a3 : Int} (h0 : 0 ≤ a0) (g0 : a0 < 4294967296) (h1 : 0 ≤ a1) (g1 : a1 < 32) (h2 : 0 ≤ a2) (g2 : a2 < 32) (h3 : (-32768) ≤ a3) (g3 : a3 < 65536) {v : Int} (hv : ppc64obj_LOP_IRR.f (a0 % 4294967296) (a1 % 4294967296) (a2 % 4294967296) (a3 % 4294967296) = some v) :
    ∀ k, 10 ≤ k → impl_Encode.f k (⟨#[76, 79, 80, 95, 73, 82, 82]⟩ : ByteArray) [a0, a1, a2, a3] = some (v, true) := by
  intro k hk
  refine enc_ok (l1 := [a0, a1, a2, a3]) bounds_LOP_IRR (by simp) (by simp) (by simp) (below_4 (P := fun j => impl_within.f (rd [a0, a1, a2, a3] j) (rd [32, 5, 5, -16] j) = some true) (w1_32 h0 g0) (w1_5 h1 g1) (w1_5 h2 g2) (w1_m16 h3 g3)) ((encoded_is_LOP_IRR a0 a1 a2 a3).trans hv) k (by simp only [List.length_cons, List.length_nil]; omega)
theorem bounds_OP_BCR : impl_bounds.f (⟨#[79, 80, 95, 66, 67, 82]⟩ : ByteArray) = some [32, 5, 5] := by simp [impl_bounds.f]
theorem encoded_is_OP_BCR (a0 a1 a2 : Int) : impl_encoded.f (⟨#[79, 80, 95, 66, 67, 82]⟩ : ByteArray) [a0, a1, a2] = ppc64obj_OP_BCR.f (a0 % 4294967296) (a1 % 4294967296) (a2 % 4294967296) := by rfl
theorem Encode_OP_BCR {a0 a1 a2 : Int} (h0 : 0 ≤ a0) (g0 : a0 < 4294967296) (h1 : 0 ≤ a1) (g1 : a1 < 32) (h2 : 0 ≤ a2) (g2 : a2 < 32) {v : Int} (hv : ppc64obj_OP_BCR.f (a0 % 4294967296) (a1 % 4294967296) (a2 % 4294967296) = some v) :
    ∀ k, 10 ≤ k → impl_Encode.f k (⟨#[79, 80, 95, 66, 67, 82]⟩ : ByteArray) [a0, a1, a2] = some (v, true) := by
  intro k hk
  refine enc_ok (l1 := [a0, a1, a2]) bounds_OP_BCR (by simp) (by simp) (by simp) (below_3 (P := fun j => impl_within.f (rd [a0, a1, a2] j) (rd [32, 5, 5] j) = some true) (w1_32 h0 g0) (w1_5 h1 g1) (w1_5 h2 g2)) ((encoded_is_OP_BCR a0 a1 a2).trans hv) k (by simp only [List.length_cons, List.length_nil]; omega)
theorem bounds_OP_RLW : impl_bounds.f (⟨#[79, 80, 95, 82, 76, 87]⟩ : ByteArray) = some [32, 5, 5, 5, 5, 5] := by simp [impl_bounds.f]
theorem encoded_is_OP_RLW (a0 a1 a2 a3 a4 a5 : Int) : impl_encoded.f (⟨#[79, 80, 95, 82, 76, 87]⟩ : ByteArray) [a0, a1, a2, a3, a4, a5] = ppc64obj_OP_RLW.f (a0 % 4294967296) (a1 % 4294967296) (a2 % 4294967296) (a3 % 4294967296) (a4 % 4294967296) (a5 % 4294967296) := by rfl
theorem Encode_OP_RLW {a0 a1 a2 a3 a4 a5 : Int} (h0 : 0 ≤ a0) (g0 : a0 < 4294967296) (h1 : 0 ≤ a1) (g1 : a1 < 32) (h2 : 0 ≤ a2) (g2 : a2 < 32) (h3 : 0 ≤ a3) (g3 : a3 < 32) (h4 : 0 ≤ a4) (g4 : a4 < 32) (h5 : 0 ≤ a5) (g5 : a5 < 32) {v : Int} (hv : ppc64obj_OP_RLW.f (a0 % 4294967296) (a1 % 4294967296) (a2 % 4294967296) (a3 % 4294967296) (a4 % 4294967296) (a5 % 4294967296) = some v) :
    ∀ k, 10 ≤ k → impl_Encode.f k (⟨#[79, 80, 95, 82, 76, 87]⟩ : ByteArray) [a0, a1, a2, a3, a4, a5] = some (v, true) := by
  intro k hk
  refine enc_ok (l1 := [a0, a1, a2, a3, a4, a5]) bounds_OP_RLW (by simp) (by simp) (by simp) (below_6 (P := fun j => impl_within.f (rd [a0, a1, a2, a3, a4, a5] j) (rd [32, 5, 5, 5, 5, 5] j) = some true) (w1_32 h0 g0) (w1_5 h1 g1) (w1_5 h2 g2) (w1_5 h3 g3) (w1_5 h4 g4) (w1_5 h5 g5)) ((encoded_is_OP_RLW a0 a1 a2 a3 a4 a5).trans hv) k (by simp only [List.length_cons, List.length_nil]; omega)
theorem bounds_AOP_ISEL : impl_bounds.f (⟨#[65, 79, 80, 95, 73, 83, 69, 76]⟩ : ByteArray) = some [32, 5, 5, 5, 5] := by simp [impl_bounds.f]
theorem encoded_is_AOP_ISEL (a0 a1 a2 a3 a4 : Int) : impl_encoded.f (⟨#[65, 79, 80, 95, 73, 83, 69, 76]⟩ : ByteArray) [a0, a1, a2, a3, a4] = ppc64obj_AOP_ISEL.f (a0 % 4294967296) (a1 % 4294967296) (a2 % 4294967296) (a3 % 4294967296) (a4 % 4294967296) := by rfl
theorem Encode_AOP_ISEL {a0 a1 a2 a3 a4 : Int} (h0 : 0 ≤ a0) (g0 : a0 < 4294967296) (h1 : 0 ≤ a1) (g1 : a1 < 32) (h2 : 0 ≤ a2) (g2 : a2 < 32) (h3 : 0 ≤ a3) (g3 : a3 < 32) (h4 : 0 ≤ a4) (g4 : a4 < 32) {v : Int} (hv : ppc64obj_AOP_ISEL.f (a0 % 4294967296) (a1 % 4294967296) (a2 % 4294967296) (a3 % 4294967296) (a4 % 4294967296) = some v) :
    ∀ k, 10 ≤ k → impl_Encode.f k (⟨#[65, 79, 80, 95, 73, 83, 69, 76]⟩ : ByteArray) [a0, a1, a2, a3, a4] = some (v, true) := by
  intro k hk
  refine enc_ok (l1 := [a0, a1, a2, a3, a4]) bounds_AOP_ISEL (by simp) (by simp) (by simp) (below_5 (P := fun j => impl_within.f (rd [a0, a1, a2, a3, a4] j) (rd [32, 5, 5, 5, 5] j) = some true) (w1_32 h0 g0) (w1_5 h1 g1) (w1_5 h2 g2) (w1_5 h3 g3) (w1_5 h4 g4)) ((encoded_is_AOP_ISEL a0 a1 a2 a3 a4).trans hv) k (by simp only [List.length_cons, List.length_nil]; omega)
theorem bounds_AOP_MD : impl_bounds.f (⟨#[65, 79, 80, 95, 77, 68]⟩ : ByteArray) = some [32, 5, 5, 6, 6] := by simp [impl_bounds.f]
theorem encoded_is_AOP_MD (a0 a1 a2 a3 a4 : Int) : impl_encoded.f (⟨#[65, 79, 80, 95, 77, 68]⟩ : ByteArray) [a0, a1, a2, a3, a4] = ppc64obj_AOP_MD.f (a0 % 4294967296) (a1 % 4294967296) (a2 % 4294967296) (a3 % 4294967296) (a4 % 4294967296) := by rfl
theorem Encode_AOP_MD {a0 a1 a2 a3 a4 : Int} (h0 : 0 ≤ a0) (g0 : a0 < 4294967296) (h1 : 0 ≤ a1) (g1 : a1 < 32) (h2 : 0 ≤ a2) (g2 : a2 < 32) (h3 : 0 ≤ a3) (g3 : a3 < 64) (h4 : 0 ≤ a4) (g4 : a4 < 64) {v : Int} (hv : ppc64obj_AOP_MD.f (a0 % 4294967296) (a1 % 4294967296) (a2 % 4294967296) (a3 % 4294967296) (a4 % 4294967296) = some v) :
    ∀ k, 10 ≤ k → impl_Encode.f k (⟨#[65, 79, 80, 95, 77, 68]⟩ : ByteArray) [a0, a1, a2, a3, a4] = some (v, true) := by
  intro k hk
  refine enc_ok (l1 := [a0, a1, a2, a3, a4]) bounds_AOP_MD (by simp) (by simp) (by simp) (below_5 (P := fun j => impl_within.f (rd [a0, a1, a2, a3, a4] j) (rd [32, 5, 5, 6, 6] j) = some true) (w1_32 h0 g0) (w1_5 h1 g1) (w1_5 h2 g2) (w1_6 h3 g3) (w1_6 h4 g4)) ((encoded_is_AOP_MD a0 a1 a2 a3 a4).trans hv) k (by simp only [List.length_cons, List.length_nil]; omega)
theorem bounds_AOP_MDS : impl_bounds.f (⟨#[65, 79, 80, 95, 77, 68, 83]⟩ : ByteArray) = some [32, 5, 5, 5, 6] := by simp [impl_bounds.f]
theorem encoded_is_AOP_MDS (a0 a1 a2 a3 a4 : Int) : impl_encoded.f (⟨#[65, 79, 80, 95, 77, 68, 83]⟩ : ByteArray) [a0, a1, a2, a3, a4] = ppc64obj_AOP_MDS.f (a0 % 4294967296) (a1 % 4294967296) (a2 % 4294967296) (a3 % 4294967296) (a4 % 4294967296) := by rfl
theorem Encode_AOP_MDS {a0 a1 a2 a3 a4 : Int} (h0 : 0 ≤ a0) (g0 : a0 < 4294967296) (h1 : 0 ≤ a1) (g1 : a1 < 32) (h2 : 0 ≤ a2) (g2 : a2 < 32) (h3 : 0 ≤ a3) (g3 : a3 < 32) (h4 : 0 ≤ a4) (g4 : a4 < 64) {v : Int} (hv : ppc64obj_AOP_MDS.f (a0 % 4294967296) (a1 % 4294967296) (a2 % 4294967296) (a3 % 4294967296) (a4 % 4294967296) = some v) :
    ∀ k, 10 ≤ k → impl_Encode.f k (⟨#[65, 79, 80, 95, 77, 68, 83]⟩ : ByteArray) [a0, a1, a2, a3, a4] = some (v, true) := by
  intro k hk
  refine enc_ok (l1 := [a0, a1, a2, a3, a4]) bounds_AOP_MDS (by simp) (by simp) (by simp) (below_5 (P := fun j => impl_within.f (rd [a0, a1, a2, a3, a4] j) (rd [32, 5, 5, 5, 6] j) = some true) (w1_32 h0 g0) (w1_5 h1 g1) (w1_5 h2 g2) (w1_5 h3 g3) (w1_6 h4 g4)) ((encoded_is_AOP_MDS a0 a1 a2 a3 a4).trans hv) k (by simp only [List.length_cons, List.length_nil]; omega)

end Go.Proofs.Ytnfkdmoblncclaa.X
