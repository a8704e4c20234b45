/- Unlike fields give unlike words, for each encoder of fields. -/
import Derived.Test.YtnfkdmoblncclaaXLay0
import Derived.Test.YtnfkdmoblncclaaXLay1
import Derived.Test.YtnfkdmoblncclaaXLay2
namespace Go.Proofs.Ytnfkdmoblncclaa.X
open Go.RowKit Go.Proofs.YtnfkdmoblncclaaW.PrintWords Go.Proofs.YtnfkdmoblncclaaW.PrintLast Go.Proofs.YtnfkdmoblncclaaW.PrintMore
attribute [local go_sem] max2_int min2_int max_two min_two max_three min_three max_four min_four   -- for this text's walks alone
set_option linter.unusedVariables false
set_option linter.unusedSimpArgs false

set_option maxHeartbeats 4000000 in
theorem apart_AOP_RRR {f0 f1 f2 e0 e1 e2 : Int} (h0 : 0 ≤ f0) (g0 : f0 < 32) (h1 : 0 ≤ f1) (g1 : f1 < 32) (h2 : 0 ≤ f2) (g2 : f2 < 32) (h0' : 0 ≤ e0) (g0' : e0 < 32) (h1' : 0 ≤ e1) (g1' : e1 < 32) (h2' : 0 ≤ e2) (g2' : e2 < 32) (hw : Go.bits .or .u32 (Go.bits .or .u32 (Go.bits .or .u32 0 (f0 * 2097152 % 4294967296)) (f1 * 65536 % 4294967296)) (f2 * 2048 % 4294967296) = Go.bits .or .u32 (Go.bits .or .u32 (Go.bits .or .u32 0 (e0 * 2097152 % 4294967296)) (e1 * 65536 % 4294967296)) (e2 * 2048 % 4294967296)) : f0 = e0 ∧ f1 = e1 ∧ f2 = e2 := by
  have z0 : ∀ p, 5 ≤ p → tb f0 p = false := fun p hp => tb_small f0 5 p h0 g0 hp
  have y0 : ∀ p, 5 ≤ p → tb e0 p = false := fun p hp => tb_small e0 5 p h0' g0' hp
  have z1 : ∀ p, 5 ≤ p → tb f1 p = false := fun p hp => tb_small f1 5 p h1 g1 hp
  have y1 : ∀ p, 5 ≤ p → tb e1 p = false := fun p hp => tb_small e1 5 p h1' g1' hp
  have z2 : ∀ p, 5 ≤ p → tb f2 p = false := fun p hp => tb_small f2 5 p h2 g2 hp
  have y2 : ∀ p, 5 ≤ p → tb e2 p = false := fun p hp => tb_small e2 5 p h2' g2' hp
  have b : ∀ p, tb (Go.bits .or .u32 (Go.bits .or .u32 (Go.bits .or .u32 0 (f0 * 2097152 % 4294967296)) (f1 * 65536 % 4294967296)) (f2 * 2048 % 4294967296)) p = tb (Go.bits .or .u32 (Go.bits .or .u32 (Go.bits .or .u32 0 (e0 * 2097152 % 4294967296)) (e1 * 65536 % 4294967296)) (e2 * 2048 % 4294967296)) p := fun p => by rw [hw]
  clear hw
  simp only [tb_or, tb_and, tb_s0, tb_s1, tb_s2, tb_s3, tb_s4, tb_s5, tb_s6, tb_s7, tb_s8, tb_s9, tb_s10, tb_s11, tb_s12, tb_s13, tb_s14, tb_s15, tb_s16, tb_s17, tb_s18, tb_s19, tb_s20, tb_s21, tb_s22, tb_s23, tb_s24, tb_s25, tb_s26, tb_s27, tb_s28, tb_s29, tb_s30, tb_s31, tb_d1, tb_d2, tb_d3, tb_d4, tb_d5, tb_d6, tb_d7, tb_d8, tb_d9, tb_d10, tb_d11, tb_d12, tb_d13, tb_d14, tb_d15, tb_d16, tb_d17, tb_d18, tb_d19, tb_d20, tb_d21, tb_d22, tb_d23, tb_d24, tb_d25, tb_d26, tb_d27, tb_d28, tb_d29, tb_d30, tb_d31, tb_m1, tb_m2, tb_m3, tb_m4, tb_m5, tb_m6, tb_m7, tb_m8, tb_m9, tb_m10, tb_m11, tb_m12, tb_m13, tb_m14, tb_m15, tb_m16, tb_m17, tb_m18, tb_m19, tb_m20, tb_m21, tb_m22, tb_m23, tb_m24, tb_m25, tb_m26, tb_m27, tb_m28, tb_m29, tb_m30, tb_m31, tb_c1, tb_c3, tb_c15, tb_c31, tb_c32, tb_c65535, tb_c4095, tb_c262143, tb_c67108860, tb_c65532, tb_c67108864, tb_c100663296, tb_c0] at b
  refine ⟨eq_of_tb 5 (by decide) h0 g0 h0' g0' (below_5 (P := fun p => tb f0 p = tb e0 p) ?_ ?_ ?_ ?_ ?_), eq_of_tb 5 (by decide) h1 g1 h1' g1' (below_5 (P := fun p => tb f1 p = tb e1 p) ?_ ?_ ?_ ?_ ?_), eq_of_tb 5 (by decide) h2 g2 h2' g2' (below_5 (P := fun p => tb f2 p = tb e2 p) ?_ ?_ ?_ ?_ ?_)⟩
  · have h := b 21; simpa [z0, y0, z1, y1, z2, y2] using h
  · have h := b 22; simpa [z0, y0, z1, y1, z2, y2] using h
  · have h := b 23; simpa [z0, y0, z1, y1, z2, y2] using h
  · have h := b 24; simpa [z0, y0, z1, y1, z2, y2] using h
  · have h := b 25; simpa [z0, y0, z1, y1, z2, y2] using h
  · have h := b 16; simpa [z0, y0, z1, y1, z2, y2] using h
  · have h := b 17; simpa [z0, y0, z1, y1, z2, y2] using h
  · have h := b 18; simpa [z0, y0, z1, y1, z2, y2] using h
  · have h := b 19; simpa [z0, y0, z1, y1, z2, y2] using h
  · have h := b 20; simpa [z0, y0, z1, y1, z2, y2] using h
  · have h := b 11; simpa [z0, y0, z1, y1, z2, y2] using h
  · have h := b 12; simpa [z0, y0, z1, y1, z2, y2] using h
  · have h := b 13; simpa [z0, y0, z1, y1, z2, y2] using h
  · have h := b 14; simpa [z0, y0, z1, y1, z2, y2] using h
  · have h := b 15; simpa [z0, y0, z1, y1, z2, y2] using h
set_option maxHeartbeats 4000000 in
theorem apart_AOP_RR {f0 f1 e0 e1 : Int} (h0 : 0 ≤ f0) (g0 : f0 < 32) (h1 : 0 ≤ f1) (g1 : f1 < 32) (h0' : 0 ≤ e0) (g0' : e0 < 32) (h1' : 0 ≤ e1) (g1' : e1 < 32) (hw : Go.bits .or .u32 (Go.bits .or .u32 0 (f0 * 2097152 % 4294967296)) (f1 * 2048 % 4294967296) = Go.bits .or .u32 (Go.bits .or .u32 0 (e0 * 2097152 % 4294967296)) (e1 * 2048 % 4294967296)) : f0 = e0 ∧ f1 = e1 := by
  have z0 : ∀ p, 5 ≤ p → tb f0 p = false := fun p hp => tb_small f0 5 p h0 g0 hp
  have y0 : ∀ p, 5 ≤ p → tb e0 p = false := fun p hp => tb_small e0 5 p h0' g0' hp
  have z1 : ∀ p, 5 ≤ p → tb f1 p = false := fun p hp => tb_small f1 5 p h1 g1 hp
  have y1 : ∀ p, 5 ≤ p → tb e1 p = false := fun p hp => tb_small e1 5 p h1' g1' hp
  have b : ∀ p, tb (Go.bits .or .u32 (Go.bits .or .u32 0 (f0 * 2097152 % 4294967296)) (f1 * 2048 % 4294967296)) p = tb (Go.bits .or .u32 (Go.bits .or .u32 0 (e0 * 2097152 % 4294967296)) (e1 * 2048 % 4294967296)) p := fun p => by rw [hw]
  clear hw
  simp only [tb_or, tb_and, tb_s0, tb_s1, tb_s2, tb_s3, tb_s4, tb_s5, tb_s6, tb_s7, tb_s8, tb_s9, tb_s10, tb_s11, tb_s12, tb_s13, tb_s14, tb_s15, tb_s16, tb_s17, tb_s18, tb_s19, tb_s20, tb_s21, tb_s22, tb_s23, tb_s24, tb_s25, tb_s26, tb_s27, tb_s28, tb_s29, tb_s30, tb_s31, tb_d1, tb_d2, tb_d3, tb_d4, tb_d5, tb_d6, tb_d7, tb_d8, tb_d9, tb_d10, tb_d11, tb_d12, tb_d13, tb_d14, tb_d15, tb_d16, tb_d17, tb_d18, tb_d19, tb_d20, tb_d21, tb_d22, tb_d23, tb_d24, tb_d25, tb_d26, tb_d27, tb_d28, tb_d29, tb_d30, tb_d31, tb_m1, tb_m2, tb_m3, tb_m4, tb_m5, tb_m6, tb_m7, tb_m8, tb_m9, tb_m10, tb_m11, tb_m12, tb_m13, tb_m14, tb_m15, tb_m16, tb_m17, tb_m18, tb_m19, tb_m20, tb_m21, tb_m22, tb_m23, tb_m24, tb_m25, tb_m26, tb_m27, tb_m28, tb_m29, tb_m30, tb_m31, tb_c1, tb_c3, tb_c15, tb_c31, tb_c32, tb_c65535, tb_c4095, tb_c262143, tb_c67108860, tb_c65532, tb_c67108864, tb_c100663296, tb_c0] at b
  refine ⟨eq_of_tb 5 (by decide) h0 g0 h0' g0' (below_5 (P := fun p => tb f0 p = tb e0 p) ?_ ?_ ?_ ?_ ?_), eq_of_tb 5 (by decide) h1 g1 h1' g1' (below_5 (P := fun p => tb f1 p = tb e1 p) ?_ ?_ ?_ ?_ ?_)⟩
  · have h := b 21; simpa [z0, y0, z1, y1] using h
  · have h := b 22; simpa [z0, y0, z1, y1] using h
  · have h := b 23; simpa [z0, y0, z1, y1] using h
  · have h := b 24; simpa [z0, y0, z1, y1] using h
  · have h := b 25; simpa [z0, y0, z1, y1] using h
  · have h := b 11; simpa [z0, y0, z1, y1] using h
  · have h := b 12; simpa [z0, y0, z1, y1] using h
  · have h := b 13; simpa [z0, y0, z1, y1] using h
  · have h := b 14; simpa [z0, y0, z1, y1] using h
  · have h := b 15; simpa [z0, y0, z1, y1] using h
set_option maxHeartbeats 4000000 in
theorem apart_AOP_RRRR {f0 f1 f2 f3 e0 e1 e2 e3 : Int} (h0 : 0 ≤ f0) (g0 : f0 < 32) (h1 : 0 ≤ f1) (g1 : f1 < 32) (h2 : 0 ≤ f2) (g2 : f2 < 32) (h3 : 0 ≤ f3) (g3 : f3 < 32) (h0' : 0 ≤ e0) (g0' : e0 < 32) (h1' : 0 ≤ e1) (g1' : e1 < 32) (h2' : 0 ≤ e2) (g2' : e2 < 32) (h3' : 0 ≤ e3) (g3' : e3 < 32) (hw : Go.bits .or .u32 (Go.bits .or .u32 (Go.bits .or .u32 (Go.bits .or .u32 0 (f0 * 2097152 % 4294967296)) (f1 * 65536 % 4294967296)) (f2 * 2048 % 4294967296)) (f3 * 64 % 4294967296) = Go.bits .or .u32 (Go.bits .or .u32 (Go.bits .or .u32 (Go.bits .or .u32 0 (e0 * 2097152 % 4294967296)) (e1 * 65536 % 4294967296)) (e2 * 2048 % 4294967296)) (e3 * 64 % 4294967296)) : f0 = e0 ∧ f1 = e1 ∧ f2 = e2 ∧ f3 = e3 := by
  have z0 : ∀ p, 5 ≤ p → tb f0 p = false := fun p hp => tb_small f0 5 p h0 g0 hp
  have y0 : ∀ p, 5 ≤ p → tb e0 p = false := fun p hp => tb_small e0 5 p h0' g0' hp
  have z1 : ∀ p, 5 ≤ p → tb f1 p = false := fun p hp => tb_small f1 5 p h1 g1 hp
  have y1 : ∀ p, 5 ≤ p → tb e1 p = false := fun p hp => tb_small e1 5 p h1' g1' hp
  have z2 : ∀ p, 5 ≤ p → tb f2 p = false := fun p hp => tb_small f2 5 p h2 g2 hp
  have y2 : ∀ p, 5 ≤ p → tb e2 p = false := fun p hp => tb_small e2 5 p h2' g2' hp
  have z3 : ∀ p, 5 ≤ p → tb f3 p = false := fun p hp => tb_small f3 5 p h3 g3 hp
  have y3 : ∀ p, 5 ≤ p → tb e3 p = false := fun p hp => tb_small e3 5 p h3' g3' hp
  have b : ∀ p, tb (Go.bits .or .u32 (Go.bits .or .u32 (Go.bits .or .u32 (Go.bits .or .u32 0 (f0 * 2097152 % 4294967296)) (f1 * 65536 % 4294967296)) (f2 * 2048 % 4294967296)) (f3 * 64 % 4294967296)) p = tb (Go.bits .or .u32 (Go.bits .or .u32 (Go.bits .or .u32 (Go.bits .or .u32 0 (e0 * 2097152 % 4294967296)) (e1 * 65536 % 4294967296)) (e2 * 2048 % 4294967296)) (e3 * 64 % 4294967296)) p := fun p => by rw [hw]
  clear hw
  simp only [tb_or, tb_and, tb_s0, tb_s1, tb_s2, tb_s3, tb_s4, tb_s5, tb_s6, tb_s7, tb_s8, tb_s9, tb_s10, tb_s11, tb_s12, tb_s13, tb_s14, tb_s15, tb_s16, tb_s17, tb_s18, tb_s19, tb_s20, tb_s21, tb_s22, tb_s23, tb_s24, tb_s25, tb_s26, tb_s27, tb_s28, tb_s29, tb_s30, tb_s31, tb_d1, tb_d2, tb_d3, tb_d4, tb_d5, tb_d6, tb_d7, tb_d8, tb_d9, tb_d10, tb_d11, tb_d12, tb_d13, tb_d14, tb_d15, tb_d16, tb_d17, tb_d18, tb_d19, tb_d20, tb_d21, tb_d22, tb_d23, tb_d24, tb_d25, tb_d26, tb_d27, tb_d28, tb_d29, tb_d30, tb_d31, tb_m1, tb_m2, tb_m3, tb_m4, tb_m5, tb_m6, tb_m7, tb_m8, tb_m9, tb_m10, tb_m11, tb_m12, tb_m13, tb_m14, tb_m15, tb_m16, tb_m17, tb_m18, tb_m19, tb_m20, tb_m21, tb_m22, tb_m23, tb_m24, tb_m25, tb_m26, tb_m27, tb_m28, tb_m29, tb_m30, tb_m31, tb_c1, tb_c3, tb_c15, tb_c31, tb_c32, tb_c65535, tb_c4095, tb_c262143, tb_c67108860, tb_c65532, tb_c67108864, tb_c100663296, tb_c0] at b
  refine ⟨eq_of_tb 5 (by decide) h0 g0 h0' g0' (below_5 (P := fun p => tb f0 p = tb e0 p) ?_ ?_ ?_ ?_ ?_), eq_of_tb 5 (by decide) h1 g1 h1' g1' (below_5 (P := fun p => tb f1 p = tb e1 p) ?_ ?_ ?_ ?_ ?_), eq_of_tb 5 (by decide) h2 g2 h2' g2' (below_5 (P := fun p => tb f2 p = tb e2 p) ?_ ?_ ?_ ?_ ?_), eq_of_tb 5 (by decide) h3 g3 h3' g3' (below_5 (P := fun p => tb f3 p = tb e3 p) ?_ ?_ ?_ ?_ ?_)⟩
  · have h := b 21; simpa [z0, y0, z1, y1, z2, y2, z3, y3] using h
  · have h := b 22; simpa [z0, y0, z1, y1, z2, y2, z3, y3] using h
  · have h := b 23; simpa [z0, y0, z1, y1, z2, y2, z3, y3] using h
  · have h := b 24; simpa [z0, y0, z1, y1, z2, y2, z3, y3] using h
  · have h := b 25; simpa [z0, y0, z1, y1, z2, y2, z3, y3] using h
  · have h := b 16; simpa [z0, y0, z1, y1, z2, y2, z3, y3] using h
  · have h := b 17; simpa [z0, y0, z1, y1, z2, y2, z3, y3] using h
  · have h := b 18; simpa [z0, y0, z1, y1, z2, y2, z3, y3] using h
  · have h := b 19; simpa [z0, y0, z1, y1, z2, y2, z3, y3] using h
  · have h := b 20; simpa [z0, y0, z1, y1, z2, y2, z3, y3] using h
  · have h := b 11; simpa [z0, y0, z1, y1, z2, y2, z3, y3] using h
  · have h := b 12; simpa [z0, y0, z1, y1, z2, y2, z3, y3] using h
  · have h := b 13; simpa [z0, y0, z1, y1, z2, y2, z3, y3] using h
  · have h := b 14; simpa [z0, y0, z1, y1, z2, y2, z3, y3] using h
  · have h := b 15; simpa [z0, y0, z1, y1, z2, y2, z3, y3] using h
  · have h := b 6; simpa [z0, y0, z1, y1, z2, y2, z3, y3] using h
  · have h := b 7; simpa [z0, y0, z1, y1, z2, y2, z3, y3] using h
  · have h := b 8; simpa [z0, y0, z1, y1, z2, y2, z3, y3] using h
  · have h := b 9; simpa [z0, y0, z1, y1, z2, y2, z3, y3] using h
  · have h := b 10; simpa [z0, y0, z1, y1, z2, y2, z3, y3] using h
set_option maxHeartbeats 4000000 in
theorem apart_AOP_IRR {f0 f1 f2 e0 e1 e2 : Int} (h0 : 0 ≤ f0) (g0 : f0 < 32) (h1 : 0 ≤ f1) (g1 : f1 < 32) (h2 : 0 ≤ f2) (g2 : f2 < 65536) (h0' : 0 ≤ e0) (g0' : e0 < 32) (h1' : 0 ≤ e1) (g1' : e1 < 32) (h2' : 0 ≤ e2) (g2' : e2 < 65536) (hw : Go.bits .or .u32 (Go.bits .or .u32 (Go.bits .or .u32 0 (f0 * 2097152 % 4294967296)) (f1 * 65536 % 4294967296)) (f2 * 1 % 4294967296) = Go.bits .or .u32 (Go.bits .or .u32 (Go.bits .or .u32 0 (e0 * 2097152 % 4294967296)) (e1 * 65536 % 4294967296)) (e2 * 1 % 4294967296)) : f0 = e0 ∧ f1 = e1 ∧ f2 = e2 := by
  have z0 : ∀ p, 5 ≤ p → tb f0 p = false := fun p hp => tb_small f0 5 p h0 g0 hp
  have y0 : ∀ p, 5 ≤ p → tb e0 p = false := fun p hp => tb_small e0 5 p h0' g0' hp
  have z1 : ∀ p, 5 ≤ p → tb f1 p = false := fun p hp => tb_small f1 5 p h1 g1 hp
  have y1 : ∀ p, 5 ≤ p → tb e1 p = false := fun p hp => tb_small e1 5 p h1' g1' hp
  have z2 : ∀ p, 16 ≤ p → tb f2 p = false := fun p hp => tb_small f2 16 p h2 g2 hp
  have y2 : ∀ p, 16 ≤ p → tb e2 p = false := fun p hp => tb_small e2 16 p h2' g2' hp
  have b : ∀ p, tb (Go.bits .or .u32 (Go.bits .or .u32 (Go.bits .or .u32 0 (f0 * 2097152 % 4294967296)) (f1 * 65536 % 4294967296)) (f2 * 1 % 4294967296)) p = tb (Go.bits .or .u32 (Go.bits .or .u32 (Go.bits .or .u32 0 (e0 * 2097152 % 4294967296)) (e1 * 65536 % 4294967296)) (e2 * 1 % 4294967296)) p := fun p => by rw [hw]
  clear hw
  simp only [tb_or, tb_and, tb_s0, tb_s1, tb_s2, tb_s3, tb_s4, tb_s5, tb_s6, tb_s7, tb_s8, tb_s9, tb_s10, tb_s11, tb_s12, tb_s13, tb_s14, tb_s15, tb_s16, tb_s17, tb_s18, tb_s19, tb_s20, tb_s21, tb_s22, tb_s23, tb_s24, tb_s25, tb_s26, tb_s27, tb_s28, tb_s29, tb_s30, tb_s31, tb_d1, tb_d2, tb_d3, tb_d4, tb_d5, tb_d6, tb_d7, tb_d8, tb_d9, tb_d10, tb_d11, tb_d12, tb_d13, tb_d14, tb_d15, tb_d16, tb_d17, tb_d18, tb_d19, tb_d20, tb_d21, tb_d22, tb_d23, tb_d24, tb_d25, tb_d26, tb_d27, tb_d28, tb_d29, tb_d30, tb_d31, tb_m1, tb_m2, tb_m3, tb_m4, tb_m5, tb_m6, tb_m7, tb_m8, tb_m9, tb_m10, tb_m11, tb_m12, tb_m13, tb_m14, tb_m15, tb_m16, tb_m17, tb_m18, tb_m19, tb_m20, tb_m21, tb_m22, tb_m23, tb_m24, tb_m25, tb_m26, tb_m27, tb_m28, tb_m29, tb_m30, tb_m31, tb_c1, tb_c3, tb_c15, tb_c31, tb_c32, tb_c65535, tb_c4095, tb_c262143, tb_c67108860, tb_c65532, tb_c67108864, tb_c100663296, tb_c0] at b
  refine ⟨eq_of_tb 5 (by decide) h0 g0 h0' g0' (below_5 (P := fun p => tb f0 p = tb e0 p) ?_ ?_ ?_ ?_ ?_), eq_of_tb 5 (by decide) h1 g1 h1' g1' (below_5 (P := fun p => tb f1 p = tb e1 p) ?_ ?_ ?_ ?_ ?_), eq_of_tb 16 (by decide) h2 g2 h2' g2' (below_16 (P := fun p => tb f2 p = tb e2 p) ?_ ?_ ?_ ?_ ?_ ?_ ?_ ?_ ?_ ?_ ?_ ?_ ?_ ?_ ?_ ?_)⟩
  · have h := b 21; simpa [z0, y0, z1, y1, z2, y2] using h
  · have h := b 22; simpa [z0, y0, z1, y1, z2, y2] using h
  · have h := b 23; simpa [z0, y0, z1, y1, z2, y2] using h
  · have h := b 24; simpa [z0, y0, z1, y1, z2, y2] using h
  · have h := b 25; simpa [z0, y0, z1, y1, z2, y2] using h
  · have h := b 16; simpa [z0, y0, z1, y1, z2, y2] using h
  · have h := b 17; simpa [z0, y0, z1, y1, z2, y2] using h
  · have h := b 18; simpa [z0, y0, z1, y1, z2, y2] using h
  · have h := b 19; simpa [z0, y0, z1, y1, z2, y2] using h
  · have h := b 20; simpa [z0, y0, z1, y1, z2, y2] using h
  · have h := b 0; simpa [z0, y0, z1, y1, z2, y2] using h
  · have h := b 1; simpa [z0, y0, z1, y1, z2, y2] using h
  · have h := b 2; simpa [z0, y0, z1, y1, z2, y2] using h
  · have h := b 3; simpa [z0, y0, z1, y1, z2, y2] using h
  · have h := b 4; simpa [z0, y0, z1, y1, z2, y2] using h
  · have h := b 5; simpa [z0, y0, z1, y1, z2, y2] using h
  · have h := b 6; simpa [z0, y0, z1, y1, z2, y2] using h
  · have h := b 7; simpa [z0, y0, z1, y1, z2, y2] using h
  · have h := b 8; simpa [z0, y0, z1, y1, z2, y2] using h
  · have h := b 9; simpa [z0, y0, z1, y1, z2, y2] using h
  · have h := b 10; simpa [z0, y0, z1, y1, z2, y2] using h
  · have h := b 11; simpa [z0, y0, z1, y1, z2, y2] using h
  · have h := b 12; simpa [z0, y0, z1, y1, z2, y2] using h
  · have h := b 13; simpa [z0, y0, z1, y1, z2, y2] using h
  · have h := b 14; simpa [z0, y0, z1, y1, z2, y2] using h
  · have h := b 15; simpa [z0, y0, z1, y1, z2, y2] using h
set_option maxHeartbeats 4000000 in
theorem apart_AOP_VIRR {f0 f1 f2 e0 e1 e2 : Int} (h0 : 0 ≤ f0) (g0 : f0 < 32) (h1 : 0 ≤ f1) (g1 : f1 < 32) (h2 : 0 ≤ f2) (g2 : f2 < 32) (h0' : 0 ≤ e0) (g0' : e0 < 32) (h1' : 0 ≤ e1) (g1' : e1 < 32) (h2' : 0 ≤ e2) (g2' : e2 < 32) (hw : Go.bits .or .u32 (Go.bits .or .u32 (Go.bits .or .u32 0 (f0 * 2097152 % 4294967296)) (f1 * 2048 % 4294967296)) (f2 * 65536 % 4294967296) = Go.bits .or .u32 (Go.bits .or .u32 (Go.bits .or .u32 0 (e0 * 2097152 % 4294967296)) (e1 * 2048 % 4294967296)) (e2 * 65536 % 4294967296)) : f0 = e0 ∧ f1 = e1 ∧ f2 = e2 := by
  have z0 : ∀ p, 5 ≤ p → tb f0 p = false := fun p hp => tb_small f0 5 p h0 g0 hp
  have y0 : ∀ p, 5 ≤ p → tb e0 p = false := fun p hp => tb_small e0 5 p h0' g0' hp
  have z1 : ∀ p, 5 ≤ p → tb f1 p = false := fun p hp => tb_small f1 5 p h1 g1 hp
  have y1 : ∀ p, 5 ≤ p → tb e1 p = false := fun p hp => tb_small e1 5 p h1' g1' hp
  have z2 : ∀ p, 5 ≤ p → tb f2 p = false := fun p hp => tb_small f2 5 p h2 g2 hp
  have y2 : ∀ p, 5 ≤ p → tb e2 p = false := fun p hp => tb_small e2 5 p h2' g2' hp
  have b : ∀ p, tb (Go.bits .or .u32 (Go.bits .or .u32 (Go.bits .or .u32 0 (f0 * 2097152 % 4294967296)) (f1 * 2048 % 4294967296)) (f2 * 65536 % 4294967296)) p = tb (Go.bits .or .u32 (Go.bits .or .u32 (Go.bits .or .u32 0 (e0 * 2097152 % 4294967296)) (e1 * 2048 % 4294967296)) (e2 * 65536 % 4294967296)) p := fun p => by rw [hw]
  clear hw
  simp only [tb_or, tb_and, tb_s0, tb_s1, tb_s2, tb_s3, tb_s4, tb_s5, tb_s6, tb_s7, tb_s8, tb_s9, tb_s10, tb_s11, tb_s12, tb_s13, tb_s14, tb_s15, tb_s16, tb_s17, tb_s18, tb_s19, tb_s20, tb_s21, tb_s22, tb_s23, tb_s24, tb_s25, tb_s26, tb_s27, tb_s28, tb_s29, tb_s30, tb_s31, tb_d1, tb_d2, tb_d3, tb_d4, tb_d5, tb_d6, tb_d7, tb_d8, tb_d9, tb_d10, tb_d11, tb_d12, tb_d13, tb_d14, tb_d15, tb_d16, tb_d17, tb_d18, tb_d19, tb_d20, tb_d21, tb_d22, tb_d23, tb_d24, tb_d25, tb_d26, tb_d27, tb_d28, tb_d29, tb_d30, tb_d31, tb_m1, tb_m2, tb_m3, tb_m4, tb_m5, tb_m6, tb_m7, tb_m8, tb_m9, tb_m10, tb_m11, tb_m12, tb_m13, tb_m14, tb_m15, tb_m16, tb_m17, tb_m18, tb_m19, tb_m20, tb_m21, tb_m22, tb_m23, tb_m24, tb_m25, tb_m26, tb_m27, tb_m28, tb_m29, tb_m30, tb_m31, tb_c1, tb_c3, tb_c15, tb_c31, tb_c32, tb_c65535, tb_c4095, tb_c262143, tb_c67108860, tb_c65532, tb_c67108864, tb_c100663296, tb_c0] at b
  refine ⟨eq_of_tb 5 (by decide) h0 g0 h0' g0' (below_5 (P := fun p => tb f0 p = tb e0 p) ?_ ?_ ?_ ?_ ?_), eq_of_tb 5 (by decide) h1 g1 h1' g1' (below_5 (P := fun p => tb f1 p = tb e1 p) ?_ ?_ ?_ ?_ ?_), eq_of_tb 5 (by decide) h2 g2 h2' g2' (below_5 (P := fun p => tb f2 p = tb e2 p) ?_ ?_ ?_ ?_ ?_)⟩
  · have h := b 21; simpa [z0, y0, z1, y1, z2, y2] using h
  · have h := b 22; simpa [z0, y0, z1, y1, z2, y2] using h
  · have h := b 23; simpa [z0, y0, z1, y1, z2, y2] using h
  · have h := b 24; simpa [z0, y0, z1, y1, z2, y2] using h
  · have h := b 25; simpa [z0, y0, z1, y1, z2, y2] using h
  · have h := b 11; simpa [z0, y0, z1, y1, z2, y2] using h
  · have h := b 12; simpa [z0, y0, z1, y1, z2, y2] using h
  · have h := b 13; simpa [z0, y0, z1, y1, z2, y2] using h
  · have h := b 14; simpa [z0, y0, z1, y1, z2, y2] using h
  · have h := b 15; simpa [z0, y0, z1, y1, z2, y2] using h
  · have h := b 16; simpa [z0, y0, z1, y1, z2, y2] using h
  · have h := b 17; simpa [z0, y0, z1, y1, z2, y2] using h
  · have h := b 18; simpa [z0, y0, z1, y1, z2, y2] using h
  · have h := b 19; simpa [z0, y0, z1, y1, z2, y2] using h
  · have h := b 20; simpa [z0, y0, z1, y1, z2, y2] using h
set_option maxHeartbeats 4000000 in
theorem apart_AOP_IIRR {f0 f1 f2 f3 e0 e1 e2 e3 : Int} (h0 : 0 ≤ f0) (g0 : f0 < 32) (h1 : 0 ≤ f1) (g1 : f1 < 32) (h2 : 0 ≤ f2) (g2 : f2 < 2) (h3 : 0 ≤ f3) (g3 : f3 < 16) (h0' : 0 ≤ e0) (g0' : e0 < 32) (h1' : 0 ≤ e1) (g1' : e1 < 32) (h2' : 0 ≤ e2) (g2' : e2 < 2) (h3' : 0 ≤ e3) (g3' : e3 < 16) (hw : Go.bits .or .u32 (Go.bits .or .u32 (Go.bits .or .u32 (Go.bits .or .u32 0 (f0 * 2097152 % 4294967296)) (f1 * 65536 % 4294967296)) (f2 * 32768 % 4294967296)) (f3 * 2048 % 4294967296) = Go.bits .or .u32 (Go.bits .or .u32 (Go.bits .or .u32 (Go.bits .or .u32 0 (e0 * 2097152 % 4294967296)) (e1 * 65536 % 4294967296)) (e2 * 32768 % 4294967296)) (e3 * 2048 % 4294967296)) : f0 = e0 ∧ f1 = e1 ∧ f2 = e2 ∧ f3 = e3 := by
  have z0 : ∀ p, 5 ≤ p → tb f0 p = false := fun p hp => tb_small f0 5 p h0 g0 hp
  have y0 : ∀ p, 5 ≤ p → tb e0 p = false := fun p hp => tb_small e0 5 p h0' g0' hp
  have z1 : ∀ p, 5 ≤ p → tb f1 p = false := fun p hp => tb_small f1 5 p h1 g1 hp
  have y1 : ∀ p, 5 ≤ p → tb e1 p = false := fun p hp => tb_small e1 5 p h1' g1' hp
  have z2 : ∀ p, 1 ≤ p → tb f2 p = false := fun p hp => tb_small f2 1 p h2 g2 hp
  have y2 : ∀ p, 1 ≤ p → tb e2 p = false := fun p hp => tb_small e2 1 p h2' g2' hp
  have z3 : ∀ p, 4 ≤ p → tb f3 p = false := fun p hp => tb_small f3 4 p h3 g3 hp
  have y3 : ∀ p, 4 ≤ p → tb e3 p = false := fun p hp => tb_small e3 4 p h3' g3' hp
  have b : ∀ p, tb (Go.bits .or .u32 (Go.bits .or .u32 (Go.bits .or .u32 (Go.bits .or .u32 0 (f0 * 2097152 % 4294967296)) (f1 * 65536 % 4294967296)) (f2 * 32768 % 4294967296)) (f3 * 2048 % 4294967296)) p = tb (Go.bits .or .u32 (Go.bits .or .u32 (Go.bits .or .u32 (Go.bits .or .u32 0 (e0 * 2097152 % 4294967296)) (e1 * 65536 % 4294967296)) (e2 * 32768 % 4294967296)) (e3 * 2048 % 4294967296)) p := fun p => by rw [hw]
  clear hw
  simp only [tb_or, tb_and, tb_s0, tb_s1, tb_s2, tb_s3, tb_s4, tb_s5, tb_s6, tb_s7, tb_s8, tb_s9, tb_s10, tb_s11, tb_s12, tb_s13, tb_s14, tb_s15, tb_s16, tb_s17, tb_s18, tb_s19, tb_s20, tb_s21, tb_s22, tb_s23, tb_s24, tb_s25, tb_s26, tb_s27, tb_s28, tb_s29, tb_s30, tb_s31, tb_d1, tb_d2, tb_d3, tb_d4, tb_d5, tb_d6, tb_d7, tb_d8, tb_d9, tb_d10, tb_d11, tb_d12, tb_d13, tb_d14, tb_d15, tb_d16, tb_d17, tb_d18, tb_d19, tb_d20, tb_d21, tb_d22, tb_d23, tb_d24, tb_d25, tb_d26, tb_d27, tb_d28, tb_d29, tb_d30, tb_d31, tb_m1, tb_m2, tb_m3, tb_m4, tb_m5, tb_m6, tb_m7, tb_m8, tb_m9, tb_m10, tb_m11, tb_m12, tb_m13, tb_m14, tb_m15, tb_m16, tb_m17, tb_m18, tb_m19, tb_m20, tb_m21, tb_m22, tb_m23, tb_m24, tb_m25, tb_m26, tb_m27, tb_m28, tb_m29, tb_m30, tb_m31, tb_c1, tb_c3, tb_c15, tb_c31, tb_c32, tb_c65535, tb_c4095, tb_c262143, tb_c67108860, tb_c65532, tb_c67108864, tb_c100663296, tb_c0] at b
  refine ⟨eq_of_tb 5 (by decide) h0 g0 h0' g0' (below_5 (P := fun p => tb f0 p = tb e0 p) ?_ ?_ ?_ ?_ ?_), eq_of_tb 5 (by decide) h1 g1 h1' g1' (below_5 (P := fun p => tb f1 p = tb e1 p) ?_ ?_ ?_ ?_ ?_), eq_of_tb 1 (by decide) h2 g2 h2' g2' (below_1 (P := fun p => tb f2 p = tb e2 p) ?_), eq_of_tb 4 (by decide) h3 g3 h3' g3' (below_4 (P := fun p => tb f3 p = tb e3 p) ?_ ?_ ?_ ?_)⟩
  · have h := b 21; simpa [z0, y0, z1, y1, z2, y2, z3, y3] using h
  · have h := b 22; simpa [z0, y0, z1, y1, z2, y2, z3, y3] using h
  · have h := b 23; simpa [z0, y0, z1, y1, z2, y2, z3, y3] using h
  · have h := b 24; simpa [z0, y0, z1, y1, z2, y2, z3, y3] using h
  · have h := b 25; simpa [z0, y0, z1, y1, z2, y2, z3, y3] using h
  · have h := b 16; simpa [z0, y0, z1, y1, z2, y2, z3, y3] using h
  · have h := b 17; simpa [z0, y0, z1, y1, z2, y2, z3, y3] using h
  · have h := b 18; simpa [z0, y0, z1, y1, z2, y2, z3, y3] using h
  · have h := b 19; simpa [z0, y0, z1, y1, z2, y2, z3, y3] using h
  · have h := b 20; simpa [z0, y0, z1, y1, z2, y2, z3, y3] using h
  · have h := b 15; simpa [z0, y0, z1, y1, z2, y2, z3, y3] using h
  · have h := b 11; simpa [z0, y0, z1, y1, z2, y2, z3, y3] using h
  · have h := b 12; simpa [z0, y0, z1, y1, z2, y2, z3, y3] using h
  · have h := b 13; simpa [z0, y0, z1, y1, z2, y2, z3, y3] using h
  · have h := b 14; simpa [z0, y0, z1, y1, z2, y2, z3, y3] using h
set_option maxHeartbeats 4000000 in
theorem apart_AOP_IRRR {f0 f1 f2 f3 e0 e1 e2 e3 : Int} (h0 : 0 ≤ f0) (g0 : f0 < 32) (h1 : 0 ≤ f1) (g1 : f1 < 32) (h2 : 0 ≤ f2) (g2 : f2 < 32) (h3 : 0 ≤ f3) (g3 : f3 < 16) (h0' : 0 ≤ e0) (g0' : e0 < 32) (h1' : 0 ≤ e1) (g1' : e1 < 32) (h2' : 0 ≤ e2) (g2' : e2 < 32) (h3' : 0 ≤ e3) (g3' : e3 < 16) (hw : Go.bits .or .u32 (Go.bits .or .u32 (Go.bits .or .u32 (Go.bits .or .u32 0 (f0 * 2097152 % 4294967296)) (f1 * 65536 % 4294967296)) (f2 * 2048 % 4294967296)) (f3 * 64 % 4294967296) = Go.bits .or .u32 (Go.bits .or .u32 (Go.bits .or .u32 (Go.bits .or .u32 0 (e0 * 2097152 % 4294967296)) (e1 * 65536 % 4294967296)) (e2 * 2048 % 4294967296)) (e3 * 64 % 4294967296)) : f0 = e0 ∧ f1 = e1 ∧ f2 = e2 ∧ f3 = e3 := by
  have z0 : ∀ p, 5 ≤ p → tb f0 p = false := fun p hp => tb_small f0 5 p h0 g0 hp
  have y0 : ∀ p, 5 ≤ p → tb e0 p = false := fun p hp => tb_small e0 5 p h0' g0' hp
  have z1 : ∀ p, 5 ≤ p → tb f1 p = false := fun p hp => tb_small f1 5 p h1 g1 hp
  have y1 : ∀ p, 5 ≤ p → tb e1 p = false := fun p hp => tb_small e1 5 p h1' g1' hp
  have z2 : ∀ p, 5 ≤ p → tb f2 p = false := fun p hp => tb_small f2 5 p h2 g2 hp
  have y2 : ∀ p, 5 ≤ p → tb e2 p = false := fun p hp => tb_small e2 5 p h2' g2' hp
  have z3 : ∀ p, 4 ≤ p → tb f3 p = false := fun p hp => tb_small f3 4 p h3 g3 hp
  have y3 : ∀ p, 4 ≤ p → tb e3 p = false := fun p hp => tb_small e3 4 p h3' g3' hp
  have b : ∀ p, tb (Go.bits .or .u32 (Go.bits .or .u32 (Go.bits .or .u32 (Go.bits .or .u32 0 (f0 * 2097152 % 4294967296)) (f1 * 65536 % 4294967296)) (f2 * 2048 % 4294967296)) (f3 * 64 % 4294967296)) p = tb (Go.bits .or .u32 (Go.bits .or .u32 (Go.bits .or .u32 (Go.bits .or .u32 0 (e0 * 2097152 % 4294967296)) (e1 * 65536 % 4294967296)) (e2 * 2048 % 4294967296)) (e3 * 64 % 4294967296)) p := fun p => by rw [hw]
  clear hw
  simp only [tb_or, tb_and, tb_s0, tb_s1, tb_s2, tb_s3, tb_s4, tb_s5, tb_s6, tb_s7, tb_s8, tb_s9, tb_s10, tb_s11, tb_s12, tb_s13, tb_s14, tb_s15, tb_s16, tb_s17, tb_s18, tb_s19, tb_s20, tb_s21, tb_s22, tb_s23, tb_s24, tb_s25, tb_s26, tb_s27, tb_s28, tb_s29, tb_s30, tb_s31, tb_d1, tb_d2, tb_d3, tb_d4, tb_d5, tb_d6, tb_d7, tb_d8, tb_d9, tb_d10, tb_d11, tb_d12, tb_d13, tb_d14, tb_d15, tb_d16, tb_d17, tb_d18, tb_d19, tb_d20, tb_d21, tb_d22, tb_d23, tb_d24, tb_d25, tb_d26, tb_d27, tb_d28, tb_d29, tb_d30, tb_d31, tb_m1, tb_m2, tb_m3, tb_m4, tb_m5, tb_m6, tb_m7, tb_m8, tb_m9, tb_m10, tb_m11, tb_m12, tb_m13, tb_m14, tb_m15, tb_m16, tb_m17, tb_m18, tb_m19, tb_m20, tb_m21, tb_m22, tb_m23, tb_m24, tb_m25, tb_m26, tb_m27, tb_m28, tb_m29, tb_m30, tb_m31, tb_c1, tb_c3, tb_c15, tb_c31, tb_c32, tb_c65535, tb_c4095, tb_c262143, tb_c67108860, tb_c65532, tb_c67108864, tb_c100663296, tb_c0] at b
  refine ⟨eq_of_tb 5 (by decide) h0 g0 h0' g0' (below_5 (P := fun p => tb f0 p = tb e0 p) ?_ ?_ ?_ ?_ ?_), eq_of_tb 5 (by decide) h1 g1 h1' g1' (below_5 (P := fun p => tb f1 p = tb e1 p) ?_ ?_ ?_ ?_ ?_), eq_of_tb 5 (by decide) h2 g2 h2' g2' (below_5 (P := fun p => tb f2 p = tb e2 p) ?_ ?_ ?_ ?_ ?_), eq_of_tb 4 (by decide) h3 g3 h3' g3' (below_4 (P := fun p => tb f3 p = tb e3 p) ?_ ?_ ?_ ?_)⟩
  · have h := b 21; simpa [z0, y0, z1, y1, z2, y2, z3, y3] using h
  · have h := b 22; simpa [z0, y0, z1, y1, z2, y2, z3, y3] using h
  · have h := b 23; simpa [z0, y0, z1, y1, z2, y2, z3, y3] using h
  · have h := b 24; simpa [z0, y0, z1, y1, z2, y2, z3, y3] using h
  · have h := b 25; simpa [z0, y0, z1, y1, z2, y2, z3, y3] using h
  · have h := b 16; simpa [z0, y0, z1, y1, z2, y2, z3, y3] using h
  · have h := b 17; simpa [z0, y0, z1, y1, z2, y2, z3, y3] using h
  · have h := b 18; simpa [z0, y0, z1, y1, z2, y2, z3, y3] using h
  · have h := b 19; simpa [z0, y0, z1, y1, z2, y2, z3, y3] using h
  · have h := b 20; simpa [z0, y0, z1, y1, z2, y2, z3, y3] using h
  · have h := b 11; simpa [z0, y0, z1, y1, z2, y2, z3, y3] using h
  · have h := b 12; simpa [z0, y0, z1, y1, z2, y2, z3, y3] using h
  · have h := b 13; simpa [z0, y0, z1, y1, z2, y2, z3, y3] using h
  · have h := b 14; simpa [z0, y0, z1, y1, z2, y2, z3, y3] using h
  · have h := b 15; simpa [z0, y0, z1, y1, z2, y2, z3, y3] using h
  · have h := b 6; simpa [z0, y0, z1, y1, z2, y2, z3, y3] using h
  · have h := b 7; simpa [z0, y0, z1, y1, z2, y2, z3, y3] using h
  · have h := b 8; simpa [z0, y0, z1, y1, z2, y2, z3, y3] using h
  · have h := b 9; simpa [z0, y0, z1, y1, z2, y2, z3, y3] using h
set_option maxHeartbeats 4000000 in
theorem apart_AOP_IR {f0 f1 e0 e1 : Int} (h0 : 0 ≤ f0) (g0 : f0 < 32) (h1 : 0 ≤ f1) (g1 : f1 < 32) (h0' : 0 ≤ e0) (g0' : e0 < 32) (h1' : 0 ≤ e1) (g1' : e1 < 32) (hw : Go.bits .or .u32 (Go.bits .or .u32 0 (f0 * 2097152 % 4294967296)) (f1 * 65536 % 4294967296) = Go.bits .or .u32 (Go.bits .or .u32 0 (e0 * 2097152 % 4294967296)) (e1 * 65536 % 4294967296)) : f0 = e0 ∧ f1 = e1 := by
  have z0 : ∀ p, 5 ≤ p → tb f0 p = false := fun p hp => tb_small f0 5 p h0 g0 hp
  have y0 : ∀ p, 5 ≤ p → tb e0 p = false := fun p hp => tb_small e0 5 p h0' g0' hp
  have z1 : ∀ p, 5 ≤ p → tb f1 p = false := fun p hp => tb_small f1 5 p h1 g1 hp
  have y1 : ∀ p, 5 ≤ p → tb e1 p = false := fun p hp => tb_small e1 5 p h1' g1' hp
  have b : ∀ p, tb (Go.bits .or .u32 (Go.bits .or .u32 0 (f0 * 2097152 % 4294967296)) (f1 * 65536 % 4294967296)) p = tb (Go.bits .or .u32 (Go.bits .or .u32 0 (e0 * 2097152 % 4294967296)) (e1 * 65536 % 4294967296)) p := fun p => by rw [hw]
  clear hw
  simp only [tb_or, tb_and, tb_s0, tb_s1, tb_s2, tb_s3, tb_s4, tb_s5, tb_s6, tb_s7, tb_s8, tb_s9, tb_s10, tb_s11, tb_s12, tb_s13, tb_s14, tb_s15, tb_s16, tb_s17, tb_s18, tb_s19, tb_s20, tb_s21, tb_s22, tb_s23, tb_s24, tb_s25, tb_s26, tb_s27, tb_s28, tb_s29, tb_s30, tb_s31, tb_d1, tb_d2, tb_d3, tb_d4, tb_d5, tb_d6, tb_d7, tb_d8, tb_d9, tb_d10, tb_d11, tb_d12, tb_d13, tb_d14, tb_d15, tb_d16, tb_d17, tb_d18, tb_d19, tb_d20, tb_d21, tb_d22, tb_d23, tb_d24, tb_d25, tb_d26, tb_d27, tb_d28, tb_d29, tb_d30, tb_d31, tb_m1, tb_m2, tb_m3, tb_m4, tb_m5, tb_m6, tb_m7, tb_m8, tb_m9, tb_m10, tb_m11, tb_m12, tb_m13, tb_m14, tb_m15, tb_m16, tb_m17, tb_m18, tb_m19, tb_m20, tb_m21, tb_m22, tb_m23, tb_m24, tb_m25, tb_m26, tb_m27, tb_m28, tb_m29, tb_m30, tb_m31, tb_c1, tb_c3, tb_c15, tb_c31, tb_c32, tb_c65535, tb_c4095, tb_c262143, tb_c67108860, tb_c65532, tb_c67108864, tb_c100663296, tb_c0] at b
  refine ⟨eq_of_tb 5 (by decide) h0 g0 h0' g0' (below_5 (P := fun p => tb f0 p = tb e0 p) ?_ ?_ ?_ ?_ ?_), eq_of_tb 5 (by decide) h1 g1 h1' g1' (below_5 (P := fun p => tb f1 p = tb e1 p) ?_ ?_ ?_ ?_ ?_)⟩
  · have h := b 21; simpa [z0, y0, z1, y1] using h
  · have h := b 22; simpa [z0, y0, z1, y1] using h
  · have h := b 23; simpa [z0, y0, z1, y1] using h
  · have h := b 24; simpa [z0, y0, z1, y1] using h
  · have h := b 25; simpa [z0, y0, z1, y1] using h
  · have h := b 16; simpa [z0, y0, z1, y1] using h
  · have h := b 17; simpa [z0, y0, z1, y1] using h
  · have h := b 18; simpa [z0, y0, z1, y1] using h
  · have h := b 19; simpa [z0, y0, z1, y1] using h
  · have h := b 20; simpa [z0, y0, z1, y1] using h
set_option maxHeartbeats 4000000 in
theorem apart_AOP_XX1 {f0 f1 f2 e0 e1 e2 : Int} (h0 : 0 ≤ f0) (g0 : f0 < 64) (h1 : 0 ≤ f1) (g1 : f1 < 32) (h2 : 0 ≤ f2) (g2 : f2 < 32) (h0' : 0 ≤ e0) (g0' : e0 < 64) (h1' : 0 ≤ e1) (g1' : e1 < 32) (h2' : 0 ≤ e2) (g2' : e2 < 32) (hw : Go.bits .or .u32 (Go.bits .or .u32 (Go.bits .or .u32 0 (Go.bits .or .u32 (f0 % 32 * 2097152 % 4294967296) (f0 / 32 * 1 % 4294967296))) (f1 * 65536 % 4294967296)) (f2 * 2048 % 4294967296) = Go.bits .or .u32 (Go.bits .or .u32 (Go.bits .or .u32 0 (Go.bits .or .u32 (e0 % 32 * 2097152 % 4294967296) (e0 / 32 * 1 % 4294967296))) (e1 * 65536 % 4294967296)) (e2 * 2048 % 4294967296)) : f0 = e0 ∧ f1 = e1 ∧ f2 = e2 := by
  have z0 : ∀ p, 6 ≤ p → tb f0 p = false := fun p hp => tb_small f0 6 p h0 g0 hp
  have y0 : ∀ p, 6 ≤ p → tb e0 p = false := fun p hp => tb_small e0 6 p h0' g0' hp
  have lf0 : ∀ p, tb (f0 % 32) p = (tb f0 p && decide (p < 5)) := fun p => tb_lo5 f0 p h0
  have uf0 : ∀ p, tb (f0 / 32) p = tb f0 (5 + p) := fun p => tb_hi5 f0 p h0 (by omega)
  have le0 : ∀ p, tb (e0 % 32) p = (tb e0 p && decide (p < 5)) := fun p => tb_lo5 e0 p h0'
  have ue0 : ∀ p, tb (e0 / 32) p = tb e0 (5 + p) := fun p => tb_hi5 e0 p h0' (by omega)
  have z1 : ∀ p, 5 ≤ p → tb f1 p = false := fun p hp => tb_small f1 5 p h1 g1 hp
  have y1 : ∀ p, 5 ≤ p → tb e1 p = false := fun p hp => tb_small e1 5 p h1' g1' hp
  have z2 : ∀ p, 5 ≤ p → tb f2 p = false := fun p hp => tb_small f2 5 p h2 g2 hp
  have y2 : ∀ p, 5 ≤ p → tb e2 p = false := fun p hp => tb_small e2 5 p h2' g2' hp
  have b : ∀ p, tb (Go.bits .or .u32 (Go.bits .or .u32 (Go.bits .or .u32 0 (Go.bits .or .u32 (f0 % 32 * 2097152 % 4294967296) (f0 / 32 * 1 % 4294967296))) (f1 * 65536 % 4294967296)) (f2 * 2048 % 4294967296)) p = tb (Go.bits .or .u32 (Go.bits .or .u32 (Go.bits .or .u32 0 (Go.bits .or .u32 (e0 % 32 * 2097152 % 4294967296) (e0 / 32 * 1 % 4294967296))) (e1 * 65536 % 4294967296)) (e2 * 2048 % 4294967296)) p := fun p => by rw [hw]
  clear hw
  simp only [tb_or, tb_and, tb_s0, tb_s1, tb_s2, tb_s3, tb_s4, tb_s5, tb_s6, tb_s7, tb_s8, tb_s9, tb_s10, tb_s11, tb_s12, tb_s13, tb_s14, tb_s15, tb_s16, tb_s17, tb_s18, tb_s19, tb_s20, tb_s21, tb_s22, tb_s23, tb_s24, tb_s25, tb_s26, tb_s27, tb_s28, tb_s29, tb_s30, tb_s31, tb_d1, tb_d2, tb_d3, tb_d4, tb_d5, tb_d6, tb_d7, tb_d8, tb_d9, tb_d10, tb_d11, tb_d12, tb_d13, tb_d14, tb_d15, tb_d16, tb_d17, tb_d18, tb_d19, tb_d20, tb_d21, tb_d22, tb_d23, tb_d24, tb_d25, tb_d26, tb_d27, tb_d28, tb_d29, tb_d30, tb_d31, tb_m1, tb_m2, tb_m3, tb_m4, tb_m5, tb_m6, tb_m7, tb_m8, tb_m9, tb_m10, tb_m11, tb_m12, tb_m13, tb_m14, tb_m15, tb_m16, tb_m17, tb_m18, tb_m19, tb_m20, tb_m21, tb_m22, tb_m23, tb_m24, tb_m25, tb_m26, tb_m27, tb_m28, tb_m29, tb_m30, tb_m31, tb_c1, tb_c3, tb_c15, tb_c31, tb_c32, tb_c65535, tb_c4095, tb_c262143, tb_c67108860, tb_c65532, tb_c67108864, tb_c100663296, tb_c0] at b
  refine ⟨eq_of_tb 6 (by decide) h0 g0 h0' g0' (below_6 (P := fun p => tb f0 p = tb e0 p) ?_ ?_ ?_ ?_ ?_ ?_), eq_of_tb 5 (by decide) h1 g1 h1' g1' (below_5 (P := fun p => tb f1 p = tb e1 p) ?_ ?_ ?_ ?_ ?_), eq_of_tb 5 (by decide) h2 g2 h2' g2' (below_5 (P := fun p => tb f2 p = tb e2 p) ?_ ?_ ?_ ?_ ?_)⟩
  · have h := b 21; simpa [z0, y0, z1, y1, z2, y2, lf0, uf0, le0, ue0] using h
  · have h := b 22; simpa [z0, y0, z1, y1, z2, y2, lf0, uf0, le0, ue0] using h
  · have h := b 23; simpa [z0, y0, z1, y1, z2, y2, lf0, uf0, le0, ue0] using h
  · have h := b 24; simpa [z0, y0, z1, y1, z2, y2, lf0, uf0, le0, ue0] using h
  · have h := b 25; simpa [z0, y0, z1, y1, z2, y2, lf0, uf0, le0, ue0] using h
  · have h := b 0; simpa [z0, y0, z1, y1, z2, y2, lf0, uf0, le0, ue0] using h
  · have h := b 16; simpa [z0, y0, z1, y1, z2, y2, lf0, uf0, le0, ue0] using h
  · have h := b 17; simpa [z0, y0, z1, y1, z2, y2, lf0, uf0, le0, ue0] using h
  · have h := b 18; simpa [z0, y0, z1, y1, z2, y2, lf0, uf0, le0, ue0] using h
  · have h := b 19; simpa [z0, y0, z1, y1, z2, y2, lf0, uf0, le0, ue0] using h
  · have h := b 20; simpa [z0, y0, z1, y1, z2, y2, lf0, uf0, le0, ue0] using h
  · have h := b 11; simpa [z0, y0, z1, y1, z2, y2, lf0, uf0, le0, ue0] using h
  · have h := b 12; simpa [z0, y0, z1, y1, z2, y2, lf0, uf0, le0, ue0] using h
  · have h := b 13; simpa [z0, y0, z1, y1, z2, y2, lf0, uf0, le0, ue0] using h
  · have h := b 14; simpa [z0, y0, z1, y1, z2, y2, lf0, uf0, le0, ue0] using h
  · have h := b 15; simpa [z0, y0, z1, y1, z2, y2, lf0, uf0, le0, ue0] using h
set_option maxHeartbeats 4000000 in
theorem apart_AOP_XX2 {f0 f1 f2 e0 e1 e2 : Int} (h0 : 0 ≤ f0) (g0 : f0 < 64) (h1 : 0 ≤ f1) (g1 : f1 < 4) (h2 : 0 ≤ f2) (g2 : f2 < 64) (h0' : 0 ≤ e0) (g0' : e0 < 64) (h1' : 0 ≤ e1) (g1' : e1 < 4) (h2' : 0 ≤ e2) (g2' : e2 < 64) (hw : Go.bits .or .u32 (Go.bits .or .u32 (Go.bits .or .u32 0 (Go.bits .or .u32 (f0 % 32 * 2097152 % 4294967296) (f0 / 32 * 1 % 4294967296))) (f1 * 65536 % 4294967296)) (Go.bits .or .u32 (f2 % 32 * 2048 % 4294967296) (f2 / 32 * 2 % 4294967296)) = Go.bits .or .u32 (Go.bits .or .u32 (Go.bits .or .u32 0 (Go.bits .or .u32 (e0 % 32 * 2097152 % 4294967296) (e0 / 32 * 1 % 4294967296))) (e1 * 65536 % 4294967296)) (Go.bits .or .u32 (e2 % 32 * 2048 % 4294967296) (e2 / 32 * 2 % 4294967296))) : f0 = e0 ∧ f1 = e1 ∧ f2 = e2 := by
  have z0 : ∀ p, 6 ≤ p → tb f0 p = false := fun p hp => tb_small f0 6 p h0 g0 hp
  have y0 : ∀ p, 6 ≤ p → tb e0 p = false := fun p hp => tb_small e0 6 p h0' g0' hp
  have lf0 : ∀ p, tb (f0 % 32) p = (tb f0 p && decide (p < 5)) := fun p => tb_lo5 f0 p h0
  have uf0 : ∀ p, tb (f0 / 32) p = tb f0 (5 + p) := fun p => tb_hi5 f0 p h0 (by omega)
  have le0 : ∀ p, tb (e0 % 32) p = (tb e0 p && decide (p < 5)) := fun p => tb_lo5 e0 p h0'
  have ue0 : ∀ p, tb (e0 / 32) p = tb e0 (5 + p) := fun p => tb_hi5 e0 p h0' (by omega)
  have z1 : ∀ p, 2 ≤ p → tb f1 p = false := fun p hp => tb_small f1 2 p h1 g1 hp
  have y1 : ∀ p, 2 ≤ p → tb e1 p = false := fun p hp => tb_small e1 2 p h1' g1' hp
  have z2 : ∀ p, 6 ≤ p → tb f2 p = false := fun p hp => tb_small f2 6 p h2 g2 hp
  have y2 : ∀ p, 6 ≤ p → tb e2 p = false := fun p hp => tb_small e2 6 p h2' g2' hp
  have lf2 : ∀ p, tb (f2 % 32) p = (tb f2 p && decide (p < 5)) := fun p => tb_lo5 f2 p h2
  have uf2 : ∀ p, tb (f2 / 32) p = tb f2 (5 + p) := fun p => tb_hi5 f2 p h2 (by omega)
  have le2 : ∀ p, tb (e2 % 32) p = (tb e2 p && decide (p < 5)) := fun p => tb_lo5 e2 p h2'
  have ue2 : ∀ p, tb (e2 / 32) p = tb e2 (5 + p) := fun p => tb_hi5 e2 p h2' (by omega)
  have b : ∀ p, tb (Go.bits .or .u32 (Go.bits .or .u32 (Go.bits .or .u32 0 (Go.bits .or .u32 (f0 % 32 * 2097152 % 4294967296) (f0 / 32 * 1 % 4294967296))) (f1 * 65536 % 4294967296)) (Go.bits .or .u32 (f2 % 32 * 2048 % 4294967296) (f2 / 32 * 2 % 4294967296))) p = tb (Go.bits .or .u32 (Go.bits .or .u32 (Go.bits .or .u32 0 (Go.bits .or .u32 (e0 % 32 * 2097152 % 4294967296) (e0 / 32 * 1 % 4294967296))) (e1 * 65536 % 4294967296)) (Go.bits .or .u32 (e2 % 32 * 2048 % 4294967296) (e2 / 32 * 2 % 4294967296))) p := fun p => by rw [hw]
  clear hw
  simp only [tb_or, tb_and, tb_s0, tb_s1, tb_s2, tb_s3, tb_s4, tb_s5, tb_s6, tb_s7, tb_s8, tb_s9, tb_s10, tb_s11, tb_s12, tb_s13, tb_s14, tb_s15, tb_s16, tb_s17, tb_s18, tb_s19, tb_s20, tb_s21, tb_s22, tb_s23, tb_s24, tb_s25, tb_s26, tb_s27, tb_s28, tb_s29, tb_s30, tb_s31, tb_d1, tb_d2, tb_d3, tb_d4, tb_d5, tb_d6, tb_d7, tb_d8, tb_d9, tb_d10, tb_d11, tb_d12, tb_d13, tb_d14, tb_d15, tb_d16, tb_d17, tb_d18, tb_d19, tb_d20, tb_d21, tb_d22, tb_d23, tb_d24, tb_d25, tb_d26, tb_d27, tb_d28, tb_d29, tb_d30, tb_d31, tb_m1, tb_m2, tb_m3, tb_m4, tb_m5, tb_m6, tb_m7, tb_m8, tb_m9, tb_m10, tb_m11, tb_m12, tb_m13, tb_m14, tb_m15, tb_m16, tb_m17, tb_m18, tb_m19, tb_m20, tb_m21, tb_m22, tb_m23, tb_m24, tb_m25, tb_m26, tb_m27, tb_m28, tb_m29, tb_m30, tb_m31, tb_c1, tb_c3, tb_c15, tb_c31, tb_c32, tb_c65535, tb_c4095, tb_c262143, tb_c67108860, tb_c65532, tb_c67108864, tb_c100663296, tb_c0] at b
  refine ⟨eq_of_tb 6 (by decide) h0 g0 h0' g0' (below_6 (P := fun p => tb f0 p = tb e0 p) ?_ ?_ ?_ ?_ ?_ ?_), eq_of_tb 2 (by decide) h1 g1 h1' g1' (below_2 (P := fun p => tb f1 p = tb e1 p) ?_ ?_), eq_of_tb 6 (by decide) h2 g2 h2' g2' (below_6 (P := fun p => tb f2 p = tb e2 p) ?_ ?_ ?_ ?_ ?_ ?_)⟩
  · have h := b 21; simpa [z0, y0, z1, y1, z2, y2, lf0, uf0, le0, ue0, lf2, uf2, le2, ue2] using h
  · have h := b 22; simpa [z0, y0, z1, y1, z2, y2, lf0, uf0, le0, ue0, lf2, uf2, le2, ue2] using h
  · have h := b 23; simpa [z0, y0, z1, y1, z2, y2, lf0, uf0, le0, ue0, lf2, uf2, le2, ue2] using h
  · have h := b 24; simpa [z0, y0, z1, y1, z2, y2, lf0, uf0, le0, ue0, lf2, uf2, le2, ue2] using h
  · have h := b 25; simpa [z0, y0, z1, y1, z2, y2, lf0, uf0, le0, ue0, lf2, uf2, le2, ue2] using h
  · have h := b 0; simpa [z0, y0, z1, y1, z2, y2, lf0, uf0, le0, ue0, lf2, uf2, le2, ue2] using h
  · have h := b 16; simpa [z0, y0, z1, y1, z2, y2, lf0, uf0, le0, ue0, lf2, uf2, le2, ue2] using h
  · have h := b 17; simpa [z0, y0, z1, y1, z2, y2, lf0, uf0, le0, ue0, lf2, uf2, le2, ue2] using h
  · have h := b 11; simpa [z0, y0, z1, y1, z2, y2, lf0, uf0, le0, ue0, lf2, uf2, le2, ue2] using h
  · have h := b 12; simpa [z0, y0, z1, y1, z2, y2, lf0, uf0, le0, ue0, lf2, uf2, le2, ue2] using h
  · have h := b 13; simpa [z0, y0, z1, y1, z2, y2, lf0, uf0, le0, ue0, lf2, uf2, le2, ue2] using h
  · have h := b 14; simpa [z0, y0, z1, y1, z2, y2, lf0, uf0, le0, ue0, lf2, uf2, le2, ue2] using h
  · have h := b 15; simpa [z0, y0, z1, y1, z2, y2, lf0, uf0, le0, ue0, lf2, uf2, le2, ue2] using h
  · have h := b 1; simpa [z0, y0, z1, y1, z2, y2, lf0, uf0, le0, ue0, lf2, uf2, le2, ue2] using h
set_option maxHeartbeats 4000000 in
theorem apart_AOP_XX3 {f0 f1 f2 e0 e1 e2 : Int} (h0 : 0 ≤ f0) (g0 : f0 < 64) (h1 : 0 ≤ f1) (g1 : f1 < 64) (h2 : 0 ≤ f2) (g2 : f2 < 64) (h0' : 0 ≤ e0) (g0' : e0 < 64) (h1' : 0 ≤ e1) (g1' : e1 < 64) (h2' : 0 ≤ e2) (g2' : e2 < 64) (hw : Go.bits .or .u32 (Go.bits .or .u32 (Go.bits .or .u32 0 (Go.bits .or .u32 (f0 % 32 * 2097152 % 4294967296) (f0 / 32 * 1 % 4294967296))) (Go.bits .or .u32 (f1 % 32 * 65536 % 4294967296) (f1 / 32 * 4 % 4294967296))) (Go.bits .or .u32 (f2 % 32 * 2048 % 4294967296) (f2 / 32 * 2 % 4294967296)) = Go.bits .or .u32 (Go.bits .or .u32 (Go.bits .or .u32 0 (Go.bits .or .u32 (e0 % 32 * 2097152 % 4294967296) (e0 / 32 * 1 % 4294967296))) (Go.bits .or .u32 (e1 % 32 * 65536 % 4294967296) (e1 / 32 * 4 % 4294967296))) (Go.bits .or .u32 (e2 % 32 * 2048 % 4294967296) (e2 / 32 * 2 % 4294967296))) : f0 = e0 ∧ f1 = e1 ∧ f2 = e2 := by
  have z0 : ∀ p, 6 ≤ p → tb f0 p = false := fun p hp => tb_small f0 6 p h0 g0 hp
  have y0 : ∀ p, 6 ≤ p → tb e0 p = false := fun p hp => tb_small e0 6 p h0' g0' hp
  have lf0 : ∀ p, tb (f0 % 32) p = (tb f0 p && decide (p < 5)) := fun p => tb_lo5 f0 p h0
  have uf0 : ∀ p, tb (f0 / 32) p = tb f0 (5 + p) := fun p => tb_hi5 f0 p h0 (by omega)
  have le0 : ∀ p, tb (e0 % 32) p = (tb e0 p && decide (p < 5)) := fun p => tb_lo5 e0 p h0'
  have ue0 : ∀ p, tb (e0 / 32) p = tb e0 (5 + p) := fun p => tb_hi5 e0 p h0' (by omega)
  have z1 : ∀ p, 6 ≤ p → tb f1 p = false := fun p hp => tb_small f1 6 p h1 g1 hp
  have y1 : ∀ p, 6 ≤ p → tb e1 p = false := fun p hp => tb_small e1 6 p h1' g1' hp
  have lf1 : ∀ p, tb (f1 % 32) p = (tb f1 p && decide (p < 5)) := fun p => tb_lo5 f1 p h1
  have uf1 : ∀ p, tb (f1 / 32) p = tb f1 (5 + p) := fun p => tb_hi5 f1 p h1 (by omega)
  have le1 : ∀ p, tb (e1 % 32) p = (tb e1 p && decide (p < 5)) := fun p => tb_lo5 e1 p h1'
  have ue1 : ∀ p, tb (e1 / 32) p = tb e1 (5 + p) := fun p => tb_hi5 e1 p h1' (by omega)
  have z2 : ∀ p, 6 ≤ p → tb f2 p = false := fun p hp => tb_small f2 6 p h2 g2 hp
  have y2 : ∀ p, 6 ≤ p → tb e2 p = false := fun p hp => tb_small e2 6 p h2' g2' hp
  have lf2 : ∀ p, tb (f2 % 32) p = (tb f2 p && decide (p < 5)) := fun p => tb_lo5 f2 p h2
  have uf2 : ∀ p, tb (f2 / 32) p = tb f2 (5 + p) := fun p => tb_hi5 f2 p h2 (by omega)
  have le2 : ∀ p, tb (e2 % 32) p = (tb e2 p && decide (p < 5)) := fun p => tb_lo5 e2 p h2'
  have ue2 : ∀ p, tb (e2 / 32) p = tb e2 (5 + p) := fun p => tb_hi5 e2 p h2' (by omega)
  have b : ∀ p, tb (Go.bits .or .u32 (Go.bits .or .u32 (Go.bits .or .u32 0 (Go.bits .or .u32 (f0 % 32 * 2097152 % 4294967296) (f0 / 32 * 1 % 4294967296))) (Go.bits .or .u32 (f1 % 32 * 65536 % 4294967296) (f1 / 32 * 4 % 4294967296))) (Go.bits .or .u32 (f2 % 32 * 2048 % 4294967296) (f2 / 32 * 2 % 4294967296))) p = tb (Go.bits .or .u32 (Go.bits .or .u32 (Go.bits .or .u32 0 (Go.bits .or .u32 (e0 % 32 * 2097152 % 4294967296) (e0 / 32 * 1 % 4294967296))) (Go.bits .or .u32 (e1 % 32 * 65536 % 4294967296) (e1 / 32 * 4 % 4294967296))) (Go.bits .or .u32 (e2 % 32 * 2048 % 4294967296) (e2 / 32 * 2 % 4294967296))) p := fun p => by rw [hw]
  clear hw
  simp only [tb_or, tb_and, tb_s0, tb_s1, tb_s2, tb_s3, tb_s4, tb_s5, tb_s6, tb_s7, tb_s8, tb_s9, tb_s10, tb_s11, tb_s12, tb_s13, tb_s14, tb_s15, tb_s16, tb_s17, tb_s18, tb_s19, tb_s20, tb_s21, tb_s22, tb_s23, tb_s24, tb_s25, tb_s26, tb_s27, tb_s28, tb_s29, tb_s30, tb_s31, tb_d1, tb_d2, tb_d3, tb_d4, tb_d5, tb_d6, tb_d7, tb_d8, tb_d9, tb_d10, tb_d11, tb_d12, tb_d13, tb_d14, tb_d15, tb_d16, tb_d17, tb_d18, tb_d19, tb_d20, tb_d21, tb_d22, tb_d23, tb_d24, tb_d25, tb_d26, tb_d27, tb_d28, tb_d29, tb_d30, tb_d31, tb_m1, tb_m2, tb_m3, tb_m4, tb_m5, tb_m6, tb_m7, tb_m8, tb_m9, tb_m10, tb_m11, tb_m12, tb_m13, tb_m14, tb_m15, tb_m16, tb_m17, tb_m18, tb_m19, tb_m20, tb_m21, tb_m22, tb_m23, tb_m24, tb_m25, tb_m26, tb_m27, tb_m28, tb_m29, tb_m30, tb_m31, tb_c1, tb_c3, tb_c15, tb_c31, tb_c32, tb_c65535, tb_c4095, tb_c262143, tb_c67108860, tb_c65532, tb_c67108864, tb_c100663296, tb_c0] at b
  refine ⟨eq_of_tb 6 (by decide) h0 g0 h0' g0' (below_6 (P := fun p => tb f0 p = tb e0 p) ?_ ?_ ?_ ?_ ?_ ?_), eq_of_tb 6 (by decide) h1 g1 h1' g1' (below_6 (P := fun p => tb f1 p = tb e1 p) ?_ ?_ ?_ ?_ ?_ ?_), eq_of_tb 6 (by decide) h2 g2 h2' g2' (below_6 (P := fun p => tb f2 p = tb e2 p) ?_ ?_ ?_ ?_ ?_ ?_)⟩
  · have h := b 21; simpa [z0, y0, z1, y1, z2, y2, lf0, uf0, le0, ue0, lf1, uf1, le1, ue1, lf2, uf2, le2, ue2] using h
  · have h := b 22; simpa [z0, y0, z1, y1, z2, y2, lf0, uf0, le0, ue0, lf1, uf1, le1, ue1, lf2, uf2, le2, ue2] using h
  · have h := b 23; simpa [z0, y0, z1, y1, z2, y2, lf0, uf0, le0, ue0, lf1, uf1, le1, ue1, lf2, uf2, le2, ue2] using h
  · have h := b 24; simpa [z0, y0, z1, y1, z2, y2, lf0, uf0, le0, ue0, lf1, uf1, le1, ue1, lf2, uf2, le2, ue2] using h
  · have h := b 25; simpa [z0, y0, z1, y1, z2, y2, lf0, uf0, le0, ue0, lf1, uf1, le1, ue1, lf2, uf2, le2, ue2] using h
  · have h := b 0; simpa [z0, y0, z1, y1, z2, y2, lf0, uf0, le0, ue0, lf1, uf1, le1, ue1, lf2, uf2, le2, ue2] using h
  · have h := b 16; simpa [z0, y0, z1, y1, z2, y2, lf0, uf0, le0, ue0, lf1, uf1, le1, ue1, lf2, uf2, le2, ue2] using h
  · have h := b 17; simpa [z0, y0, z1, y1, z2, y2, lf0, uf0, le0, ue0, lf1, uf1, le1, ue1, lf2, uf2, le2, ue2] using h
  · have h := b 18; simpa [z0, y0, z1, y1, z2, y2, lf0, uf0, le0, ue0, lf1, uf1, le1, ue1, lf2, uf2, le2, ue2] using h
  · have h := b 19; simpa [z0, y0, z1, y1, z2, y2, lf0, uf0, le0, ue0, lf1, uf1, le1, ue1, lf2, uf2, le2, ue2] using h
  · have h := b 20; simpa [z0, y0, z1, y1, z2, y2, lf0, uf0, le0, ue0, lf1, uf1, le1, ue1, lf2, uf2, le2, ue2] using h
  · have h := b 2; simpa [z0, y0, z1, y1, z2, y2, lf0, uf0, le0, ue0, lf1, uf1, le1, ue1, lf2, uf2, le2, ue2] using h
  · have h := b 11; simpa [z0, y0, z1, y1, z2, y2, lf0, uf0, le0, ue0, lf1, uf1, le1, ue1, lf2, uf2, le2, ue2] using h
  · have h := b 12; simpa [z0, y0, z1, y1, z2, y2, lf0, uf0, le0, ue0, lf1, uf1, le1, ue1, lf2, uf2, le2, ue2] using h
  · have h := b 13; simpa [z0, y0, z1, y1, z2, y2, lf0, uf0, le0, ue0, lf1, uf1, le1, ue1, lf2, uf2, le2, ue2] using h
  · have h := b 14; simpa [z0, y0, z1, y1, z2, y2, lf0, uf0, le0, ue0, lf1, uf1, le1, ue1, lf2, uf2, le2, ue2] using h
  · have h := b 15; simpa [z0, y0, z1, y1, z2, y2, lf0, uf0, le0, ue0, lf1, uf1, le1, ue1, lf2, uf2, le2, ue2] using h
  · have h := b 1; simpa [z0, y0, z1, y1, z2, y2, lf0, uf0, le0, ue0, lf1, uf1, le1, ue1, lf2, uf2, le2, ue2] using h
set_option maxHeartbeats 4000000 in
theorem apart_AOP_XX3I {f0 f1 f2 f3 e0 e1 e2 e3 : Int} (h0 : 0 ≤ f0) (g0 : f0 < 64) (h1 : 0 ≤ f1) (g1 : f1 < 64) (h2 : 0 ≤ f2) (g2 : f2 < 64) (h3 : 0 ≤ f3) (g3 : f3 < 4) (h0' : 0 ≤ e0) (g0' : e0 < 64) (h1' : 0 ≤ e1) (g1' : e1 < 64) (h2' : 0 ≤ e2) (g2' : e2 < 64) (h3' : 0 ≤ e3) (g3' : e3 < 4) (hw : Go.bits .or .u32 (Go.bits .or .u32 (Go.bits .or .u32 (Go.bits .or .u32 0 (Go.bits .or .u32 (f0 % 32 * 2097152 % 4294967296) (f0 / 32 * 1 % 4294967296))) (Go.bits .or .u32 (f1 % 32 * 65536 % 4294967296) (f1 / 32 * 4 % 4294967296))) (Go.bits .or .u32 (f2 % 32 * 2048 % 4294967296) (f2 / 32 * 2 % 4294967296))) (f3 * 256 % 4294967296) = Go.bits .or .u32 (Go.bits .or .u32 (Go.bits .or .u32 (Go.bits .or .u32 0 (Go.bits .or .u32 (e0 % 32 * 2097152 % 4294967296) (e0 / 32 * 1 % 4294967296))) (Go.bits .or .u32 (e1 % 32 * 65536 % 4294967296) (e1 / 32 * 4 % 4294967296))) (Go.bits .or .u32 (e2 % 32 * 2048 % 4294967296) (e2 / 32 * 2 % 4294967296))) (e3 * 256 % 4294967296)) : f0 = e0 ∧ f1 = e1 ∧ f2 = e2 ∧ f3 = e3 := by
  have z0 : ∀ p, 6 ≤ p → tb f0 p = false := fun p hp => tb_small f0 6 p h0 g0 hp
  have y0 : ∀ p, 6 ≤ p → tb e0 p = false := fun p hp => tb_small e0 6 p h0' g0' hp
  have lf0 : ∀ p, tb (f0 % 32) p = (tb f0 p && decide (p < 5)) := fun p => tb_lo5 f0 p h0
  have uf0 : ∀ p, tb (f0 / 32) p = tb f0 (5 + p) := fun p => tb_hi5 f0 p h0 (by omega)
  have le0 : ∀ p, tb (e0 % 32) p = (tb e0 p && decide (p < 5)) := fun p => tb_lo5 e0 p h0'
  have ue0 : ∀ p, tb (e0 / 32) p = tb e0 (5 + p) := fun p => tb_hi5 e0 p h0' (by omega)
  have z1 : ∀ p, 6 ≤ p → tb f1 p = false := fun p hp => tb_small f1 6 p h1 g1 hp
  have y1 : ∀ p, 6 ≤ p → tb e1 p = false := fun p hp => tb_small e1 6 p h1' g1' hp
  have lf1 : ∀ p, tb (f1 % 32) p = (tb f1 p && decide (p < 5)) := fun p => tb_lo5 f1 p h1
  have uf1 : ∀ p, tb (f1 / 32) p = tb f1 (5 + p) := fun p => tb_hi5 f1 p h1 (by omega)
  have le1 : ∀ p, tb (e1 % 32) p = (tb e1 p && decide (p < 5)) := fun p => tb_lo5 e1 p h1'
  have ue1 : ∀ p, tb (e1 / 32) p = tb e1 (5 + p) := fun p => tb_hi5 e1 p h1' (by omega)
  have z2 : ∀ p, 6 ≤ p → tb f2 p = false := fun p hp => tb_small f2 6 p h2 g2 hp
  have y2 : ∀ p, 6 ≤ p → tb e2 p = false := fun p hp => tb_small e2 6 p h2' g2' hp
  have lf2 : ∀ p, tb (f2 % 32) p = (tb f2 p && decide (p < 5)) := fun p => tb_lo5 f2 p h2
  have uf2 : ∀ p, tb (f2 / 32) p = tb f2 (5 + p) := fun p => tb_hi5 f2 p h2 (by omega)
  have le2 : ∀ p, tb (e2 % 32) p = (tb e2 p && decide (p < 5)) := fun p => tb_lo5 e2 p h2'
  have ue2 : ∀ p, tb (e2 / 32) p = tb e2 (5 + p) := fun p => tb_hi5 e2 p h2' (by omega)
  have z3 : ∀ p, 2 ≤ p → tb f3 p = false := fun p hp => tb_small f3 2 p h3 g3 hp
  have y3 : ∀ p, 2 ≤ p → tb e3 p = false := fun p hp => tb_small e3 2 p h3' g3' hp
  have b : ∀ p, tb (Go.bits .or .u32 (Go.bits .or .u32 (Go.bits .or .u32 (Go.bits .or .u32 0 (Go.bits .or .u32 (f0 % 32 * 2097152 % 4294967296) (f0 / 32 * 1 % 4294967296))) (Go.bits .or .u32 (f1 % 32 * 65536 % 4294967296) (f1 / 32 * 4 % 4294967296))) (Go.bits .or .u32 (f2 % 32 * 2048 % 4294967296) (f2 / 32 * 2 % 4294967296))) (f3 * 256 % 4294967296)) p = tb (Go.bits .or .u32 (Go.bits .or .u32 (Go.bits .or .u32 (Go.bits .or .u32 0 (Go.bits .or .u32 (e0 % 32 * 2097152 % 4294967296) (e0 / 32 * 1 % 4294967296))) (Go.bits .or .u32 (e1 % 32 * 65536 % 4294967296) (e1 / 32 * 4 % 4294967296))) (Go.bits .or .u32 (e2 % 32 * 2048 % 4294967296) (e2 / 32 * 2 % 4294967296))) (e3 * 256 % 4294967296)) p := fun p => by rw [hw]
  clear hw
  simp only [tb_or, tb_and, tb_s0, tb_s1, tb_s2, tb_s3, tb_s4, tb_s5, tb_s6, tb_s7, tb_s8, tb_s9, tb_s10, tb_s11, tb_s12, tb_s13, tb_s14, tb_s15, tb_s16, tb_s17, tb_s18, tb_s19, tb_s20, tb_s21, tb_s22, tb_s23, tb_s24, tb_s25, tb_s26, tb_s27, tb_s28, tb_s29, tb_s30, tb_s31, tb_d1, tb_d2, tb_d3, tb_d4, tb_d5, tb_d6, tb_d7, tb_d8, tb_d9, tb_d10, tb_d11, tb_d12, tb_d13, tb_d14, tb_d15, tb_d16, tb_d17, tb_d18, tb_d19, tb_d20, tb_d21, tb_d22, tb_d23, tb_d24, tb_d25, tb_d26, tb_d27, tb_d28, tb_d29, tb_d30, tb_d31, tb_m1, tb_m2, tb_m3, tb_m4, tb_m5, tb_m6, tb_m7, tb_m8, tb_m9, tb_m10, tb_m11, tb_m12, tb_m13, tb_m14, tb_m15, tb_m16, tb_m17, tb_m18, tb_m19, tb_m20, tb_m21, tb_m22, tb_m23, tb_m24, tb_m25, tb_m26, tb_m27, tb_m28, tb_m29, tb_m30, tb_m31, tb_c1, tb_c3, tb_c15, tb_c31, tb_c32, tb_c65535, tb_c4095, tb_c262143, tb_c67108860, tb_c65532, tb_c67108864, tb_c100663296, tb_c0] at b
  refine ⟨eq_of_tb 6 (by decide) h0 g0 h0' g0' (below_6 (P := fun p => tb f0 p = tb e0 p) ?_ ?_ ?_ ?_ ?_ ?_), eq_of_tb 6 (by decide) h1 g1 h1' g1' (below_6 (P := fun p => tb f1 p = tb e1 p) ?_ ?_ ?_ ?_ ?_ ?_), eq_of_tb 6 (by decide) h2 g2 h2' g2' (below_6 (P := fun p => tb f2 p = tb e2 p) ?_ ?_ ?_ ?_ ?_ ?_), eq_of_tb 2 (by decide) h3 g3 h3' g3' (below_2 (P := fun p => tb f3 p = tb e3 p) ?_ ?_)⟩
  · have h := b 21; simpa [z0, y0, z1, y1, z2, y2, z3, y3, lf0, uf0, le0, ue0, lf1, uf1, le1, ue1, lf2, uf2, le2, ue2] using h
  · have h := b 22; simpa [z0, y0, z1, y1, z2, y2, z3, y3, lf0, uf0, le0, ue0, lf1, uf1, le1, ue1, lf2, uf2, le2, ue2] using h
  · have h := b 23; simpa [z0, y0, z1, y1, z2, y2, z3, y3, lf0, uf0, le0, ue0, lf1, uf1, le1, ue1, lf2, uf2, le2, ue2] using h
  · have h := b 24; simpa [z0, y0, z1, y1, z2, y2, z3, y3, lf0, uf0, le0, ue0, lf1, uf1, le1, ue1, lf2, uf2, le2, ue2] using h
  · have h := b 25; simpa [z0, y0, z1, y1, z2, y2, z3, y3, lf0, uf0, le0, ue0, lf1, uf1, le1, ue1, lf2, uf2, le2, ue2] using h
  · have h := b 0; simpa [z0, y0, z1, y1, z2, y2, z3, y3, lf0, uf0, le0, ue0, lf1, uf1, le1, ue1, lf2, uf2, le2, ue2] using h
  · have h := b 16; simpa [z0, y0, z1, y1, z2, y2, z3, y3, lf0, uf0, le0, ue0, lf1, uf1, le1, ue1, lf2, uf2, le2, ue2] using h
  · have h := b 17; simpa [z0, y0, z1, y1, z2, y2, z3, y3, lf0, uf0, le0, ue0, lf1, uf1, le1, ue1, lf2, uf2, le2, ue2] using h
  · have h := b 18; simpa [z0, y0, z1, y1, z2, y2, z3, y3, lf0, uf0, le0, ue0, lf1, uf1, le1, ue1, lf2, uf2, le2, ue2] using h
  · have h := b 19; simpa [z0, y0, z1, y1, z2, y2, z3, y3, lf0, uf0, le0, ue0, lf1, uf1, le1, ue1, lf2, uf2, le2, ue2] using h
  · have h := b 20; simpa [z0, y0, z1, y1, z2, y2, z3, y3, lf0, uf0, le0, ue0, lf1, uf1, le1, ue1, lf2, uf2, le2, ue2] using h
  · have h := b 2; simpa [z0, y0, z1, y1, z2, y2, z3, y3, lf0, uf0, le0, ue0, lf1, uf1, le1, ue1, lf2, uf2, le2, ue2] using h
  · have h := b 11; simpa [z0, y0, z1, y1, z2, y2, z3, y3, lf0, uf0, le0, ue0, lf1, uf1, le1, ue1, lf2, uf2, le2, ue2] using h
  · have h := b 12; simpa [z0, y0, z1, y1, z2, y2, z3, y3, lf0, uf0, le0, ue0, lf1, uf1, le1, ue1, lf2, uf2, le2, ue2] using h
  · have h := b 13; simpa [z0, y0, z1, y1, z2, y2, z3, y3, lf0, uf0, le0, ue0, lf1, uf1, le1, ue1, lf2, uf2, le2, ue2] using h
  · have h := b 14; simpa [z0, y0, z1, y1, z2, y2, z3, y3, lf0, uf0, le0, ue0, lf1, uf1, le1, ue1, lf2, uf2, le2, ue2] using h
  · have h := b 15; simpa [z0, y0, z1, y1, z2, y2, z3, y3, lf0, uf0, le0, ue0, lf1, uf1, le1, ue1, lf2, uf2, le2, ue2] using h
  · have h := b 1; simpa [z0, y0, z1, y1, z2, y2, z3, y3, lf0, uf0, le0, ue0, lf1, uf1, le1, ue1, lf2, uf2, le2, ue2] using h
  · have h := b 8; simpa [z0, y0, z1, y1, z2, y2, z3, y3, lf0, uf0, le0, ue0, lf1, uf1, le1, ue1, lf2, uf2, le2, ue2] using h
  · have h := b 9; simpa [z0, y0, z1, y1, z2, y2, z3, y3, lf0, uf0, le0, ue0, lf1, uf1, le1, ue1, lf2, uf2, le2, ue2] using h
set_option maxHeartbeats 4000000 in
theorem apart_AOP_XX4 {f0 f1 f2 f3 e0 e1 e2 e3 : Int} (h0 : 0 ≤ f0) (g0 : f0 < 64) (h1 : 0 ≤ f1) (g1 : f1 < 64) (h2 : 0 ≤ f2) (g2 : f2 < 64) (h3 : 0 ≤ f3) (g3 : f3 < 64) (h0' : 0 ≤ e0) (g0' : e0 < 64) (h1' : 0 ≤ e1) (g1' : e1 < 64) (h2' : 0 ≤ e2) (g2' : e2 < 64) (h3' : 0 ≤ e3) (g3' : e3 < 64) (hw : Go.bits .or .u32 (Go.bits .or .u32 (Go.bits .or .u32 (Go.bits .or .u32 0 (Go.bits .or .u32 (f0 % 32 * 2097152 % 4294967296) (f0 / 32 * 1 % 4294967296))) (Go.bits .or .u32 (f1 % 32 * 65536 % 4294967296) (f1 / 32 * 4 % 4294967296))) (Go.bits .or .u32 (f2 % 32 * 2048 % 4294967296) (f2 / 32 * 2 % 4294967296))) (Go.bits .or .u32 (f3 % 32 * 64 % 4294967296) (f3 / 32 * 8 % 4294967296)) = Go.bits .or .u32 (Go.bits .or .u32 (Go.bits .or .u32 (Go.bits .or .u32 0 (Go.bits .or .u32 (e0 % 32 * 2097152 % 4294967296) (e0 / 32 * 1 % 4294967296))) (Go.bits .or .u32 (e1 % 32 * 65536 % 4294967296) (e1 / 32 * 4 % 4294967296))) (Go.bits .or .u32 (e2 % 32 * 2048 % 4294967296) (e2 / 32 * 2 % 4294967296))) (Go.bits .or .u32 (e3 % 32 * 64 % 4294967296) (e3 / 32 * 8 % 4294967296))) : f0 = e0 ∧ f1 = e1 ∧ f2 = e2 ∧ f3 = e3 := by
  have z0 : ∀ p, 6 ≤ p → tb f0 p = false := fun p hp => tb_small f0 6 p h0 g0 hp
  have y0 : ∀ p, 6 ≤ p → tb e0 p = false := fun p hp => tb_small e0 6 p h0' g0' hp
  have lf0 : ∀ p, tb (f0 % 32) p = (tb f0 p && decide (p < 5)) := fun p => tb_lo5 f0 p h0
  have uf0 : ∀ p, tb (f0 / 32) p = tb f0 (5 + p) := fun p => tb_hi5 f0 p h0 (by omega)
  have le0 : ∀ p, tb (e0 % 32) p = (tb e0 p && decide (p < 5)) := fun p => tb_lo5 e0 p h0'
  have ue0 : ∀ p, tb (e0 / 32) p = tb e0 (5 + p) := fun p => tb_hi5 e0 p h0' (by omega)
  have z1 : ∀ p, 6 ≤ p → tb f1 p = false := fun p hp => tb_small f1 6 p h1 g1 hp
  have y1 : ∀ p, 6 ≤ p → tb e1 p = false := fun p hp => tb_small e1 6 p h1' g1' hp
  have lf1 : ∀ p, tb (f1 % 32) p = (tb f1 p && decide (p < 5)) := fun p => tb_lo5 f1 p h1
  have uf1 : ∀ p, tb (f1 / 32) p = tb f1 (5 + p) := fun p => tb_hi5 f1 p h1 (by omega)
  have le1 : ∀ p, tb (e1 % 32) p = (tb e1 p && decide (p < 5)) := fun p => tb_lo5 e1 p h1'
  have ue1 : ∀ p, tb (e1 / 32) p = tb e1 (5 + p) := fun p => tb_hi5 e1 p h1' (by omega)
  have z2 : ∀ p, 6 ≤ p → tb f2 p = false := fun p hp => tb_small f2 6 p h2 g2 hp
  have y2 : ∀ p, 6 ≤ p → tb e2 p = false := fun p hp => tb_small e2 6 p h2' g2' hp
  have lf2 : ∀ p, tb (f2 % 32) p = (tb f2 p && decide (p < 5)) := fun p => tb_lo5 f2 p h2
  have uf2 : ∀ p, tb (f2 / 32) p = tb f2 (5 + p) := fun p => tb_hi5 f2 p h2 (by omega)
  have le2 : ∀ p, tb (e2 % 32) p = (tb e2 p && decide (p < 5)) := fun p => tb_lo5 e2 p h2'
  have ue2 : ∀ p, tb (e2 / 32) p = tb e2 (5 + p) := fun p => tb_hi5 e2 p h2' (by omega)
  have z3 : ∀ p, 6 ≤ p → tb f3 p = false := fun p hp => tb_small f3 6 p h3 g3 hp
  have y3 : ∀ p, 6 ≤ p → tb e3 p = false := fun p hp => tb_small e3 6 p h3' g3' hp
  have lf3 : ∀ p, tb (f3 % 32) p = (tb f3 p && decide (p < 5)) := fun p => tb_lo5 f3 p h3
  have uf3 : ∀ p, tb (f3 / 32) p = tb f3 (5 + p) := fun p => tb_hi5 f3 p h3 (by omega)
  have le3 : ∀ p, tb (e3 % 32) p = (tb e3 p && decide (p < 5)) := fun p => tb_lo5 e3 p h3'
  have ue3 : ∀ p, tb (e3 / 32) p = tb e3 (5 + p) := fun p => tb_hi5 e3 p h3' (by omega)
  have b : ∀ p, tb (Go.bits .or .u32 (Go.bits .or .u32 (Go.bits .or .u32 (Go.bits .or .u32 0 (Go.bits .or .u32 (f0 % 32 * 2097152 % 4294967296) (f0 / 32 * 1 % 4294967296))) (Go.bits .or .u32 (f1 % 32 * 65536 % 4294967296) (f1 / 32 * 4 % 4294967296))) (Go.bits .or .u32 (f2 % 32 * 2048 % 4294967296) (f2 / 32 * 2 % 4294967296))) (Go.bits .or .u32 (f3 % 32 * 64 % 4294967296) (f3 / 32 * 8 % 4294967296))) p = tb (Go.bits .or .u32 (Go.bits .or .u32 (Go.bits .or .u32 (Go.bits .or .u32 0 (Go.bits .or .u32 (e0 % 32 * 2097152 % 4294967296) (e0 / 32 * 1 % 4294967296))) (Go.bits .or .u32 (e1 % 32 * 65536 % 4294967296) (e1 / 32 * 4 % 4294967296))) (Go.bits .or .u32 (e2 % 32 * 2048 % 4294967296) (e2 / 32 * 2 % 4294967296))) (Go.bits .or .u32 (e3 % 32 * 64 % 4294967296) (e3 / 32 * 8 % 4294967296))) p := fun p => by rw [hw]
  clear hw
  simp only [tb_or, tb_and, tb_s0, tb_s1, tb_s2, tb_s3, tb_s4, tb_s5, tb_s6, tb_s7, tb_s8, tb_s9, tb_s10, tb_s11, tb_s12, tb_s13, tb_s14, tb_s15, tb_s16, tb_s17, tb_s18, tb_s19, tb_s20, tb_s21, tb_s22, tb_s23, tb_s24, tb_s25, tb_s26, tb_s27, tb_s28, tb_s29, tb_s30, tb_s31, tb_d1, tb_d2, tb_d3, tb_d4, tb_d5, tb_d6, tb_d7, tb_d8, tb_d9, tb_d10, tb_d11, tb_d12, tb_d13, tb_d14, tb_d15, tb_d16, tb_d17, tb_d18, tb_d19, tb_d20, tb_d21, tb_d22, tb_d23, tb_d24, tb_d25, tb_d26, tb_d27, tb_d28, tb_d29, tb_d30, tb_d31, tb_m1, tb_m2, tb_m3, tb_m4, tb_m5, tb_m6, tb_m7, tb_m8, tb_m9, tb_m10, tb_m11, tb_m12, tb_m13, tb_m14, tb_m15, tb_m16, tb_m17, tb_m18, tb_m19, tb_m20, tb_m21, tb_m22, tb_m23, tb_m24, tb_m25, tb_m26, tb_m27, tb_m28, tb_m29, tb_m30, tb_m31, tb_c1, tb_c3, tb_c15, tb_c31, tb_c32, tb_c65535, tb_c4095, tb_c262143, tb_c67108860, tb_c65532, tb_c67108864, tb_c100663296, tb_c0] at b
  refine ⟨eq_of_tb 6 (by decide) h0 g0 h0' g0' (below_6 (P := fun p => tb f0 p = tb e0 p) ?_ ?_ ?_ ?_ ?_ ?_), eq_of_tb 6 (by decide) h1 g1 h1' g1' (below_6 (P := fun p => tb f1 p = tb e1 p) ?_ ?_ ?_ ?_ ?_ ?_), eq_of_tb 6 (by decide) h2 g2 h2' g2' (below_6 (P := fun p => tb f2 p = tb e2 p) ?_ ?_ ?_ ?_ ?_ ?_), eq_of_tb 6 (by decide) h3 g3 h3' g3' (below_6 (P := fun p => tb f3 p = tb e3 p) ?_ ?_ ?_ ?_ ?_ ?_)⟩
  · have h := b 21; simpa [z0, y0, z1, y1, z2, y2, z3, y3, lf0, uf0, le0, ue0, lf1, uf1, le1, ue1, lf2, uf2, le2, ue2, lf3, uf3, le3, ue3] using h
  · have h := b 22; simpa [z0, y0, z1, y1, z2, y2, z3, y3, lf0, uf0, le0, ue0, lf1, uf1, le1, ue1, lf2, uf2, le2, ue2, lf3, uf3, le3, ue3] using h
  · have h := b 23; simpa [z0, y0, z1, y1, z2, y2, z3, y3, lf0, uf0, le0, ue0, lf1, uf1, le1, ue1, lf2, uf2, le2, ue2, lf3, uf3, le3, ue3] using h
  · have h := b 24; simpa [z0, y0, z1, y1, z2, y2, z3, y3, lf0, uf0, le0, ue0, lf1, uf1, le1, ue1, lf2, uf2, le2, ue2, lf3, uf3, le3, ue3] using h
  · have h := b 25; simpa [z0, y0, z1, y1, z2, y2, z3, y3, lf0, uf0, le0, ue0, lf1, uf1, le1, ue1, lf2, uf2, le2, ue2, lf3, uf3, le3, ue3] using h
  · have h := b 0; simpa [z0, y0, z1, y1, z2, y2, z3, y3, lf0, uf0, le0, ue0, lf1, uf1, le1, ue1, lf2, uf2, le2, ue2, lf3, uf3, le3, ue3] using h
  · have h := b 16; simpa [z0, y0, z1, y1, z2, y2, z3, y3, lf0, uf0, le0, ue0, lf1, uf1, le1, ue1, lf2, uf2, le2, ue2, lf3, uf3, le3, ue3] using h
  · have h := b 17; simpa [z0, y0, z1, y1, z2, y2, z3, y3, lf0, uf0, le0, ue0, lf1, uf1, le1, ue1, lf2, uf2, le2, ue2, lf3, uf3, le3, ue3] using h
  · have h := b 18; simpa [z0, y0, z1, y1, z2, y2, z3, y3, lf0, uf0, le0, ue0, lf1, uf1, le1, ue1, lf2, uf2, le2, ue2, lf3, uf3, le3, ue3] using h
  · have h := b 19; simpa [z0, y0, z1, y1, z2, y2, z3, y3, lf0, uf0, le0, ue0, lf1, uf1, le1, ue1, lf2, uf2, le2, ue2, lf3, uf3, le3, ue3] using h
  · have h := b 20; simpa [z0, y0, z1, y1, z2, y2, z3, y3, lf0, uf0, le0, ue0, lf1, uf1, le1, ue1, lf2, uf2, le2, ue2, lf3, uf3, le3, ue3] using h
  · have h := b 2; simpa [z0, y0, z1, y1, z2, y2, z3, y3, lf0, uf0, le0, ue0, lf1, uf1, le1, ue1, lf2, uf2, le2, ue2, lf3, uf3, le3, ue3] using h
  · have h := b 11; simpa [z0, y0, z1, y1, z2, y2, z3, y3, lf0, uf0, le0, ue0, lf1, uf1, le1, ue1, lf2, uf2, le2, ue2, lf3, uf3, le3, ue3] using h
  · have h := b 12; simpa [z0, y0, z1, y1, z2, y2, z3, y3, lf0, uf0, le0, ue0, lf1, uf1, le1, ue1, lf2, uf2, le2, ue2, lf3, uf3, le3, ue3] using h
  · have h := b 13; simpa [z0, y0, z1, y1, z2, y2, z3, y3, lf0, uf0, le0, ue0, lf1, uf1, le1, ue1, lf2, uf2, le2, ue2, lf3, uf3, le3, ue3] using h
  · have h := b 14; simpa [z0, y0, z1, y1, z2, y2, z3, y3, lf0, uf0, le0, ue0, lf1, uf1, le1, ue1, lf2, uf2, le2, ue2, lf3, uf3, le3, ue3] using h
  · have h := b 15; simpa [z0, y0, z1, y1, z2, y2, z3, y3, lf0, uf0, le0, ue0, lf1, uf1, le1, ue1, lf2, uf2, le2, ue2, lf3, uf3, le3, ue3] using h
  · have h := b 1; simpa [z0, y0, z1, y1, z2, y2, z3, y3, lf0, uf0, le0, ue0, lf1, uf1, le1, ue1, lf2, uf2, le2, ue2, lf3, uf3, le3, ue3] using h
  · have h := b 6; simpa [z0, y0, z1, y1, z2, y2, z3, y3, lf0, uf0, le0, ue0, lf1, uf1, le1, ue1, lf2, uf2, le2, ue2, lf3, uf3, le3, ue3] using h
  · have h := b 7; simpa [z0, y0, z1, y1, z2, y2, z3, y3, lf0, uf0, le0, ue0, lf1, uf1, le1, ue1, lf2, uf2, le2, ue2, lf3, uf3, le3, ue3] using h
  · have h := b 8; simpa [z0, y0, z1, y1, z2, y2, z3, y3, lf0, uf0, le0, ue0, lf1, uf1, le1, ue1, lf2, uf2, le2, ue2, lf3, uf3, le3, ue3] using h
  · have h := b 9; simpa [z0, y0, z1, y1, z2, y2, z3, y3, lf0, uf0, le0, ue0, lf1, uf1, le1, ue1, lf2, uf2, le2, ue2, lf3, uf3, le3, ue3] using h
  · have h := b 10; simpa [z0, y0, z1, y1, z2, y2, z3, y3, lf0, uf0, le0, ue0, lf1, uf1, le1, ue1, lf2, uf2, le2, ue2, lf3, uf3, le3, ue3] using h
  · have h := b 3; simpa [z0, y0, z1, y1, z2, y2, z3, y3, lf0, uf0, le0, ue0, lf1, uf1, le1, ue1, lf2, uf2, le2, ue2, lf3, uf3, le3, ue3] using h
set_option maxHeartbeats 4000000 in
theorem apart_AOP_Z23I {f0 f1 f2 f3 e0 e1 e2 e3 : Int} (h0 : 0 ≤ f0) (g0 : f0 < 32) (h1 : 0 ≤ f1) (g1 : f1 < 32) (h2 : 0 ≤ f2) (g2 : f2 < 32) (h3 : 0 ≤ f3) (g3 : f3 < 4) (h0' : 0 ≤ e0) (g0' : e0 < 32) (h1' : 0 ≤ e1) (g1' : e1 < 32) (h2' : 0 ≤ e2) (g2' : e2 < 32) (h3' : 0 ≤ e3) (g3' : e3 < 4) (hw : Go.bits .or .u32 (Go.bits .or .u32 (Go.bits .or .u32 (Go.bits .or .u32 0 (f0 * 2097152 % 4294967296)) (f1 * 65536 % 4294967296)) (f2 * 2048 % 4294967296)) (f3 * 512 % 4294967296) = Go.bits .or .u32 (Go.bits .or .u32 (Go.bits .or .u32 (Go.bits .or .u32 0 (e0 * 2097152 % 4294967296)) (e1 * 65536 % 4294967296)) (e2 * 2048 % 4294967296)) (e3 * 512 % 4294967296)) : f0 = e0 ∧ f1 = e1 ∧ f2 = e2 ∧ f3 = e3 := by
  have z0 : ∀ p, 5 ≤ p → tb f0 p = false := fun p hp => tb_small f0 5 p h0 g0 hp
  have y0 : ∀ p, 5 ≤ p → tb e0 p = false := fun p hp => tb_small e0 5 p h0' g0' hp
  have z1 : ∀ p, 5 ≤ p → tb f1 p = false := fun p hp => tb_small f1 5 p h1 g1 hp
  have y1 : ∀ p, 5 ≤ p → tb e1 p = false := fun p hp => tb_small e1 5 p h1' g1' hp
  have z2 : ∀ p, 5 ≤ p → tb f2 p = false := fun p hp => tb_small f2 5 p h2 g2 hp
  have y2 : ∀ p, 5 ≤ p → tb e2 p = false := fun p hp => tb_small e2 5 p h2' g2' hp
  have z3 : ∀ p, 2 ≤ p → tb f3 p = false := fun p hp => tb_small f3 2 p h3 g3 hp
  have y3 : ∀ p, 2 ≤ p → tb e3 p = false := fun p hp => tb_small e3 2 p h3' g3' hp
  have b : ∀ p, tb (Go.bits .or .u32 (Go.bits .or .u32 (Go.bits .or .u32 (Go.bits .or .u32 0 (f0 * 2097152 % 4294967296)) (f1 * 65536 % 4294967296)) (f2 * 2048 % 4294967296)) (f3 * 512 % 4294967296)) p = tb (Go.bits .or .u32 (Go.bits .or .u32 (Go.bits .or .u32 (Go.bits .or .u32 0 (e0 * 2097152 % 4294967296)) (e1 * 65536 % 4294967296)) (e2 * 2048 % 4294967296)) (e3 * 512 % 4294967296)) p := fun p => by rw [hw]
  clear hw
  simp only [tb_or, tb_and, tb_s0, tb_s1, tb_s2, tb_s3, tb_s4, tb_s5, tb_s6, tb_s7, tb_s8, tb_s9, tb_s10, tb_s11, tb_s12, tb_s13, tb_s14, tb_s15, tb_s16, tb_s17, tb_s18, tb_s19, tb_s20, tb_s21, tb_s22, tb_s23, tb_s24, tb_s25, tb_s26, tb_s27, tb_s28, tb_s29, tb_s30, tb_s31, tb_d1, tb_d2, tb_d3, tb_d4, tb_d5, tb_d6, tb_d7, tb_d8, tb_d9, tb_d10, tb_d11, tb_d12, tb_d13, tb_d14, tb_d15, tb_d16, tb_d17, tb_d18, tb_d19, tb_d20, tb_d21, tb_d22, tb_d23, tb_d24, tb_d25, tb_d26, tb_d27, tb_d28, tb_d29, tb_d30, tb_d31, tb_m1, tb_m2, tb_m3, tb_m4, tb_m5, tb_m6, tb_m7, tb_m8, tb_m9, tb_m10, tb_m11, tb_m12, tb_m13, tb_m14, tb_m15, tb_m16, tb_m17, tb_m18, tb_m19, tb_m20, tb_m21, tb_m22, tb_m23, tb_m24, tb_m25, tb_m26, tb_m27, tb_m28, tb_m29, tb_m30, tb_m31, tb_c1, tb_c3, tb_c15, tb_c31, tb_c32, tb_c65535, tb_c4095, tb_c262143, tb_c67108860, tb_c65532, tb_c67108864, tb_c100663296, tb_c0] at b
  refine ⟨eq_of_tb 5 (by decide) h0 g0 h0' g0' (below_5 (P := fun p => tb f0 p = tb e0 p) ?_ ?_ ?_ ?_ ?_), eq_of_tb 5 (by decide) h1 g1 h1' g1' (below_5 (P := fun p => tb f1 p = tb e1 p) ?_ ?_ ?_ ?_ ?_), eq_of_tb 5 (by decide) h2 g2 h2' g2' (below_5 (P := fun p => tb f2 p = tb e2 p) ?_ ?_ ?_ ?_ ?_), eq_of_tb 2 (by decide) h3 g3 h3' g3' (below_2 (P := fun p => tb f3 p = tb e3 p) ?_ ?_)⟩
  · have h := b 21; simpa [z0, y0, z1, y1, z2, y2, z3, y3] using h
  · have h := b 22; simpa [z0, y0, z1, y1, z2, y2, z3, y3] using h
  · have h := b 23; simpa [z0, y0, z1, y1, z2, y2, z3, y3] using h
  · have h := b 24; simpa [z0, y0, z1, y1, z2, y2, z3, y3] using h
  · have h := b 25; simpa [z0, y0, z1, y1, z2, y2, z3, y3] using h
  · have h := b 16; simpa [z0, y0, z1, y1, z2, y2, z3, y3] using h
  · have h := b 17; simpa [z0, y0, z1, y1, z2, y2, z3, y3] using h
  · have h := b 18; simpa [z0, y0, z1, y1, z2, y2, z3, y3] using h
  · have h := b 19; simpa [z0, y0, z1, y1, z2, y2, z3, y3] using h
  · have h := b 20; simpa [z0, y0, z1, y1, z2, y2, z3, y3] using h
  · have h := b 11; simpa [z0, y0, z1, y1, z2, y2, z3, y3] using h
  · have h := b 12; simpa [z0, y0, z1, y1, z2, y2, z3, y3] using h
  · have h := b 13; simpa [z0, y0, z1, y1, z2, y2, z3, y3] using h
  · have h := b 14; simpa [z0, y0, z1, y1, z2, y2, z3, y3] using h
  · have h := b 15; simpa [z0, y0, z1, y1, z2, y2, z3, y3] using h
  · have h := b 9; simpa [z0, y0, z1, y1, z2, y2, z3, y3] using h
  · have h := b 10; simpa [z0, y0, z1, y1, z2, y2, z3, y3] using h
set_option maxHeartbeats 4000000 in
theorem apart_AOP_RRRI {f0 f1 f2 f3 e0 e1 e2 e3 : Int} (h0 : 0 ≤ f0) (g0 : f0 < 32) (h1 : 0 ≤ f1) (g1 : f1 < 32) (h2 : 0 ≤ f2) (g2 : f2 < 32) (h3 : 0 ≤ f3) (g3 : f3 < 2) (h0' : 0 ≤ e0) (g0' : e0 < 32) (h1' : 0 ≤ e1) (g1' : e1 < 32) (h2' : 0 ≤ e2) (g2' : e2 < 32) (h3' : 0 ≤ e3) (g3' : e3 < 2) (hw : Go.bits .or .u32 (Go.bits .or .u32 (Go.bits .or .u32 (Go.bits .or .u32 0 (f0 * 2097152 % 4294967296)) (f1 * 65536 % 4294967296)) (f2 * 2048 % 4294967296)) (f3 * 1 % 4294967296) = Go.bits .or .u32 (Go.bits .or .u32 (Go.bits .or .u32 (Go.bits .or .u32 0 (e0 * 2097152 % 4294967296)) (e1 * 65536 % 4294967296)) (e2 * 2048 % 4294967296)) (e3 * 1 % 4294967296)) : f0 = e0 ∧ f1 = e1 ∧ f2 = e2 ∧ f3 = e3 := by
  have z0 : ∀ p, 5 ≤ p → tb f0 p = false := fun p hp => tb_small f0 5 p h0 g0 hp
  have y0 : ∀ p, 5 ≤ p → tb e0 p = false := fun p hp => tb_small e0 5 p h0' g0' hp
  have z1 : ∀ p, 5 ≤ p → tb f1 p = false := fun p hp => tb_small f1 5 p h1 g1 hp
  have y1 : ∀ p, 5 ≤ p → tb e1 p = false := fun p hp => tb_small e1 5 p h1' g1' hp
  have z2 : ∀ p, 5 ≤ p → tb f2 p = false := fun p hp => tb_small f2 5 p h2 g2 hp
  have y2 : ∀ p, 5 ≤ p → tb e2 p = false := fun p hp => tb_small e2 5 p h2' g2' hp
  have z3 : ∀ p, 1 ≤ p → tb f3 p = false := fun p hp => tb_small f3 1 p h3 g3 hp
  have y3 : ∀ p, 1 ≤ p → tb e3 p = false := fun p hp => tb_small e3 1 p h3' g3' hp
  have b : ∀ p, tb (Go.bits .or .u32 (Go.bits .or .u32 (Go.bits .or .u32 (Go.bits .or .u32 0 (f0 * 2097152 % 4294967296)) (f1 * 65536 % 4294967296)) (f2 * 2048 % 4294967296)) (f3 * 1 % 4294967296)) p = tb (Go.bits .or .u32 (Go.bits .or .u32 (Go.bits .or .u32 (Go.bits .or .u32 0 (e0 * 2097152 % 4294967296)) (e1 * 65536 % 4294967296)) (e2 * 2048 % 4294967296)) (e3 * 1 % 4294967296)) p := fun p => by rw [hw]
  clear hw
  simp only [tb_or, tb_and, tb_s0, tb_s1, tb_s2, tb_s3, tb_s4, tb_s5, tb_s6, tb_s7, tb_s8, tb_s9, tb_s10, tb_s11, tb_s12, tb_s13, tb_s14, tb_s15, tb_s16, tb_s17, tb_s18, tb_s19, tb_s20, tb_s21, tb_s22, tb_s23, tb_s24, tb_s25, tb_s26, tb_s27, tb_s28, tb_s29, tb_s30, tb_s31, tb_d1, tb_d2, tb_d3, tb_d4, tb_d5, tb_d6, tb_d7, tb_d8, tb_d9, tb_d10, tb_d11, tb_d12, tb_d13, tb_d14, tb_d15, tb_d16, tb_d17, tb_d18, tb_d19, tb_d20, tb_d21, tb_d22, tb_d23, tb_d24, tb_d25, tb_d26, tb_d27, tb_d28, tb_d29, tb_d30, tb_d31, tb_m1, tb_m2, tb_m3, tb_m4, tb_m5, tb_m6, tb_m7, tb_m8, tb_m9, tb_m10, tb_m11, tb_m12, tb_m13, tb_m14, tb_m15, tb_m16, tb_m17, tb_m18, tb_m19, tb_m20, tb_m21, tb_m22, tb_m23, tb_m24, tb_m25, tb_m26, tb_m27, tb_m28, tb_m29, tb_m30, tb_m31, tb_c1, tb_c3, tb_c15, tb_c31, tb_c32, tb_c65535, tb_c4095, tb_c262143, tb_c67108860, tb_c65532, tb_c67108864, tb_c100663296, tb_c0] at b
  refine ⟨eq_of_tb 5 (by decide) h0 g0 h0' g0' (below_5 (P := fun p => tb f0 p = tb e0 p) ?_ ?_ ?_ ?_ ?_), eq_of_tb 5 (by decide) h1 g1 h1' g1' (below_5 (P := fun p => tb f1 p = tb e1 p) ?_ ?_ ?_ ?_ ?_), eq_of_tb 5 (by decide) h2 g2 h2' g2' (below_5 (P := fun p => tb f2 p = tb e2 p) ?_ ?_ ?_ ?_ ?_), eq_of_tb 1 (by decide) h3 g3 h3' g3' (below_1 (P := fun p => tb f3 p = tb e3 p) ?_)⟩
  · have h := b 21; simpa [z0, y0, z1, y1, z2, y2, z3, y3] using h
  · have h := b 22; simpa [z0, y0, z1, y1, z2, y2, z3, y3] using h
  · have h := b 23; simpa [z0, y0, z1, y1, z2, y2, z3, y3] using h
  · have h := b 24; simpa [z0, y0, z1, y1, z2, y2, z3, y3] using h
  · have h := b 25; simpa [z0, y0, z1, y1, z2, y2, z3, y3] using h
  · have h := b 16; simpa [z0, y0, z1, y1, z2, y2, z3, y3] using h
  · have h := b 17; simpa [z0, y0, z1, y1, z2, y2, z3, y3] using h
  · have h := b 18; simpa [z0, y0, z1, y1, z2, y2, z3, y3] using h
  · have h := b 19; simpa [z0, y0, z1, y1, z2, y2, z3, y3] using h
  · have h := b 20; simpa [z0, y0, z1, y1, z2, y2, z3, y3] using h
  · have h := b 11; simpa [z0, y0, z1, y1, z2, y2, z3, y3] using h
  · have h := b 12; simpa [z0, y0, z1, y1, z2, y2, z3, y3] using h
  · have h := b 13; simpa [z0, y0, z1, y1, z2, y2, z3, y3] using h
  · have h := b 14; simpa [z0, y0, z1, y1, z2, y2, z3, y3] using h
  · have h := b 15; simpa [z0, y0, z1, y1, z2, y2, z3, y3] using h
  · have h := b 0; simpa [z0, y0, z1, y1, z2, y2, z3, y3] using h
set_option maxHeartbeats 4000000 in
theorem apart_LOP_RRR {f0 f1 f2 e0 e1 e2 : Int} (h0 : 0 ≤ f0) (g0 : f0 < 32) (h1 : 0 ≤ f1) (g1 : f1 < 32) (h2 : 0 ≤ f2) (g2 : f2 < 32) (h0' : 0 ≤ e0) (g0' : e0 < 32) (h1' : 0 ≤ e1) (g1' : e1 < 32) (h2' : 0 ≤ e2) (g2' : e2 < 32) (hw : Go.bits .or .u32 (Go.bits .or .u32 (Go.bits .or .u32 0 (f0 * 65536 % 4294967296)) (f1 * 2097152 % 4294967296)) (f2 * 2048 % 4294967296) = Go.bits .or .u32 (Go.bits .or .u32 (Go.bits .or .u32 0 (e0 * 65536 % 4294967296)) (e1 * 2097152 % 4294967296)) (e2 * 2048 % 4294967296)) : f0 = e0 ∧ f1 = e1 ∧ f2 = e2 := by
  have z0 : ∀ p, 5 ≤ p → tb f0 p = false := fun p hp => tb_small f0 5 p h0 g0 hp
  have y0 : ∀ p, 5 ≤ p → tb e0 p = false := fun p hp => tb_small e0 5 p h0' g0' hp
  have z1 : ∀ p, 5 ≤ p → tb f1 p = false := fun p hp => tb_small f1 5 p h1 g1 hp
  have y1 : ∀ p, 5 ≤ p → tb e1 p = false := fun p hp => tb_small e1 5 p h1' g1' hp
  have z2 : ∀ p, 5 ≤ p → tb f2 p = false := fun p hp => tb_small f2 5 p h2 g2 hp
  have y2 : ∀ p, 5 ≤ p → tb e2 p = false := fun p hp => tb_small e2 5 p h2' g2' hp
  have b : ∀ p, tb (Go.bits .or .u32 (Go.bits .or .u32 (Go.bits .or .u32 0 (f0 * 65536 % 4294967296)) (f1 * 2097152 % 4294967296)) (f2 * 2048 % 4294967296)) p = tb (Go.bits .or .u32 (Go.bits .or .u32 (Go.bits .or .u32 0 (e0 * 65536 % 4294967296)) (e1 * 2097152 % 4294967296)) (e2 * 2048 % 4294967296)) p := fun p => by rw [hw]
  clear hw
  simp only [tb_or, tb_and, tb_s0, tb_s1, tb_s2, tb_s3, tb_s4, tb_s5, tb_s6, tb_s7, tb_s8, tb_s9, tb_s10, tb_s11, tb_s12, tb_s13, tb_s14, tb_s15, tb_s16, tb_s17, tb_s18, tb_s19, tb_s20, tb_s21, tb_s22, tb_s23, tb_s24, tb_s25, tb_s26, tb_s27, tb_s28, tb_s29, tb_s30, tb_s31, tb_d1, tb_d2, tb_d3, tb_d4, tb_d5, tb_d6, tb_d7, tb_d8, tb_d9, tb_d10, tb_d11, tb_d12, tb_d13, tb_d14, tb_d15, tb_d16, tb_d17, tb_d18, tb_d19, tb_d20, tb_d21, tb_d22, tb_d23, tb_d24, tb_d25, tb_d26, tb_d27, tb_d28, tb_d29, tb_d30, tb_d31, tb_m1, tb_m2, tb_m3, tb_m4, tb_m5, tb_m6, tb_m7, tb_m8, tb_m9, tb_m10, tb_m11, tb_m12, tb_m13, tb_m14, tb_m15, tb_m16, tb_m17, tb_m18, tb_m19, tb_m20, tb_m21, tb_m22, tb_m23, tb_m24, tb_m25, tb_m26, tb_m27, tb_m28, tb_m29, tb_m30, tb_m31, tb_c1, tb_c3, tb_c15, tb_c31, tb_c32, tb_c65535, tb_c4095, tb_c262143, tb_c67108860, tb_c65532, tb_c67108864, tb_c100663296, tb_c0] at b
  refine ⟨eq_of_tb 5 (by decide) h0 g0 h0' g0' (below_5 (P := fun p => tb f0 p = tb e0 p) ?_ ?_ ?_ ?_ ?_), eq_of_tb 5 (by decide) h1 g1 h1' g1' (below_5 (P := fun p => tb f1 p = tb e1 p) ?_ ?_ ?_ ?_ ?_), eq_of_tb 5 (by decide) h2 g2 h2' g2' (below_5 (P := fun p => tb f2 p = tb e2 p) ?_ ?_ ?_ ?_ ?_)⟩
  · have h := b 16; simpa [z0, y0, z1, y1, z2, y2] using h
  · have h := b 17; simpa [z0, y0, z1, y1, z2, y2] using h
  · have h := b 18; simpa [z0, y0, z1, y1, z2, y2] using h
  · have h := b 19; simpa [z0, y0, z1, y1, z2, y2] using h
  · have h := b 20; simpa [z0, y0, z1, y1, z2, y2] using h
  · have h := b 21; simpa [z0, y0, z1, y1, z2, y2] using h
  · have h := b 22; simpa [z0, y0, z1, y1, z2, y2] using h
  · have h := b 23; simpa [z0, y0, z1, y1, z2, y2] using h
  · have h := b 24; simpa [z0, y0, z1, y1, z2, y2] using h
  · have h := b 25; simpa [z0, y0, z1, y1, z2, y2] using h
  · have h := b 11; simpa [z0, y0, z1, y1, z2, y2] using h
  · have h := b 12; simpa [z0, y0, z1, y1, z2, y2] using h
  · have h := b 13; simpa [z0, y0, z1, y1, z2, y2] using h
  · have h := b 14; simpa [z0, y0, z1, y1, z2, y2] using h
  · have h := b 15; simpa [z0, y0, z1, y1, z2, y2] using h
set_option maxHeartbeats 4000000 in
theorem apart_LOP_IRR {f0 f1 f2 e0 e1 e2 : Int} (h0 : 0 ≤ f0) (g0 : f0 < 32) (h1 : 0 ≤ f1) (g1 : f1 < 32) (h2 : 0 ≤ f2) (g2 : f2 < 65536) (h0' : 0 ≤ e0) (g0' : e0 < 32) (h1' : 0 ≤ e1) (g1' : e1 < 32) (h2' : 0 ≤ e2) (g2' : e2 < 65536) (hw : Go.bits .or .u32 (Go.bits .or .u32 (Go.bits .or .u32 0 (f0 * 65536 % 4294967296)) (f1 * 2097152 % 4294967296)) (f2 * 1 % 4294967296) = Go.bits .or .u32 (Go.bits .or .u32 (Go.bits .or .u32 0 (e0 * 65536 % 4294967296)) (e1 * 2097152 % 4294967296)) (e2 * 1 % 4294967296)) : f0 = e0 ∧ f1 = e1 ∧ f2 = e2 := by
  have z0 : ∀ p, 5 ≤ p → tb f0 p = false := fun p hp => tb_small f0 5 p h0 g0 hp
  have y0 : ∀ p, 5 ≤ p → tb e0 p = false := fun p hp => tb_small e0 5 p h0' g0' hp
  have z1 : ∀ p, 5 ≤ p → tb f1 p = false := fun p hp => tb_small f1 5 p h1 g1 hp
  have y1 : ∀ p, 5 ≤ p → tb e1 p = false := fun p hp => tb_small e1 5 p h1' g1' hp
  have z2 : ∀ p, 16 ≤ p → tb f2 p = false := fun p hp => tb_small f2 16 p h2 g2 hp
  have y2 : ∀ p, 16 ≤ p → tb e2 p = false := fun p hp => tb_small e2 16 p h2' g2' hp
  have b : ∀ p, tb (Go.bits .or .u32 (Go.bits .or .u32 (Go.bits .or .u32 0 (f0 * 65536 % 4294967296)) (f1 * 2097152 % 4294967296)) (f2 * 1 % 4294967296)) p = tb (Go.bits .or .u32 (Go.bits .or .u32 (Go.bits .or .u32 0 (e0 * 65536 % 4294967296)) (e1 * 2097152 % 4294967296)) (e2 * 1 % 4294967296)) p := fun p => by rw [hw]
  clear hw
  simp only [tb_or, tb_and, tb_s0, tb_s1, tb_s2, tb_s3, tb_s4, tb_s5, tb_s6, tb_s7, tb_s8, tb_s9, tb_s10, tb_s11, tb_s12, tb_s13, tb_s14, tb_s15, tb_s16, tb_s17, tb_s18, tb_s19, tb_s20, tb_s21, tb_s22, tb_s23, tb_s24, tb_s25, tb_s26, tb_s27, tb_s28, tb_s29, tb_s30, tb_s31, tb_d1, tb_d2, tb_d3, tb_d4, tb_d5, tb_d6, tb_d7, tb_d8, tb_d9, tb_d10, tb_d11, tb_d12, tb_d13, tb_d14, tb_d15, tb_d16, tb_d17, tb_d18, tb_d19, tb_d20, tb_d21, tb_d22, tb_d23, tb_d24, tb_d25, tb_d26, tb_d27, tb_d28, tb_d29, tb_d30, tb_d31, tb_m1, tb_m2, tb_m3, tb_m4, tb_m5, tb_m6, tb_m7, tb_m8, tb_m9, tb_m10, tb_m11, tb_m12, tb_m13, tb_m14, tb_m15, tb_m16, tb_m17, tb_m18, tb_m19, tb_m20, tb_m21, tb_m22, tb_m23, tb_m24, tb_m25, tb_m26, tb_m27, tb_m28, tb_m29, tb_m30, tb_m31, tb_c1, tb_c3, tb_c15, tb_c31, tb_c32, tb_c65535, tb_c4095, tb_c262143, tb_c67108860, tb_c65532, tb_c67108864, tb_c100663296, tb_c0] at b
  refine ⟨eq_of_tb 5 (by decide) h0 g0 h0' g0' (below_5 (P := fun p => tb f0 p = tb e0 p) ?_ ?_ ?_ ?_ ?_), eq_of_tb 5 (by decide) h1 g1 h1' g1' (below_5 (P := fun p => tb f1 p = tb e1 p) ?_ ?_ ?_ ?_ ?_), eq_of_tb 16 (by decide) h2 g2 h2' g2' (below_16 (P := fun p => tb f2 p = tb e2 p) ?_ ?_ ?_ ?_ ?_ ?_ ?_ ?_ ?_ ?_ ?_ ?_ ?_ ?_ ?_ ?_)⟩
  · have h := b 16; simpa [z0, y0, z1, y1, z2, y2] using h
  · have h := b 17; simpa [z0, y0, z1, y1, z2, y2] using h
  · have h := b 18; simpa [z0, y0, z1, y1, z2, y2] using h
  · have h := b 19; simpa [z0, y0, z1, y1, z2, y2] using h
  · have h := b 20; simpa [z0, y0, z1, y1, z2, y2] using h
  · have h := b 21; simpa [z0, y0, z1, y1, z2, y2] using h
  · have h := b 22; simpa [z0, y0, z1, y1, z2, y2] using h
  · have h := b 23; simpa [z0, y0, z1, y1, z2, y2] using h
  · have h := b 24; simpa [z0, y0, z1, y1, z2, y2] using h
  · have h := b 25; simpa [z0, y0, z1, y1, z2, y2] using h
  · have h := b 0; simpa [z0, y0, z1, y1, z2, y2] using h
  · have h := b 1; simpa [z0, y0, z1, y1, z2, y2] using h
  · have h := b 2; simpa [z0, y0, z1, y1, z2, y2] using h
  · have h := b 3; simpa [z0, y0, z1, y1, z2, y2] using h
  · have h := b 4; simpa [z0, y0, z1, y1, z2, y2] using h
  · have h := b 5; simpa [z0, y0, z1, y1, z2, y2] using h
  · have h := b 6; simpa [z0, y0, z1, y1, z2, y2] using h
  · have h := b 7; simpa [z0, y0, z1, y1, z2, y2] using h
  · have h := b 8; simpa [z0, y0, z1, y1, z2, y2] using h
  · have h := b 9; simpa [z0, y0, z1, y1, z2, y2] using h
  · have h := b 10; simpa [z0, y0, z1, y1, z2, y2] using h
  · have h := b 11; simpa [z0, y0, z1, y1, z2, y2] using h
  · have h := b 12; simpa [z0, y0, z1, y1, z2, y2] using h
  · have h := b 13; simpa [z0, y0, z1, y1, z2, y2] using h
  · have h := b 14; simpa [z0, y0, z1, y1, z2, y2] using h
  · have h := b 15; simpa [z0, y0, z1, y1, z2, y2] using h
set_option maxHeartbeats 4000000 in
theorem apart_OP_BCR {f0 f1 e0 e1 : Int} (h0 : 0 ≤ f0) (g0 : f0 < 32) (h1 : 0 ≤ f1) (g1 : f1 < 32) (h0' : 0 ≤ e0) (g0' : e0 < 32) (h1' : 0 ≤ e1) (g1' : e1 < 32) (hw : Go.bits .or .u32 (Go.bits .or .u32 0 (f0 * 2097152 % 4294967296)) (f1 * 65536 % 4294967296) = Go.bits .or .u32 (Go.bits .or .u32 0 (e0 * 2097152 % 4294967296)) (e1 * 65536 % 4294967296)) : f0 = e0 ∧ f1 = e1 := by
  have z0 : ∀ p, 5 ≤ p → tb f0 p = false := fun p hp => tb_small f0 5 p h0 g0 hp
  have y0 : ∀ p, 5 ≤ p → tb e0 p = false := fun p hp => tb_small e0 5 p h0' g0' hp
  have z1 : ∀ p, 5 ≤ p → tb f1 p = false := fun p hp => tb_small f1 5 p h1 g1 hp
  have y1 : ∀ p, 5 ≤ p → tb e1 p = false := fun p hp => tb_small e1 5 p h1' g1' hp
  have b : ∀ p, tb (Go.bits .or .u32 (Go.bits .or .u32 0 (f0 * 2097152 % 4294967296)) (f1 * 65536 % 4294967296)) p = tb (Go.bits .or .u32 (Go.bits .or .u32 0 (e0 * 2097152 % 4294967296)) (e1 * 65536 % 4294967296)) p := fun p => by rw [hw]
  clear hw
  simp only [tb_or, tb_and, tb_s0, tb_s1, tb_s2, tb_s3, tb_s4, tb_s5, tb_s6, tb_s7, tb_s8, tb_s9, tb_s10, tb_s11, tb_s12, tb_s13, tb_s14, tb_s15, tb_s16, tb_s17, tb_s18, tb_s19, tb_s20, tb_s21, tb_s22, tb_s23, tb_s24, tb_s25, tb_s26, tb_s27, tb_s28, tb_s29, tb_s30, tb_s31, tb_d1, tb_d2, tb_d3, tb_d4, tb_d5, tb_d6, tb_d7, tb_d8, tb_d9, tb_d10, tb_d11, tb_d12, tb_d13, tb_d14, tb_d15, tb_d16, tb_d17, tb_d18, tb_d19, tb_d20, tb_d21, tb_d22, tb_d23, tb_d24, tb_d25, tb_d26, tb_d27, tb_d28, tb_d29, tb_d30, tb_d31, tb_m1, tb_m2, tb_m3, tb_m4, tb_m5, tb_m6, tb_m7, tb_m8, tb_m9, tb_m10, tb_m11, tb_m12, tb_m13, tb_m14, tb_m15, tb_m16, tb_m17, tb_m18, tb_m19, tb_m20, tb_m21, tb_m22, tb_m23, tb_m24, tb_m25, tb_m26, tb_m27, tb_m28, tb_m29, tb_m30, tb_m31, tb_c1, tb_c3, tb_c15, tb_c31, tb_c32, tb_c65535, tb_c4095, tb_c262143, tb_c67108860, tb_c65532, tb_c67108864, tb_c100663296, tb_c0] at b
  refine ⟨eq_of_tb 5 (by decide) h0 g0 h0' g0' (below_5 (P := fun p => tb f0 p = tb e0 p) ?_ ?_ ?_ ?_ ?_), eq_of_tb 5 (by decide) h1 g1 h1' g1' (below_5 (P := fun p => tb f1 p = tb e1 p) ?_ ?_ ?_ ?_ ?_)⟩
  · have h := b 21; simpa [z0, y0, z1, y1] using h
  · have h := b 22; simpa [z0, y0, z1, y1] using h
  · have h := b 23; simpa [z0, y0, z1, y1] using h
  · have h := b 24; simpa [z0, y0, z1, y1] using h
  · have h := b 25; simpa [z0, y0, z1, y1] using h
  · have h := b 16; simpa [z0, y0, z1, y1] using h
  · have h := b 17; simpa [z0, y0, z1, y1] using h
  · have h := b 18; simpa [z0, y0, z1, y1] using h
  · have h := b 19; simpa [z0, y0, z1, y1] using h
  · have h := b 20; simpa [z0, y0, z1, y1] using h
set_option maxHeartbeats 4000000 in
theorem apart_OP_RLW {f0 f1 f2 f3 f4 e0 e1 e2 e3 e4 : Int} (h0 : 0 ≤ f0) (g0 : f0 < 32) (h1 : 0 ≤ f1) (g1 : f1 < 32) (h2 : 0 ≤ f2) (g2 : f2 < 32) (h3 : 0 ≤ f3) (g3 : f3 < 32) (h4 : 0 ≤ f4) (g4 : f4 < 32) (h0' : 0 ≤ e0) (g0' : e0 < 32) (h1' : 0 ≤ e1) (g1' : e1 < 32) (h2' : 0 ≤ e2) (g2' : e2 < 32) (h3' : 0 ≤ e3) (g3' : e3 < 32) (h4' : 0 ≤ e4) (g4' : e4 < 32) (hw : Go.bits .or .u32 (Go.bits .or .u32 (Go.bits .or .u32 (Go.bits .or .u32 (Go.bits .or .u32 0 (f0 * 65536 % 4294967296)) (f1 * 2097152 % 4294967296)) (f2 * 2048 % 4294967296)) (f3 * 64 % 4294967296)) (f4 * 2 % 4294967296) = Go.bits .or .u32 (Go.bits .or .u32 (Go.bits .or .u32 (Go.bits .or .u32 (Go.bits .or .u32 0 (e0 * 65536 % 4294967296)) (e1 * 2097152 % 4294967296)) (e2 * 2048 % 4294967296)) (e3 * 64 % 4294967296)) (e4 * 2 % 4294967296)) : f0 = e0 ∧ f1 = e1 ∧ f2 = e2 ∧ f3 = e3 ∧ f4 = e4 := by
  have z0 : ∀ p, 5 ≤ p → tb f0 p = false := fun p hp => tb_small f0 5 p h0 g0 hp
  have y0 : ∀ p, 5 ≤ p → tb e0 p = false := fun p hp => tb_small e0 5 p h0' g0' hp
  have z1 : ∀ p, 5 ≤ p → tb f1 p = false := fun p hp => tb_small f1 5 p h1 g1 hp
  have y1 : ∀ p, 5 ≤ p → tb e1 p = false := fun p hp => tb_small e1 5 p h1' g1' hp
  have z2 : ∀ p, 5 ≤ p → tb f2 p = false := fun p hp => tb_small f2 5 p h2 g2 hp
  have y2 : ∀ p, 5 ≤ p → tb e2 p = false := fun p hp => tb_small e2 5 p h2' g2' hp
  have z3 : ∀ p, 5 ≤ p → tb f3 p = false := fun p hp => tb_small f3 5 p h3 g3 hp
  have y3 : ∀ p, 5 ≤ p → tb e3 p = false := fun p hp => tb_small e3 5 p h3' g3' hp
  have z4 : ∀ p, 5 ≤ p → tb f4 p = false := fun p hp => tb_small f4 5 p h4 g4 hp
  have y4 : ∀ p, 5 ≤ p → tb e4 p = false := fun p hp => tb_small e4 5 p h4' g4' hp
  have b : ∀ p, tb (Go.bits .or .u32 (Go.bits .or .u32 (Go.bits .or .u32 (Go.bits .or .u32 (Go.bits .or .u32 0 (f0 * 65536 % 4294967296)) (f1 * 2097152 % 4294967296)) (f2 * 2048 % 4294967296)) (f3 * 64 % 4294967296)) (f4 * 2 % 4294967296)) p = tb (Go.bits .or .u32 (Go.bits .or .u32 (Go.bits .or .u32 (Go.bits .or .u32 (Go.bits .or .u32 0 (e0 * 65536 % 4294967296)) (e1 * 2097152 % 4294967296)) (e2 * 2048 % 4294967296)) (e3 * 64 % 4294967296)) (e4 * 2 % 4294967296)) p := fun p => by rw [hw]
  clear hw
  simp only [tb_or, tb_and, tb_s0, tb_s1, tb_s2, tb_s3, tb_s4, tb_s5, tb_s6, tb_s7, tb_s8, tb_s9, tb_s10, tb_s11, tb_s12, tb_s13, tb_s14, tb_s15, tb_s16, tb_s17, tb_s18, tb_s19, tb_s20, tb_s21, tb_s22, tb_s23, tb_s24, tb_s25, tb_s26, tb_s27, tb_s28, tb_s29, tb_s30, tb_s31, tb_d1, tb_d2, tb_d3, tb_d4, tb_d5, tb_d6, tb_d7, tb_d8, tb_d9, tb_d10, tb_d11, tb_d12, tb_d13, tb_d14, tb_d15, tb_d16, tb_d17, tb_d18, tb_d19, tb_d20, tb_d21, tb_d22, tb_d23, tb_d24, tb_d25, tb_d26, tb_d27, tb_d28, tb_d29, tb_d30, tb_d31, tb_m1, tb_m2, tb_m3, tb_m4, tb_m5, tb_m6, tb_m7, tb_m8, tb_m9, tb_m10, tb_m11, tb_m12, tb_m13, tb_m14, tb_m15, tb_m16, tb_m17, tb_m18, tb_m19, tb_m20, tb_m21, tb_m22, tb_m23, tb_m24, tb_m25, tb_m26, tb_m27, tb_m28, tb_m29, tb_m30, tb_m31, tb_c1, tb_c3, tb_c15, tb_c31, tb_c32, tb_c65535, tb_c4095, tb_c262143, tb_c67108860, tb_c65532, tb_c67108864, tb_c100663296, tb_c0] at b
  refine ⟨eq_of_tb 5 (by decide) h0 g0 h0' g0' (below_5 (P := fun p => tb f0 p = tb e0 p) ?_ ?_ ?_ ?_ ?_), eq_of_tb 5 (by decide) h1 g1 h1' g1' (below_5 (P := fun p => tb f1 p = tb e1 p) ?_ ?_ ?_ ?_ ?_), eq_of_tb 5 (by decide) h2 g2 h2' g2' (below_5 (P := fun p => tb f2 p = tb e2 p) ?_ ?_ ?_ ?_ ?_), eq_of_tb 5 (by decide) h3 g3 h3' g3' (below_5 (P := fun p => tb f3 p = tb e3 p) ?_ ?_ ?_ ?_ ?_), eq_of_tb 5 (by decide) h4 g4 h4' g4' (below_5 (P := fun p => tb f4 p = tb e4 p) ?_ ?_ ?_ ?_ ?_)⟩
  · have h := b 16; simpa [z0, y0, z1, y1, z2, y2, z3, y3, z4, y4] using h
  · have h := b 17; simpa [z0, y0, z1, y1, z2, y2, z3, y3, z4, y4] using h
  · have h := b 18; simpa [z0, y0, z1, y1, z2, y2, z3, y3, z4, y4] using h
  · have h := b 19; simpa [z0, y0, z1, y1, z2, y2, z3, y3, z4, y4] using h
  · have h := b 20; simpa [z0, y0, z1, y1, z2, y2, z3, y3, z4, y4] using h
  · have h := b 21; simpa [z0, y0, z1, y1, z2, y2, z3, y3, z4, y4] using h
  · have h := b 22; simpa [z0, y0, z1, y1, z2, y2, z3, y3, z4, y4] using h
  · have h := b 23; simpa [z0, y0, z1, y1, z2, y2, z3, y3, z4, y4] using h
  · have h := b 24; simpa [z0, y0, z1, y1, z2, y2, z3, y3, z4, y4] using h
  · have h := b 25; simpa [z0, y0, z1, y1, z2, y2, z3, y3, z4, y4] using h
  · have h := b 11; simpa [z0, y0, z1, y1, z2, y2, z3, y3, z4, y4] using h
  · have h := b 12; simpa [z0, y0, z1, y1, z2, y2, z3, y3, z4, y4] using h
  · have h := b 13; simpa [z0, y0, z1, y1, z2, y2, z3, y3, z4, y4] using h
  · have h := b 14; simpa [z0, y0, z1, y1, z2, y2, z3, y3, z4, y4] using h
  · have h := b 15; simpa [z0, y0, z1, y1, z2, y2, z3, y3, z4, y4] using h
  · have h := b 6; simpa [z0, y0, z1, y1, z2, y2, z3, y3, z4, y4] using h
  · have h := b 7; simpa [z0, y0, z1, y1, z2, y2, z3, y3, z4, y4] using h
  · have h := b 8; simpa [z0, y0, z1, y1, z2, y2, z3, y3, z4, y4] using h
  · have h := b 9; simpa [z0, y0, z1, y1, z2, y2, z3, y3, z4, y4] using h
  · have h := b 10; simpa [z0, y0, z1, y1, z2, y2, z3, y3, z4, y4] using h
  · have h := b 1; simpa [z0, y0, z1, y1, z2, y2, z3, y3, z4, y4] using h
  · have h := b 2; simpa [z0, y0, z1, y1, z2, y2, z3, y3, z4, y4] using h
  · have h := b 3; simpa [z0, y0, z1, y1, z2, y2, z3, y3, z4, y4] using h
  · have h := b 4; simpa [z0, y0, z1, y1, z2, y2, z3, y3, z4, y4] using h
  · have h := b 5; simpa [z0, y0, z1, y1, z2, y2, z3, y3, z4, y4] using h
set_option maxHeartbeats 4000000 in
theorem apart_AOP_ISEL {f0 f1 f2 f3 e0 e1 e2 e3 : Int} (h0 : 0 ≤ f0) (g0 : f0 < 32) (h1 : 0 ≤ f1) (g1 : f1 < 32) (h2 : 0 ≤ f2) (g2 : f2 < 32) (h3 : 0 ≤ f3) (g3 : f3 < 32) (h0' : 0 ≤ e0) (g0' : e0 < 32) (h1' : 0 ≤ e1) (g1' : e1 < 32) (h2' : 0 ≤ e2) (g2' : e2 < 32) (h3' : 0 ≤ e3) (g3' : e3 < 32) (hw : Go.bits .or .u32 (Go.bits .or .u32 (Go.bits .or .u32 (Go.bits .or .u32 0 (f0 * 2097152 % 4294967296)) (f1 * 65536 % 4294967296)) (f2 * 2048 % 4294967296)) (f3 * 64 % 4294967296) = Go.bits .or .u32 (Go.bits .or .u32 (Go.bits .or .u32 (Go.bits .or .u32 0 (e0 * 2097152 % 4294967296)) (e1 * 65536 % 4294967296)) (e2 * 2048 % 4294967296)) (e3 * 64 % 4294967296)) : f0 = e0 ∧ f1 = e1 ∧ f2 = e2 ∧ f3 = e3 := by
  have z0 : ∀ p, 5 ≤ p → tb f0 p = false := fun p hp => tb_small f0 5 p h0 g0 hp
  have y0 : ∀ p, 5 ≤ p → tb e0 p = false := fun p hp => tb_small e0 5 p h0' g0' hp
  have z1 : ∀ p, 5 ≤ p → tb f1 p = false := fun p hp => tb_small f1 5 p h1 g1 hp
  have y1 : ∀ p, 5 ≤ p → tb e1 p = false := fun p hp => tb_small e1 5 p h1' g1' hp
  have z2 : ∀ p, 5 ≤ p → tb f2 p = false := fun p hp => tb_small f2 5 p h2 g2 hp
  have y2 : ∀ p, 5 ≤ p → tb e2 p = false := fun p hp => tb_small e2 5 p h2' g2' hp
  have z3 : ∀ p, 5 ≤ p → tb f3 p = false := fun p hp => tb_small f3 5 p h3 g3 hp
  have y3 : ∀ p, 5 ≤ p → tb e3 p = false := fun p hp => tb_small e3 5 p h3' g3' hp
  have b : ∀ p, tb (Go.bits .or .u32 (Go.bits .or .u32 (Go.bits .or .u32 (Go.bits .or .u32 0 (f0 * 2097152 % 4294967296)) (f1 * 65536 % 4294967296)) (f2 * 2048 % 4294967296)) (f3 * 64 % 4294967296)) p = tb (Go.bits .or .u32 (Go.bits .or .u32 (Go.bits .or .u32 (Go.bits .or .u32 0 (e0 * 2097152 % 4294967296)) (e1 * 65536 % 4294967296)) (e2 * 2048 % 4294967296)) (e3 * 64 % 4294967296)) p := fun p => by rw [hw]
  clear hw
  simp only [tb_or, tb_and, tb_s0, tb_s1, tb_s2, tb_s3, tb_s4, tb_s5, tb_s6, tb_s7, tb_s8, tb_s9, tb_s10, tb_s11, tb_s12, tb_s13, tb_s14, tb_s15, tb_s16, tb_s17, tb_s18, tb_s19, tb_s20, tb_s21, tb_s22, tb_s23, tb_s24, tb_s25, tb_s26, tb_s27, tb_s28, tb_s29, tb_s30, tb_s31, tb_d1, tb_d2, tb_d3, tb_d4, tb_d5, tb_d6, tb_d7, tb_d8, tb_d9, tb_d10, tb_d11, tb_d12, tb_d13, tb_d14, tb_d15, tb_d16, tb_d17, tb_d18, tb_d19, tb_d20, tb_d21, tb_d22, tb_d23, tb_d24, tb_d25, tb_d26, tb_d27, tb_d28, tb_d29, tb_d30, tb_d31, tb_m1, tb_m2, tb_m3, tb_m4, tb_m5, tb_m6, tb_m7, tb_m8, tb_m9, tb_m10, tb_m11, tb_m12, tb_m13, tb_m14, tb_m15, tb_m16, tb_m17, tb_m18, tb_m19, tb_m20, tb_m21, tb_m22, tb_m23, tb_m24, tb_m25, tb_m26, tb_m27, tb_m28, tb_m29, tb_m30, tb_m31, tb_c1, tb_c3, tb_c15, tb_c31, tb_c32, tb_c65535, tb_c4095, tb_c262143, tb_c67108860, tb_c65532, tb_c67108864, tb_c100663296, tb_c0] at b
  refine ⟨eq_of_tb 5 (by decide) h0 g0 h0' g0' (below_5 (P := fun p => tb f0 p = tb e0 p) ?_ ?_ ?_ ?_ ?_), eq_of_tb 5 (by decide) h1 g1 h1' g1' (below_5 (P := fun p => tb f1 p = tb e1 p) ?_ ?_ ?_ ?_ ?_), eq_of_tb 5 (by decide) h2 g2 h2' g2' (below_5 (P := fun p => tb f2 p = tb e2 p) ?_ ?_ ?_ ?_ ?_), eq_of_tb 5 (by decide) h3 g3 h3' g3' (below_5 (P := fun p => tb f3 p = tb e3 p) ?_ ?_ ?_ ?_ ?_)⟩
  · have h := b 21; simpa [z0, y0, z1, y1, z2, y2, z3, y3] using h
  · have h := b 22; simpa [z0, y0, z1, y1, z2, y2, z3, y3] using h
  · have h := b 23; simpa [z0, y0, z1, y1, z2, y2, z3, y3] using h
  · have h := b 24; simpa [z0, y0, z1, y1, z2, y2, z3, y3] using h
  · have h := b 25; simpa [z0, y0, z1, y1, z2, y2, z3, y3] using h
  · have h := b 16; simpa [z0, y0, z1, y1, z2, y2, z3, y3] using h
  · have h := b 17; simpa [z0, y0, z1, y1, z2, y2, z3, y3] using h
  · have h := b 18; simpa [z0, y0, z1, y1, z2, y2, z3, y3] using h
  · have h := b 19; simpa [z0, y0, z1, y1, z2, y2, z3, y3] using h
  · have h := b 20; simpa [z0, y0, z1, y1, z2, y2, z3, y3] using h
  · have h := b 11; simpa [z0, y0, z1, y1, z2, y2, z3, y3] using h
  · have h := b 12; simpa [z0, y0, z1, y1, z2, y2, z3, y3] using h
  · have h := b 13; simpa [z0, y0, z1, y1, z2, y2, z3, y3] using h
  · have h := b 14; simpa [z0, y0, z1, y1, z2, y2, z3, y3] using h
  · have h := b 15; simpa [z0, y0, z1, y1, z2, y2, z3, y3] using h
  · have h := b 6; simpa [z0, y0, z1, y1, z2, y2, z3, y3] using h
  · have h := b 7; simpa [z0, y0, z1, y1, z2, y2, z3, y3] using h
  · have h := b 8; simpa [z0, y0, z1, y1, z2, y2, z3, y3] using h
  · have h := b 9; simpa [z0, y0, z1, y1, z2, y2, z3, y3] using h
  · have h := b 10; simpa [z0, y0, z1, y1, z2, y2, z3, y3] using h
set_option maxHeartbeats 4000000 in
theorem apart_AOP_MD {f0 f1 f2 f3 e0 e1 e2 e3 : Int} (h0 : 0 ≤ f0) (g0 : f0 < 32) (h1 : 0 ≤ f1) (g1 : f1 < 32) (h2 : 0 ≤ f2) (g2 : f2 < 64) (h3 : 0 ≤ f3) (g3 : f3 < 64) (h0' : 0 ≤ e0) (g0' : e0 < 32) (h1' : 0 ≤ e1) (g1' : e1 < 32) (h2' : 0 ≤ e2) (g2' : e2 < 64) (h3' : 0 ≤ e3) (g3' : e3 < 64) (hw : Go.bits .or .u32 (Go.bits .or .u32 (Go.bits .or .u32 (Go.bits .or .u32 0 (f0 * 65536 % 4294967296)) (f1 * 2097152 % 4294967296)) (Go.bits .or .u32 (f2 % 32 * 2048 % 4294967296) (f2 / 32 * 2 % 4294967296))) (Go.bits .or .u32 (f3 % 32 * 64 % 4294967296) (f3 / 32 * 32 % 4294967296)) = Go.bits .or .u32 (Go.bits .or .u32 (Go.bits .or .u32 (Go.bits .or .u32 0 (e0 * 65536 % 4294967296)) (e1 * 2097152 % 4294967296)) (Go.bits .or .u32 (e2 % 32 * 2048 % 4294967296) (e2 / 32 * 2 % 4294967296))) (Go.bits .or .u32 (e3 % 32 * 64 % 4294967296) (e3 / 32 * 32 % 4294967296))) : f0 = e0 ∧ f1 = e1 ∧ f2 = e2 ∧ f3 = e3 := by
  have z0 : ∀ p, 5 ≤ p → tb f0 p = false := fun p hp => tb_small f0 5 p h0 g0 hp
  have y0 : ∀ p, 5 ≤ p → tb e0 p = false := fun p hp => tb_small e0 5 p h0' g0' hp
  have z1 : ∀ p, 5 ≤ p → tb f1 p = false := fun p hp => tb_small f1 5 p h1 g1 hp
  have y1 : ∀ p, 5 ≤ p → tb e1 p = false := fun p hp => tb_small e1 5 p h1' g1' hp
  have z2 : ∀ p, 6 ≤ p → tb f2 p = false := fun p hp => tb_small f2 6 p h2 g2 hp
  have y2 : ∀ p, 6 ≤ p → tb e2 p = false := fun p hp => tb_small e2 6 p h2' g2' hp
  have lf2 : ∀ p, tb (f2 % 32) p = (tb f2 p && decide (p < 5)) := fun p => tb_lo5 f2 p h2
  have uf2 : ∀ p, tb (f2 / 32) p = tb f2 (5 + p) := fun p => tb_hi5 f2 p h2 (by omega)
  have le2 : ∀ p, tb (e2 % 32) p = (tb e2 p && decide (p < 5)) := fun p => tb_lo5 e2 p h2'
  have ue2 : ∀ p, tb (e2 / 32) p = tb e2 (5 + p) := fun p => tb_hi5 e2 p h2' (by omega)
  have z3 : ∀ p, 6 ≤ p → tb f3 p = false := fun p hp => tb_small f3 6 p h3 g3 hp
  have y3 : ∀ p, 6 ≤ p → tb e3 p = false := fun p hp => tb_small e3 6 p h3' g3' hp
  have lf3 : ∀ p, tb (f3 % 32) p = (tb f3 p && decide (p < 5)) := fun p => tb_lo5 f3 p h3
  have uf3 : ∀ p, tb (f3 / 32) p = tb f3 (5 + p) := fun p => tb_hi5 f3 p h3 (by omega)
  have le3 : ∀ p, tb (e3 % 32) p = (tb e3 p && decide (p < 5)) := fun p => tb_lo5 e3 p h3'
  have ue3 : ∀ p, tb (e3 / 32) p = tb e3 (5 + p) := fun p => tb_hi5 e3 p h3' (by omega)
  have b : ∀ p, tb (Go.bits .or .u32 (Go.bits .or .u32 (Go.bits .or .u32 (Go.bits .or .u32 0 (f0 * 65536 % 4294967296)) (f1 * 2097152 % 4294967296)) (Go.bits .or .u32 (f2 % 32 * 2048 % 4294967296) (f2 / 32 * 2 % 4294967296))) (Go.bits .or .u32 (f3 % 32 * 64 % 4294967296) (f3 / 32 * 32 % 4294967296))) p = tb (Go.bits .or .u32 (Go.bits .or .u32 (Go.bits .or .u32 (Go.bits .or .u32 0 (e0 * 65536 % 4294967296)) (e1 * 2097152 % 4294967296)) (Go.bits .or .u32 (e2 % 32 * 2048 % 4294967296) (e2 / 32 * 2 % 4294967296))) (Go.bits .or .u32 (e3 % 32 * 64 % 4294967296) (e3 / 32 * 32 % 4294967296))) p := fun p => by rw [hw]
  clear hw
  simp only [tb_or, tb_and, tb_s0, tb_s1, tb_s2, tb_s3, tb_s4, tb_s5, tb_s6, tb_s7, tb_s8, tb_s9, tb_s10, tb_s11, tb_s12, tb_s13, tb_s14, tb_s15, tb_s16, tb_s17, tb_s18, tb_s19, tb_s20, tb_s21, tb_s22, tb_s23, tb_s24, tb_s25, tb_s26, tb_s27, tb_s28, tb_s29, tb_s30, tb_s31, tb_d1, tb_d2, tb_d3, tb_d4, tb_d5, tb_d6, tb_d7, tb_d8, tb_d9, tb_d10, tb_d11, tb_d12, tb_d13, tb_d14, tb_d15, tb_d16, tb_d17, tb_d18, tb_d19, tb_d20, tb_d21, tb_d22, tb_d23, tb_d24, tb_d25, tb_d26, tb_d27, tb_d28, tb_d29, tb_d30, tb_d31, tb_m1, tb_m2, tb_m3, tb_m4, tb_m5, tb_m6, tb_m7, tb_m8, tb_m9, tb_m10, tb_m11, tb_m12, tb_m13, tb_m14, tb_m15, tb_m16, tb_m17, tb_m18, tb_m19, tb_m20, tb_m21, tb_m22, tb_m23, tb_m24, tb_m25, tb_m26, tb_m27, tb_m28, tb_m29, tb_m30, tb_m31, tb_c1, tb_c3, tb_c15, tb_c31, tb_c32, tb_c65535, tb_c4095, tb_c262143, tb_c67108860, tb_c65532, tb_c67108864, tb_c100663296, tb_c0] at b
  refine ⟨eq_of_tb 5 (by decide) h0 g0 h0' g0' (below_5 (P := fun p => tb f0 p = tb e0 p) ?_ ?_ ?_ ?_ ?_), eq_of_tb 5 (by decide) h1 g1 h1' g1' (below_5 (P := fun p => tb f1 p = tb e1 p) ?_ ?_ ?_ ?_ ?_), eq_of_tb 6 (by decide) h2 g2 h2' g2' (below_6 (P := fun p => tb f2 p = tb e2 p) ?_ ?_ ?_ ?_ ?_ ?_), eq_of_tb 6 (by decide) h3 g3 h3' g3' (below_6 (P := fun p => tb f3 p = tb e3 p) ?_ ?_ ?_ ?_ ?_ ?_)⟩
  · have h := b 16; simpa [z0, y0, z1, y1, z2, y2, z3, y3, lf2, uf2, le2, ue2, lf3, uf3, le3, ue3] using h
  · have h := b 17; simpa [z0, y0, z1, y1, z2, y2, z3, y3, lf2, uf2, le2, ue2, lf3, uf3, le3, ue3] using h
  · have h := b 18; simpa [z0, y0, z1, y1, z2, y2, z3, y3, lf2, uf2, le2, ue2, lf3, uf3, le3, ue3] using h
  · have h := b 19; simpa [z0, y0, z1, y1, z2, y2, z3, y3, lf2, uf2, le2, ue2, lf3, uf3, le3, ue3] using h
  · have h := b 20; simpa [z0, y0, z1, y1, z2, y2, z3, y3, lf2, uf2, le2, ue2, lf3, uf3, le3, ue3] using h
  · have h := b 21; simpa [z0, y0, z1, y1, z2, y2, z3, y3, lf2, uf2, le2, ue2, lf3, uf3, le3, ue3] using h
  · have h := b 22; simpa [z0, y0, z1, y1, z2, y2, z3, y3, lf2, uf2, le2, ue2, lf3, uf3, le3, ue3] using h
  · have h := b 23; simpa [z0, y0, z1, y1, z2, y2, z3, y3, lf2, uf2, le2, ue2, lf3, uf3, le3, ue3] using h
  · have h := b 24; simpa [z0, y0, z1, y1, z2, y2, z3, y3, lf2, uf2, le2, ue2, lf3, uf3, le3, ue3] using h
  · have h := b 25; simpa [z0, y0, z1, y1, z2, y2, z3, y3, lf2, uf2, le2, ue2, lf3, uf3, le3, ue3] using h
  · have h := b 11; simpa [z0, y0, z1, y1, z2, y2, z3, y3, lf2, uf2, le2, ue2, lf3, uf3, le3, ue3] using h
  · have h := b 12; simpa [z0, y0, z1, y1, z2, y2, z3, y3, lf2, uf2, le2, ue2, lf3, uf3, le3, ue3] using h
  · have h := b 13; simpa [z0, y0, z1, y1, z2, y2, z3, y3, lf2, uf2, le2, ue2, lf3, uf3, le3, ue3] using h
  · have h := b 14; simpa [z0, y0, z1, y1, z2, y2, z3, y3, lf2, uf2, le2, ue2, lf3, uf3, le3, ue3] using h
  · have h := b 15; simpa [z0, y0, z1, y1, z2, y2, z3, y3, lf2, uf2, le2, ue2, lf3, uf3, le3, ue3] using h
  · have h := b 1; simpa [z0, y0, z1, y1, z2, y2, z3, y3, lf2, uf2, le2, ue2, lf3, uf3, le3, ue3] using h
  · have h := b 6; simpa [z0, y0, z1, y1, z2, y2, z3, y3, lf2, uf2, le2, ue2, lf3, uf3, le3, ue3] using h
  · have h := b 7; simpa [z0, y0, z1, y1, z2, y2, z3, y3, lf2, uf2, le2, ue2, lf3, uf3, le3, ue3] using h
  · have h := b 8; simpa [z0, y0, z1, y1, z2, y2, z3, y3, lf2, uf2, le2, ue2, lf3, uf3, le3, ue3] using h
  · have h := b 9; simpa [z0, y0, z1, y1, z2, y2, z3, y3, lf2, uf2, le2, ue2, lf3, uf3, le3, ue3] using h
  · have h := b 10; simpa [z0, y0, z1, y1, z2, y2, z3, y3, lf2, uf2, le2, ue2, lf3, uf3, le3, ue3] using h
  · have h := b 5; simpa [z0, y0, z1, y1, z2, y2, z3, y3, lf2, uf2, le2, ue2, lf3, uf3, le3, ue3] using h
set_option maxHeartbeats 4000000 in
theorem apart_AOP_MDS {f0 f1 f2 f3 e0 e1 e2 e3 : Int} (h0 : 0 ≤ f0) (g0 : f0 < 32) (h1 : 0 ≤ f1) (g1 : f1 < 32) (h2 : 0 ≤ f2) (g2 : f2 < 32) (h3 : 0 ≤ f3) (g3 : f3 < 64) (h0' : 0 ≤ e0) (g0' : e0 < 32) (h1' : 0 ≤ e1) (g1' : e1 < 32) (h2' : 0 ≤ e2) (g2' : e2 < 32) (h3' : 0 ≤ e3) (g3' : e3 < 64) (hw : Go.bits .or .u32 (Go.bits .or .u32 (Go.bits .or .u32 (Go.bits .or .u32 0 (f0 * 65536 % 4294967296)) (f1 * 2097152 % 4294967296)) (f2 * 2048 % 4294967296)) (Go.bits .or .u32 (f3 % 32 * 64 % 4294967296) (f3 / 32 * 32 % 4294967296)) = Go.bits .or .u32 (Go.bits .or .u32 (Go.bits .or .u32 (Go.bits .or .u32 0 (e0 * 65536 % 4294967296)) (e1 * 2097152 % 4294967296)) (e2 * 2048 % 4294967296)) (Go.bits .or .u32 (e3 % 32 * 64 % 4294967296) (e3 / 32 * 32 % 4294967296))) : f0 = e0 ∧ f1 = e1 ∧ f2 = e2 ∧ f3 = e3 := by
  have z0 : ∀ p, 5 ≤ p → tb f0 p = false := fun p hp => tb_small f0 5 p h0 g0 hp
  have y0 : ∀ p, 5 ≤ p → tb e0 p = false := fun p hp => tb_small e0 5 p h0' g0' hp
  have z1 : ∀ p, 5 ≤ p → tb f1 p = false := fun p hp => tb_small f1 5 p h1 g1 hp
  have y1 : ∀ p, 5 ≤ p → tb e1 p = false := fun p hp => tb_small e1 5 p h1' g1' hp
  have z2 : ∀ p, 5 ≤ p → tb f2 p = false := fun p hp => tb_small f2 5 p h2 g2 hp
  have y2 : ∀ p, 5 ≤ p → tb e2 p = false := fun p hp => tb_small e2 5 p h2' g2' hp
  have z3 : ∀ p, 6 ≤ p → tb f3 p = false := fun p hp => tb_small f3 6 p h3 g3 hp
  have y3 : ∀ p, 6 ≤ p → tb e3 p = false := fun p hp => tb_small e3 6 p h3' g3' hp
  have lf3 : ∀ p, tb (f3 % 32) p = (tb f3 p && decide (p < 5)) := fun p => tb_lo5 f3 p h3
  have uf3 : ∀ p, tb (f3 / 32) p = tb f3 (5 + p) := fun p => tb_hi5 f3 p h3 (by omega)
  have le3 : ∀ p, tb (e3 % 32) p = (tb e3 p && decide (p < 5)) := fun p => tb_lo5 e3 p h3'
  have ue3 : ∀ p, tb (e3 / 32) p = tb e3 (5 + p) := fun p => tb_hi5 e3 p h3' (by omega)
  have b : ∀ p, tb (Go.bits .or .u32 (Go.bits .or .u32 (Go.bits .or .u32 (Go.bits .or .u32 0 (f0 * 65536 % 4294967296)) (f1 * 2097152 % 4294967296)) (f2 * 2048 % 4294967296)) (Go.bits .or .u32 (f3 % 32 * 64 % 4294967296) (f3 / 32 * 32 % 4294967296))) p = tb (Go.bits .or .u32 (Go.bits .or .u32 (Go.bits .or .u32 (Go.bits .or .u32 0 (e0 * 65536 % 4294967296)) (e1 * 2097152 % 4294967296)) (e2 * 2048 % 4294967296)) (Go.bits .or .u32 (e3 % 32 * 64 % 4294967296) (e3 / 32 * 32 % 4294967296))) p := fun p => by rw [hw]
  clear hw
  simp only [tb_or, tb_and, tb_s0, tb_s1, tb_s2, tb_s3, tb_s4, tb_s5, tb_s6, tb_s7, tb_s8, tb_s9, tb_s10, tb_s11, tb_s12, tb_s13, tb_s14, tb_s15, tb_s16, tb_s17, tb_s18, tb_s19, tb_s20, tb_s21, tb_s22, tb_s23, tb_s24, tb_s25, tb_s26, tb_s27, tb_s28, tb_s29, tb_s30, tb_s31, tb_d1, tb_d2, tb_d3, tb_d4, tb_d5, tb_d6, tb_d7, tb_d8, tb_d9, tb_d10, tb_d11, tb_d12, tb_d13, tb_d14, tb_d15, tb_d16, tb_d17, tb_d18, tb_d19, tb_d20, tb_d21, tb_d22, tb_d23, tb_d24, tb_d25, tb_d26, tb_d27, tb_d28, tb_d29, tb_d30, tb_d31, tb_m1, tb_m2, tb_m3, tb_m4, tb_m5, tb_m6, tb_m7, tb_m8, tb_m9, tb_m10, tb_m11, tb_m12, tb_m13, tb_m14, tb_m15, tb_m16, tb_m17, tb_m18, tb_m19, tb_m20, tb_m21, tb_m22, tb_m23, tb_m24, tb_m25, tb_m26, tb_m27, tb_m28, tb_m29, tb_m30, tb_m31, tb_c1, tb_c3, tb_c15, tb_c31, tb_c32, tb_c65535, tb_c4095, tb_c262143, tb_c67108860, tb_c65532, tb_c67108864, tb_c100663296, tb_c0] at b
  refine ⟨eq_of_tb 5 (by decide) h0 g0 h0' g0' (below_5 (P := fun p => tb f0 p = tb e0 p) ?_ ?_ ?_ ?_ ?_), eq_of_tb 5 (by decide) h1 g1 h1' g1' (below_5 (P := fun p => tb f1 p = tb e1 p) ?_ ?_ ?_ ?_ ?_), eq_of_tb 5 (by decide) h2 g2 h2' g2' (below_5 (P := fun p => tb f2 p = tb e2 p) ?_ ?_ ?_ ?_ ?_), eq_of_tb 6 (by decide) h3 g3 h3' g3' (below_6 (P := fun p => tb f3 p = tb e3 p) ?_ ?_ ?_ ?_ ?_ ?_)⟩
  · have h := b 16; simpa [z0, y0, z1, y1, z2, y2, z3, y3, lf3, uf3, le3, ue3] using h
  · have h := b 17; simpa [z0, y0, z1, y1, z2, y2, z3, y3, lf3, uf3, le3, ue3] using h
  · have h := b 18; simpa [z0, y0, z1, y1, z2, y2, z3, y3, lf3, uf3, le3, ue3] using h
  · have h := b 19; simpa [z0, y0, z1, y1, z2, y2, z3, y3, lf3, uf3, le3, ue3] using h
  · have h := b 20; simpa [z0, y0, z1, y1, z2, y2, z3, y3, lf3, uf3, le3, ue3] using h
  · have h := b 21; simpa [z0, y0, z1, y1, z2, y2, z3, y3, lf3, uf3, le3, ue3] using h
  · have h := b 22; simpa [z0, y0, z1, y1, z2, y2, z3, y3, lf3, uf3, le3, ue3] using h
  · have h := b 23; simpa [z0, y0, z1, y1, z2, y2, z3, y3, lf3, uf3, le3, ue3] using h
  · have h := b 24; simpa [z0, y0, z1, y1, z2, y2, z3, y3, lf3, uf3, le3, ue3] using h
  · have h := b 25; simpa [z0, y0, z1, y1, z2, y2, z3, y3, lf3, uf3, le3, ue3] using h
  · have h := b 11; simpa [z0, y0, z1, y1, z2, y2, z3, y3, lf3, uf3, le3, ue3] using h
  · have h := b 12; simpa [z0, y0, z1, y1, z2, y2, z3, y3, lf3, uf3, le3, ue3] using h
  · have h := b 13; simpa [z0, y0, z1, y1, z2, y2, z3, y3, lf3, uf3, le3, ue3] using h
  · have h := b 14; simpa [z0, y0, z1, y1, z2, y2, z3, y3, lf3, uf3, le3, ue3] using h
  · have h := b 15; simpa [z0, y0, z1, y1, z2, y2, z3, y3, lf3, uf3, le3, ue3] using h
  · have h := b 6; simpa [z0, y0, z1, y1, z2, y2, z3, y3, lf3, uf3, le3, ue3] using h
  · have h := b 7; simpa [z0, y0, z1, y1, z2, y2, z3, y3, lf3, uf3, le3, ue3] using h
  · have h := b 8; simpa [z0, y0, z1, y1, z2, y2, z3, y3, lf3, uf3, le3, ue3] using h
  · have h := b 9; simpa [z0, y0, z1, y1, z2, y2, z3, y3, lf3, uf3, le3, ue3] using h
  · have h := b 10; simpa [z0, y0, z1, y1, z2, y2, z3, y3, lf3, uf3, le3, ue3] using h
  · have h := b 5; simpa [z0, y0, z1, y1, z2, y2, z3, y3, lf3, uf3, le3, ue3] using h

end Go.Proofs.Ytnfkdmoblncclaa.X
