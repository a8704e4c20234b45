/- A builder of codes puts the operation's number at the top, and the other parts at their places: the law answers true at every input. -/
import Derived.Test.YtnfkdmoblncclaaXTab
import Derived.Test.YtnfkdmoblncclaaXPutTab
import Derived.Test.YtnfkdmoblncclaaXFnCodes
import Derived.OpenShut
namespace Go.Proofs.Ytnfkdmoblncclaa.Pure
open Go.RowKit Go.Proofs.Ytnfkdmoblncclaa.X Go.Proofs.YtnfkdmoblncclaaW.PrintWords Go.Proofs.YtnfkdmoblncclaaW.PrintLast Go.Proofs.YtnfkdmoblncclaaW.PrintMore

theorem shl_one (b : Nat) (hb : b ≤ 62) : shl .i64 1 (b : Int) = 2 ^ b := by
  unfold shl
  have e : min ((b : Int)).toNat (IntKind.i64).bits = b := by
    have : (IntKind.i64).bits = 64 := rfl
    rw [this]; simp; omega
  rw [e, Int.one_mul, IntKind.wrap_i64]
  have h1 : (2 : Nat) ^ b ≤ 2 ^ 62 := Nat.pow_le_pow_right (by decide) hb
  have h2 : ((2 ^ b : Nat) : Int) ≤ ((2 ^ 62 : Nat) : Int) := Int.ofNat_le.mpr h1
  have h3 : (0 : Int) ≤ ((2 ^ b : Nat) : Int) := Int.natCast_nonneg _
  have h4 : ((2 ^ b : Nat) : Int) = 2 ^ b := by simp
  have h5 : ((2 ^ 62 : Nat) : Int) = 4611686018427387904 := by decide +kernel
  omega

/-- One round of the reference's loop over the parts. -/
theorem codeOf_round (k : Nat) (x1 : List Int) (x6 : Int) (i : Nat) (name : ByteArray) (moved bits : List Int) (b m : Nat) (hi : i < bits.length) (hx : i + 1 < x1.length) (hm : i < moved.length)
    (hb : rd bits (i : Int) = (b : Int)) (hmv : rd moved (i : Int) = (m : Int)) (hb62 : b ≤ 62) (hm32 : m ≤ 32) (hlen : x1.length ≤ 1000) :
    spec_CodeOf.l0 (k + 1) x1 x6 (i : Int) name moved bits = if rd x1 ((i + 1 : Nat) : Int) < 0 then some (0, false) else if rd x1 ((i + 1 : Nat) : Int) ≥ 2 ^ b then some (0, false) else
      spec_CodeOf.l0 k x1 (Go.bits .or .u32 x6 (rd x1 ((i + 1 : Nat) : Int) % 4294967296 * 2 ^ m % 4294967296)) ((i + 1 : Nat) : Int) name moved bits := by
  simp only [spec_CodeOf.l0]
  have ew : wrap64 ((i : Int) + 1) = ((i + 1 : Nat) : Int) := by unfold wrap64; omega
  rw [if_pos (by omega), ew, if_pos (by omega), if_pos (by omega)]
  by_cases h0 : rd x1 ((i + 1 : Nat) : Int) < 0
  · rw [if_pos h0, if_pos h0]
  rw [if_neg h0, if_neg h0, if_pos (by omega), hb, if_pos (by omega), shl_one b hb62]
  by_cases h1 : rd x1 ((i + 1 : Nat) : Int) ≥ 2 ^ b
  · rw [if_pos h1, if_pos h1]
  rw [if_neg h1, if_neg h1, if_pos (by omega), hmv, if_pos (by omega), shl_u32 _ _ m rfl hm32]

theorem codeOf_end (k : Nat) (x1 : List Int) (x6 : Int) (i : Nat) (name : ByteArray) (moved bits : List Int) (hi : i = bits.length) : spec_CodeOf.l0 (k + 1) x1 x6 (i : Int) name moved bits = some (x6, true) := by
  simp only [spec_CodeOf.l0]
  rw [if_neg (by omega)]

theorem codeOf_len (k : Nat) (name : ByteArray) (moved bits l1 : List Int) (hb : bits.length ≤ 100) (h : l1.length ≠ bits.length + 1) : spec_CodeOf.f (k + 1) name moved bits l1 = some (0, false) := by
  unfold spec_CodeOf.f
  have ew : wrap64 ((bits.length : Int) + 1) = ((bits.length + 1 : Nat) : Int) := by unfold wrap64; omega
  rw [ew, if_neg (by omega)]
  simp only [spec_CodeOf.j0, if_true]

theorem codeOf_begin (k : Nat) (name : ByteArray) (moved bits : List Int) (a : Int) (l : List Int) (hb : bits.length ≤ 100) (h : (a :: l).length = bits.length + 1) :
    spec_CodeOf.f (k + 1) name moved bits (a :: l) = if a < 0 then some (0, false) else if a > 63 then some (0, false) else spec_CodeOf.l0 k (a :: l) (a % 4294967296 * 67108864 % 4294967296) ((0 : Nat) : Int) name moved bits := by
  unfold spec_CodeOf.f
  have ew : wrap64 ((bits.length : Int) + 1) = ((bits.length + 1 : Nat) : Int) := by unfold wrap64; omega
  have e0 : rd (a :: l) 0 = a := rfl
  have hp : (0 : Int) < ((a :: l).length : Int) := by rw [h]; omega
  rw [ew, if_pos (by omega), if_pos hp, e0]
  by_cases h0 : a < 0
  · rw [if_pos h0, if_pos h0]; simp only [spec_CodeOf.j0, if_true]
  rw [if_neg h0, if_neg h0]
  by_cases h1 : a > 63
  · rw [decide_eq_true h1, if_pos h1]; simp only [spec_CodeOf.j0, if_true]
  rw [decide_eq_false h1, if_neg h1]
  simp only [spec_CodeOf.j0, Bool.false_eq_true, if_false]
  rw [if_pos hp, e0]; rfl

theorem code_OPVXX1 (l1 : List Int) : spec_CodeOf.f 20 (⟨#[79, 80, 86, 88, 88, 49]⟩ : ByteArray) ([1, 11] : List Int) ([10, 11] : List Int) l1 = some (0, false) ∨ ∃ v, spec_CodeOf.f 20 (⟨#[79, 80, 86, 88, 88, 49]⟩ : ByteArray) ([1, 11] : List Int) ([10, 11] : List Int) l1 = some (v, true) ∧ impl_Encode.f 20 (⟨#[79, 80, 86, 88, 88, 49]⟩ : ByteArray) l1 = some (v, true) := by
  by_cases hn : l1.length = 3
  case neg => exact Or.inl (codeOf_len 19 _ _ _ l1 (by simp) (by simpa using hn))
  match l1, hn with
  | [a0, a1, a2], _ =>
    rw [codeOf_begin 19 _ _ _ a0 _ (by simp) (by simp)]
    by_cases h0 : a0 < 0
    · exact Or.inl (by rw [if_pos h0])
    by_cases g0 : a0 > 63
    · exact Or.inl (by rw [if_neg h0, if_pos g0])
    rw [if_neg h0, if_neg g0]
    rw [codeOf_round 18 _ _ 0 _ _ _ 10 1 (by simp) (by simp) (by simp) rfl rfl (by omega) (by omega) (by simp)]
    have r1 : rd [a0, a1, a2] ((0 + 1 : Nat) : Int) = a1 := rfl
    rw [r1]
    by_cases h1 : a1 < 0
    · exact Or.inl (by rw [if_pos h1])
    by_cases g1 : a1 ≥ 2 ^ 10
    · exact Or.inl (by rw [if_neg h1, if_pos g1])
    rw [if_neg h1, if_neg g1]
    rw [codeOf_round 17 _ _ 1 _ _ _ 11 11 (by simp) (by simp) (by simp) rfl rfl (by omega) (by omega) (by simp)]
    have r2 : rd [a0, a1, a2] ((1 + 1 : Nat) : Int) = a2 := rfl
    rw [r2]
    by_cases h2 : a2 < 0
    · exact Or.inl (by rw [if_pos h2])
    by_cases g2 : a2 ≥ 2 ^ 11
    · exact Or.inl (by rw [if_neg h2, if_pos g2])
    rw [if_neg h2, if_neg g2]
    rw [codeOf_end 16 _ _ 2 _ _ _ rfl]
    refine Or.inr ⟨_, rfl, Encode_OPVXX1 (by omega) (by omega) (by omega) (by omega) (by omega) (by omega) ?_ 20 (by omega)⟩
    show some (Go.bits .or .u32 (Go.bits .or .u32 (((a0 % 4294967296) * 67108864) % 4294967296) (((a1 % 4294967296) * 2) % 4294967296)) (((a2 % 4294967296) * 2048) % 4294967296)) = some _
    have m1 : Go.bits .and .u32 (a1 % 4294967296) 1 = a1 % 4294967296 ∨ True := Or.inr trivial
    have m2 : Go.bits .and .u32 (a2 % 4294967296) 1 = a2 % 4294967296 ∨ True := Or.inr trivial
    simp
theorem code_OPVXX2 (l1 : List Int) : spec_CodeOf.f 20 (⟨#[79, 80, 86, 88, 88, 50]⟩ : ByteArray) ([2, 11] : List Int) ([9, 11] : List Int) l1 = some (0, false) ∨ ∃ v, spec_CodeOf.f 20 (⟨#[79, 80, 86, 88, 88, 50]⟩ : ByteArray) ([2, 11] : List Int) ([9, 11] : List Int) l1 = some (v, true) ∧ impl_Encode.f 20 (⟨#[79, 80, 86, 88, 88, 50]⟩ : ByteArray) l1 = some (v, true) := by
  by_cases hn : l1.length = 3
  case neg => exact Or.inl (codeOf_len 19 _ _ _ l1 (by simp) (by simpa using hn))
  match l1, hn with
  | [a0, a1, a2], _ =>
    rw [codeOf_begin 19 _ _ _ a0 _ (by simp) (by simp)]
    by_cases h0 : a0 < 0
    · exact Or.inl (by rw [if_pos h0])
    by_cases g0 : a0 > 63
    · exact Or.inl (by rw [if_neg h0, if_pos g0])
    rw [if_neg h0, if_neg g0]
    rw [codeOf_round 18 _ _ 0 _ _ _ 9 2 (by simp) (by simp) (by simp) rfl rfl (by omega) (by omega) (by simp)]
    have r1 : rd [a0, a1, a2] ((0 + 1 : Nat) : Int) = a1 := rfl
    rw [r1]
    by_cases h1 : a1 < 0
    · exact Or.inl (by rw [if_pos h1])
    by_cases g1 : a1 ≥ 2 ^ 9
    · exact Or.inl (by rw [if_neg h1, if_pos g1])
    rw [if_neg h1, if_neg g1]
    rw [codeOf_round 17 _ _ 1 _ _ _ 11 11 (by simp) (by simp) (by simp) rfl rfl (by omega) (by omega) (by simp)]
    have r2 : rd [a0, a1, a2] ((1 + 1 : Nat) : Int) = a2 := rfl
    rw [r2]
    by_cases h2 : a2 < 0
    · exact Or.inl (by rw [if_pos h2])
    by_cases g2 : a2 ≥ 2 ^ 11
    · exact Or.inl (by rw [if_neg h2, if_pos g2])
    rw [if_neg h2, if_neg g2]
    rw [codeOf_end 16 _ _ 2 _ _ _ rfl]
    refine Or.inr ⟨_, rfl, Encode_OPVXX2 (by omega) (by omega) (by omega) (by omega) (by omega) (by omega) ?_ 20 (by omega)⟩
    show some (Go.bits .or .u32 (Go.bits .or .u32 (((a0 % 4294967296) * 67108864) % 4294967296) (((a1 % 4294967296) * 4) % 4294967296)) (((a2 % 4294967296) * 2048) % 4294967296)) = some _
    have m1 : Go.bits .and .u32 (a1 % 4294967296) 1 = a1 % 4294967296 ∨ True := Or.inr trivial
    have m2 : Go.bits .and .u32 (a2 % 4294967296) 1 = a2 % 4294967296 ∨ True := Or.inr trivial
    simp
theorem code_OPVXX2VA (l1 : List Int) : spec_CodeOf.f 20 (⟨#[79, 80, 86, 88, 88, 50, 86, 65]⟩ : ByteArray) ([2, 16] : List Int) ([9, 5] : List Int) l1 = some (0, false) ∨ ∃ v, spec_CodeOf.f 20 (⟨#[79, 80, 86, 88, 88, 50, 86, 65]⟩ : ByteArray) ([2, 16] : List Int) ([9, 5] : List Int) l1 = some (v, true) ∧ impl_Encode.f 20 (⟨#[79, 80, 86, 88, 88, 50, 86, 65]⟩ : ByteArray) l1 = some (v, true) := by
  by_cases hn : l1.length = 3
  case neg => exact Or.inl (codeOf_len 19 _ _ _ l1 (by simp) (by simpa using hn))
  match l1, hn with
  | [a0, a1, a2], _ =>
    rw [codeOf_begin 19 _ _ _ a0 _ (by simp) (by simp)]
    by_cases h0 : a0 < 0
    · exact Or.inl (by rw [if_pos h0])
    by_cases g0 : a0 > 63
    · exact Or.inl (by rw [if_neg h0, if_pos g0])
    rw [if_neg h0, if_neg g0]
    rw [codeOf_round 18 _ _ 0 _ _ _ 9 2 (by simp) (by simp) (by simp) rfl rfl (by omega) (by omega) (by simp)]
    have r1 : rd [a0, a1, a2] ((0 + 1 : Nat) : Int) = a1 := rfl
    rw [r1]
    by_cases h1 : a1 < 0
    · exact Or.inl (by rw [if_pos h1])
    by_cases g1 : a1 ≥ 2 ^ 9
    · exact Or.inl (by rw [if_neg h1, if_pos g1])
    rw [if_neg h1, if_neg g1]
    rw [codeOf_round 17 _ _ 1 _ _ _ 5 16 (by simp) (by simp) (by simp) rfl rfl (by omega) (by omega) (by simp)]
    have r2 : rd [a0, a1, a2] ((1 + 1 : Nat) : Int) = a2 := rfl
    rw [r2]
    by_cases h2 : a2 < 0
    · exact Or.inl (by rw [if_pos h2])
    by_cases g2 : a2 ≥ 2 ^ 5
    · exact Or.inl (by rw [if_neg h2, if_pos g2])
    rw [if_neg h2, if_neg g2]
    rw [codeOf_end 16 _ _ 2 _ _ _ rfl]
    refine Or.inr ⟨_, rfl, Encode_OPVXX2VA (by omega) (by omega) (by omega) (by omega) (by omega) (by omega) ?_ 20 (by omega)⟩
    show some (Go.bits .or .u32 (Go.bits .or .u32 (((a0 % 4294967296) * 67108864) % 4294967296) (((a1 % 4294967296) * 4) % 4294967296)) (((a2 % 4294967296) * 65536) % 4294967296)) = some _
    have m1 : Go.bits .and .u32 (a1 % 4294967296) 1 = a1 % 4294967296 ∨ True := Or.inr trivial
    have m2 : Go.bits .and .u32 (a2 % 4294967296) 1 = a2 % 4294967296 ∨ True := Or.inr trivial
    simp
theorem code_OPVXX3 (l1 : List Int) : spec_CodeOf.f 20 (⟨#[79, 80, 86, 88, 88, 51]⟩ : ByteArray) ([3, 11] : List Int) ([8, 11] : List Int) l1 = some (0, false) ∨ ∃ v, spec_CodeOf.f 20 (⟨#[79, 80, 86, 88, 88, 51]⟩ : ByteArray) ([3, 11] : List Int) ([8, 11] : List Int) l1 = some (v, true) ∧ impl_Encode.f 20 (⟨#[79, 80, 86, 88, 88, 51]⟩ : ByteArray) l1 = some (v, true) := by
  by_cases hn : l1.length = 3
  case neg => exact Or.inl (codeOf_len 19 _ _ _ l1 (by simp) (by simpa using hn))
  match l1, hn with
  | [a0, a1, a2], _ =>
    rw [codeOf_begin 19 _ _ _ a0 _ (by simp) (by simp)]
    by_cases h0 : a0 < 0
    · exact Or.inl (by rw [if_pos h0])
    by_cases g0 : a0 > 63
    · exact Or.inl (by rw [if_neg h0, if_pos g0])
    rw [if_neg h0, if_neg g0]
    rw [codeOf_round 18 _ _ 0 _ _ _ 8 3 (by simp) (by simp) (by simp) rfl rfl (by omega) (by omega) (by simp)]
    have r1 : rd [a0, a1, a2] ((0 + 1 : Nat) : Int) = a1 := rfl
    rw [r1]
    by_cases h1 : a1 < 0
    · exact Or.inl (by rw [if_pos h1])
    by_cases g1 : a1 ≥ 2 ^ 8
    · exact Or.inl (by rw [if_neg h1, if_pos g1])
    rw [if_neg h1, if_neg g1]
    rw [codeOf_round 17 _ _ 1 _ _ _ 11 11 (by simp) (by simp) (by simp) rfl rfl (by omega) (by omega) (by simp)]
    have r2 : rd [a0, a1, a2] ((1 + 1 : Nat) : Int) = a2 := rfl
    rw [r2]
    by_cases h2 : a2 < 0
    · exact Or.inl (by rw [if_pos h2])
    by_cases g2 : a2 ≥ 2 ^ 11
    · exact Or.inl (by rw [if_neg h2, if_pos g2])
    rw [if_neg h2, if_neg g2]
    rw [codeOf_end 16 _ _ 2 _ _ _ rfl]
    refine Or.inr ⟨_, rfl, Encode_OPVXX3 (by omega) (by omega) (by omega) (by omega) (by omega) (by omega) ?_ 20 (by omega)⟩
    show some (Go.bits .or .u32 (Go.bits .or .u32 (((a0 % 4294967296) * 67108864) % 4294967296) (((a1 % 4294967296) * 8) % 4294967296)) (((a2 % 4294967296) * 2048) % 4294967296)) = some _
    have m1 : Go.bits .and .u32 (a1 % 4294967296) 1 = a1 % 4294967296 ∨ True := Or.inr trivial
    have m2 : Go.bits .and .u32 (a2 % 4294967296) 1 = a2 % 4294967296 ∨ True := Or.inr trivial
    simp
theorem code_OPVXX4 (l1 : List Int) : spec_CodeOf.f 20 (⟨#[79, 80, 86, 88, 88, 52]⟩ : ByteArray) ([4, 11] : List Int) ([2, 11] : List Int) l1 = some (0, false) ∨ ∃ v, spec_CodeOf.f 20 (⟨#[79, 80, 86, 88, 88, 52]⟩ : ByteArray) ([4, 11] : List Int) ([2, 11] : List Int) l1 = some (v, true) ∧ impl_Encode.f 20 (⟨#[79, 80, 86, 88, 88, 52]⟩ : ByteArray) l1 = some (v, true) := by
  by_cases hn : l1.length = 3
  case neg => exact Or.inl (codeOf_len 19 _ _ _ l1 (by simp) (by simpa using hn))
  match l1, hn with
  | [a0, a1, a2], _ =>
    rw [codeOf_begin 19 _ _ _ a0 _ (by simp) (by simp)]
    by_cases h0 : a0 < 0
    · exact Or.inl (by rw [if_pos h0])
    by_cases g0 : a0 > 63
    · exact Or.inl (by rw [if_neg h0, if_pos g0])
    rw [if_neg h0, if_neg g0]
    rw [codeOf_round 18 _ _ 0 _ _ _ 2 4 (by simp) (by simp) (by simp) rfl rfl (by omega) (by omega) (by simp)]
    have r1 : rd [a0, a1, a2] ((0 + 1 : Nat) : Int) = a1 := rfl
    rw [r1]
    by_cases h1 : a1 < 0
    · exact Or.inl (by rw [if_pos h1])
    by_cases g1 : a1 ≥ 2 ^ 2
    · exact Or.inl (by rw [if_neg h1, if_pos g1])
    rw [if_neg h1, if_neg g1]
    rw [codeOf_round 17 _ _ 1 _ _ _ 11 11 (by simp) (by simp) (by simp) rfl rfl (by omega) (by omega) (by simp)]
    have r2 : rd [a0, a1, a2] ((1 + 1 : Nat) : Int) = a2 := rfl
    rw [r2]
    by_cases h2 : a2 < 0
    · exact Or.inl (by rw [if_pos h2])
    by_cases g2 : a2 ≥ 2 ^ 11
    · exact Or.inl (by rw [if_neg h2, if_pos g2])
    rw [if_neg h2, if_neg g2]
    rw [codeOf_end 16 _ _ 2 _ _ _ rfl]
    refine Or.inr ⟨_, rfl, Encode_OPVXX4 (by omega) (by omega) (by omega) (by omega) (by omega) (by omega) ?_ 20 (by omega)⟩
    show some (Go.bits .or .u32 (Go.bits .or .u32 (((a0 % 4294967296) * 67108864) % 4294967296) (((a1 % 4294967296) * 16) % 4294967296)) (((a2 % 4294967296) * 2048) % 4294967296)) = some _
    have m1 : Go.bits .and .u32 (a1 % 4294967296) 1 = a1 % 4294967296 ∨ True := Or.inr trivial
    have m2 : Go.bits .and .u32 (a2 % 4294967296) 1 = a2 % 4294967296 ∨ True := Or.inr trivial
    simp
theorem code_OPDQ (l1 : List Int) : spec_CodeOf.f 20 (⟨#[79, 80, 68, 81]⟩ : ByteArray) ([0, 4] : List Int) ([4, 12] : List Int) l1 = some (0, false) ∨ ∃ v, spec_CodeOf.f 20 (⟨#[79, 80, 68, 81]⟩ : ByteArray) ([0, 4] : List Int) ([4, 12] : List Int) l1 = some (v, true) ∧ impl_Encode.f 20 (⟨#[79, 80, 68, 81]⟩ : ByteArray) l1 = some (v, true) := by
  by_cases hn : l1.length = 3
  case neg => exact Or.inl (codeOf_len 19 _ _ _ l1 (by simp) (by simpa using hn))
  match l1, hn with
  | [a0, a1, a2], _ =>
    rw [codeOf_begin 19 _ _ _ a0 _ (by simp) (by simp)]
    by_cases h0 : a0 < 0
    · exact Or.inl (by rw [if_pos h0])
    by_cases g0 : a0 > 63
    · exact Or.inl (by rw [if_neg h0, if_pos g0])
    rw [if_neg h0, if_neg g0]
    rw [codeOf_round 18 _ _ 0 _ _ _ 4 0 (by simp) (by simp) (by simp) rfl rfl (by omega) (by omega) (by simp)]
    have r1 : rd [a0, a1, a2] ((0 + 1 : Nat) : Int) = a1 := rfl
    rw [r1]
    by_cases h1 : a1 < 0
    · exact Or.inl (by rw [if_pos h1])
    by_cases g1 : a1 ≥ 2 ^ 4
    · exact Or.inl (by rw [if_neg h1, if_pos g1])
    rw [if_neg h1, if_neg g1]
    rw [codeOf_round 17 _ _ 1 _ _ _ 12 4 (by simp) (by simp) (by simp) rfl rfl (by omega) (by omega) (by simp)]
    have r2 : rd [a0, a1, a2] ((1 + 1 : Nat) : Int) = a2 := rfl
    rw [r2]
    by_cases h2 : a2 < 0
    · exact Or.inl (by rw [if_pos h2])
    by_cases g2 : a2 ≥ 2 ^ 12
    · exact Or.inl (by rw [if_neg h2, if_pos g2])
    rw [if_neg h2, if_neg g2]
    rw [codeOf_end 16 _ _ 2 _ _ _ rfl]
    refine Or.inr ⟨_, rfl, Encode_OPDQ (by omega) (by omega) (by omega) (by omega) (by omega) (by omega) ?_ 20 (by omega)⟩
    show some (Go.bits .or .u32 (Go.bits .or .u32 (((a0 % 4294967296) * 67108864) % 4294967296) (a1 % 4294967296)) (((a2 % 4294967296) * 16) % 4294967296)) = some _
    have m1 : Go.bits .and .u32 (a1 % 4294967296) 1 = a1 % 4294967296 ∨ True := Or.inr trivial
    have m2 : Go.bits .and .u32 (a2 % 4294967296) 1 = a2 % 4294967296 ∨ True := Or.inr trivial
    simp
theorem code_OPVX (l1 : List Int) : spec_CodeOf.f 20 (⟨#[79, 80, 86, 88]⟩ : ByteArray) ([0, 11, 0] : List Int) ([11, 11, 1] : List Int) l1 = some (0, false) ∨ ∃ v, spec_CodeOf.f 20 (⟨#[79, 80, 86, 88]⟩ : ByteArray) ([0, 11, 0] : List Int) ([11, 11, 1] : List Int) l1 = some (v, true) ∧ impl_Encode.f 20 (⟨#[79, 80, 86, 88]⟩ : ByteArray) l1 = some (v, true) := by
  by_cases hn : l1.length = 4
  case neg => exact Or.inl (codeOf_len 19 _ _ _ l1 (by simp) (by simpa using hn))
  match l1, hn with
  | [a0, a1, a2, a3], _ =>
    rw [codeOf_begin 19 _ _ _ a0 _ (by simp) (by simp)]
    by_cases h0 : a0 < 0
    · exact Or.inl (by rw [if_pos h0])
    by_cases g0 : a0 > 63
    · exact Or.inl (by rw [if_neg h0, if_pos g0])
    rw [if_neg h0, if_neg g0]
    rw [codeOf_round 18 _ _ 0 _ _ _ 11 0 (by simp) (by simp) (by simp) rfl rfl (by omega) (by omega) (by simp)]
    have r1 : rd [a0, a1, a2, a3] ((0 + 1 : Nat) : Int) = a1 := rfl
    rw [r1]
    by_cases h1 : a1 < 0
    · exact Or.inl (by rw [if_pos h1])
    by_cases g1 : a1 ≥ 2 ^ 11
    · exact Or.inl (by rw [if_neg h1, if_pos g1])
    rw [if_neg h1, if_neg g1]
    rw [codeOf_round 17 _ _ 1 _ _ _ 11 11 (by simp) (by simp) (by simp) rfl rfl (by omega) (by omega) (by simp)]
    have r2 : rd [a0, a1, a2, a3] ((1 + 1 : Nat) : Int) = a2 := rfl
    rw [r2]
    by_cases h2 : a2 < 0
    · exact Or.inl (by rw [if_pos h2])
    by_cases g2 : a2 ≥ 2 ^ 11
    · exact Or.inl (by rw [if_neg h2, if_pos g2])
    rw [if_neg h2, if_neg g2]
    rw [codeOf_round 16 _ _ 2 _ _ _ 1 0 (by simp) (by simp) (by simp) rfl rfl (by omega) (by omega) (by simp)]
    have r3 : rd [a0, a1, a2, a3] ((2 + 1 : Nat) : Int) = a3 := rfl
    rw [r3]
    by_cases h3 : a3 < 0
    · exact Or.inl (by rw [if_pos h3])
    by_cases g3 : a3 ≥ 2 ^ 1
    · exact Or.inl (by rw [if_neg h3, if_pos g3])
    rw [if_neg h3, if_neg g3]
    rw [codeOf_end 15 _ _ 3 _ _ _ rfl]
    refine Or.inr ⟨_, rfl, Encode_OPVX (by omega) (by omega) (by omega) (by omega) (by omega) (by omega) (by omega) (by omega) ?_ 20 (by omega)⟩
    show some (Go.bits .or .u32 (Go.bits .or .u32 (Go.bits .or .u32 (((a0 % 4294967296) * 67108864) % 4294967296) (a1 % 4294967296)) (((a2 % 4294967296) * 2048) % 4294967296)) (Go.bits .and .u32 (a3 % 4294967296) 1)) = some _
    have m1 : Go.bits .and .u32 (a1 % 4294967296) 1 = a1 % 4294967296 ∨ True := Or.inr trivial
    have m2 : Go.bits .and .u32 (a2 % 4294967296) 1 = a2 % 4294967296 ∨ True := Or.inr trivial
    have m3 : Go.bits .and .u32 (a3 % 4294967296) 1 = a3 % 4294967296 := small_and a3 1 1 (by omega) (by omega) (by decide) tb_c1
    rw [m3]
    simp
theorem code_OPVC (l1 : List Int) : spec_CodeOf.f 20 (⟨#[79, 80, 86, 67]⟩ : ByteArray) ([0, 11, 10] : List Int) ([11, 11, 1] : List Int) l1 = some (0, false) ∨ ∃ v, spec_CodeOf.f 20 (⟨#[79, 80, 86, 67]⟩ : ByteArray) ([0, 11, 10] : List Int) ([11, 11, 1] : List Int) l1 = some (v, true) ∧ impl_Encode.f 20 (⟨#[79, 80, 86, 67]⟩ : ByteArray) l1 = some (v, true) := by
  by_cases hn : l1.length = 4
  case neg => exact Or.inl (codeOf_len 19 _ _ _ l1 (by simp) (by simpa using hn))
  match l1, hn with
  | [a0, a1, a2, a3], _ =>
    rw [codeOf_begin 19 _ _ _ a0 _ (by simp) (by simp)]
    by_cases h0 : a0 < 0
    · exact Or.inl (by rw [if_pos h0])
    by_cases g0 : a0 > 63
    · exact Or.inl (by rw [if_neg h0, if_pos g0])
    rw [if_neg h0, if_neg g0]
    rw [codeOf_round 18 _ _ 0 _ _ _ 11 0 (by simp) (by simp) (by simp) rfl rfl (by omega) (by omega) (by simp)]
    have r1 : rd [a0, a1, a2, a3] ((0 + 1 : Nat) : Int) = a1 := rfl
    rw [r1]
    by_cases h1 : a1 < 0
    · exact Or.inl (by rw [if_pos h1])
    by_cases g1 : a1 ≥ 2 ^ 11
    · exact Or.inl (by rw [if_neg h1, if_pos g1])
    rw [if_neg h1, if_neg g1]
    rw [codeOf_round 17 _ _ 1 _ _ _ 11 11 (by simp) (by simp) (by simp) rfl rfl (by omega) (by omega) (by simp)]
    have r2 : rd [a0, a1, a2, a3] ((1 + 1 : Nat) : Int) = a2 := rfl
    rw [r2]
    by_cases h2 : a2 < 0
    · exact Or.inl (by rw [if_pos h2])
    by_cases g2 : a2 ≥ 2 ^ 11
    · exact Or.inl (by rw [if_neg h2, if_pos g2])
    rw [if_neg h2, if_neg g2]
    rw [codeOf_round 16 _ _ 2 _ _ _ 1 10 (by simp) (by simp) (by simp) rfl rfl (by omega) (by omega) (by simp)]
    have r3 : rd [a0, a1, a2, a3] ((2 + 1 : Nat) : Int) = a3 := rfl
    rw [r3]
    by_cases h3 : a3 < 0
    · exact Or.inl (by rw [if_pos h3])
    by_cases g3 : a3 ≥ 2 ^ 1
    · exact Or.inl (by rw [if_neg h3, if_pos g3])
    rw [if_neg h3, if_neg g3]
    rw [codeOf_end 15 _ _ 3 _ _ _ rfl]
    refine Or.inr ⟨_, rfl, Encode_OPVC (by omega) (by omega) (by omega) (by omega) (by omega) (by omega) (by omega) (by omega) ?_ 20 (by omega)⟩
    show some (Go.bits .or .u32 (Go.bits .or .u32 (Go.bits .or .u32 (((a0 % 4294967296) * 67108864) % 4294967296) (a1 % 4294967296)) (((a2 % 4294967296) * 2048) % 4294967296)) (((Go.bits .and .u32 (a3 % 4294967296) 1) * 1024) % 4294967296)) = some _
    have m1 : Go.bits .and .u32 (a1 % 4294967296) 1 = a1 % 4294967296 ∨ True := Or.inr trivial
    have m2 : Go.bits .and .u32 (a2 % 4294967296) 1 = a2 % 4294967296 ∨ True := Or.inr trivial
    have m3 : Go.bits .and .u32 (a3 % 4294967296) 1 = a3 % 4294967296 := small_and a3 1 1 (by omega) (by omega) (by decide) tb_c1
    rw [m3]
    simp
theorem code_OPVCC (l1 : List Int) : spec_CodeOf.f 20 (⟨#[79, 80, 86, 67, 67]⟩ : ByteArray) ([1, 10, 0] : List Int) ([10, 1, 1] : List Int) l1 = some (0, false) ∨ ∃ v, spec_CodeOf.f 20 (⟨#[79, 80, 86, 67, 67]⟩ : ByteArray) ([1, 10, 0] : List Int) ([10, 1, 1] : List Int) l1 = some (v, true) ∧ impl_Encode.f 20 (⟨#[79, 80, 86, 67, 67]⟩ : ByteArray) l1 = some (v, true) := by
  by_cases hn : l1.length = 4
  case neg => exact Or.inl (codeOf_len 19 _ _ _ l1 (by simp) (by simpa using hn))
  match l1, hn with
  | [a0, a1, a2, a3], _ =>
    rw [codeOf_begin 19 _ _ _ a0 _ (by simp) (by simp)]
    by_cases h0 : a0 < 0
    · exact Or.inl (by rw [if_pos h0])
    by_cases g0 : a0 > 63
    · exact Or.inl (by rw [if_neg h0, if_pos g0])
    rw [if_neg h0, if_neg g0]
    rw [codeOf_round 18 _ _ 0 _ _ _ 10 1 (by simp) (by simp) (by simp) rfl rfl (by omega) (by omega) (by simp)]
    have r1 : rd [a0, a1, a2, a3] ((0 + 1 : Nat) : Int) = a1 := rfl
    rw [r1]
    by_cases h1 : a1 < 0
    · exact Or.inl (by rw [if_pos h1])
    by_cases g1 : a1 ≥ 2 ^ 10
    · exact Or.inl (by rw [if_neg h1, if_pos g1])
    rw [if_neg h1, if_neg g1]
    rw [codeOf_round 17 _ _ 1 _ _ _ 1 10 (by simp) (by simp) (by simp) rfl rfl (by omega) (by omega) (by simp)]
    have r2 : rd [a0, a1, a2, a3] ((1 + 1 : Nat) : Int) = a2 := rfl
    rw [r2]
    by_cases h2 : a2 < 0
    · exact Or.inl (by rw [if_pos h2])
    by_cases g2 : a2 ≥ 2 ^ 1
    · exact Or.inl (by rw [if_neg h2, if_pos g2])
    rw [if_neg h2, if_neg g2]
    rw [codeOf_round 16 _ _ 2 _ _ _ 1 0 (by simp) (by simp) (by simp) rfl rfl (by omega) (by omega) (by simp)]
    have r3 : rd [a0, a1, a2, a3] ((2 + 1 : Nat) : Int) = a3 := rfl
    rw [r3]
    by_cases h3 : a3 < 0
    · exact Or.inl (by rw [if_pos h3])
    by_cases g3 : a3 ≥ 2 ^ 1
    · exact Or.inl (by rw [if_neg h3, if_pos g3])
    rw [if_neg h3, if_neg g3]
    rw [codeOf_end 15 _ _ 3 _ _ _ rfl]
    refine Or.inr ⟨_, rfl, Encode_OPVCC (by omega) (by omega) (by omega) (by omega) (by omega) (by omega) (by omega) (by omega) ?_ 20 (by omega)⟩
    show some (Go.bits .or .u32 (Go.bits .or .u32 (Go.bits .or .u32 (((a0 % 4294967296) * 67108864) % 4294967296) (((a1 % 4294967296) * 2) % 4294967296)) (((a2 % 4294967296) * 1024) % 4294967296)) (Go.bits .and .u32 (a3 % 4294967296) 1)) = some _
    have m1 : Go.bits .and .u32 (a1 % 4294967296) 1 = a1 % 4294967296 ∨ True := Or.inr trivial
    have m2 : Go.bits .and .u32 (a2 % 4294967296) 1 = a2 % 4294967296 := small_and a2 1 1 (by omega) (by omega) (by decide) tb_c1
    have m3 : Go.bits .and .u32 (a3 % 4294967296) 1 = a3 % 4294967296 := small_and a3 1 1 (by omega) (by omega) (by decide) tb_c1
    rw [m3]
    simp
theorem code_OPMD (l1 : List Int) : spec_CodeOf.f 20 (⟨#[79, 80, 77, 68]⟩ : ByteArray) ([2, 0] : List Int) ([5, 1] : List Int) l1 = some (0, false) ∨ ∃ v, spec_CodeOf.f 20 (⟨#[79, 80, 77, 68]⟩ : ByteArray) ([2, 0] : List Int) ([5, 1] : List Int) l1 = some (v, true) ∧ impl_Encode.f 20 (⟨#[79, 80, 77, 68]⟩ : ByteArray) l1 = some (v, true) := by
  by_cases hn : l1.length = 3
  case neg => exact Or.inl (codeOf_len 19 _ _ _ l1 (by simp) (by simpa using hn))
  match l1, hn with
  | [a0, a1, a2], _ =>
    rw [codeOf_begin 19 _ _ _ a0 _ (by simp) (by simp)]
    by_cases h0 : a0 < 0
    · exact Or.inl (by rw [if_pos h0])
    by_cases g0 : a0 > 63
    · exact Or.inl (by rw [if_neg h0, if_pos g0])
    rw [if_neg h0, if_neg g0]
    rw [codeOf_round 18 _ _ 0 _ _ _ 5 2 (by simp) (by simp) (by simp) rfl rfl (by omega) (by omega) (by simp)]
    have r1 : rd [a0, a1, a2] ((0 + 1 : Nat) : Int) = a1 := rfl
    rw [r1]
    by_cases h1 : a1 < 0
    · exact Or.inl (by rw [if_pos h1])
    by_cases g1 : a1 ≥ 2 ^ 5
    · exact Or.inl (by rw [if_neg h1, if_pos g1])
    rw [if_neg h1, if_neg g1]
    rw [codeOf_round 17 _ _ 1 _ _ _ 1 0 (by simp) (by simp) (by simp) rfl rfl (by omega) (by omega) (by simp)]
    have r2 : rd [a0, a1, a2] ((1 + 1 : Nat) : Int) = a2 := rfl
    rw [r2]
    by_cases h2 : a2 < 0
    · exact Or.inl (by rw [if_pos h2])
    by_cases g2 : a2 ≥ 2 ^ 1
    · exact Or.inl (by rw [if_neg h2, if_pos g2])
    rw [if_neg h2, if_neg g2]
    rw [codeOf_end 16 _ _ 2 _ _ _ rfl]
    refine Or.inr ⟨_, rfl, Encode_OPMD (by omega) (by omega) (by omega) (by omega) (by omega) (by omega) ?_ 20 (by omega)⟩
    show some (Go.bits .or .u32 (Go.bits .or .u32 (((a0 % 4294967296) * 67108864) % 4294967296) (((a1 % 4294967296) * 4) % 4294967296)) (Go.bits .and .u32 (a2 % 4294967296) 1)) = some _
    have m1 : Go.bits .and .u32 (a1 % 4294967296) 1 = a1 % 4294967296 ∨ True := Or.inr trivial
    have m2 : Go.bits .and .u32 (a2 % 4294967296) 1 = a2 % 4294967296 := small_and a2 1 1 (by omega) (by omega) (by decide) tb_c1
    rw [m2]
    simp

theorem FnCodes : laws_FnCodes.Pure := by
  intro a0 l1 _ _ _ _
  refine ⟨21, ?_⟩
  unfold laws_FnCodes.f
  by_cases c1 : (l1.length : Int) > 2147483647
  · rw [if_pos c1]
  rw [if_neg c1]
  obtain ⟨t, ht⟩ : ∃ t, spec_Codes.f = some t := ⟨_, rfl⟩
  rw [ht, Option.bind_some]
  have hlen : t.length = 10 := by unfold spec_Codes.f at ht; obtain rfl := Option.some.inj ht; rfl
  by_cases c2 : a0 < 0
  · rw [if_pos c2]; simp only [laws_FnCodes.j0, if_true]
  rw [if_neg c2]
  by_cases c3 : a0 ≥ (t.length : Int)
  · rw [if_pos c3]; simp only [laws_FnCodes.j0, if_true]
  rw [if_neg c3]
  by_cases c4 : (l1.length : Int) > 20
  · rw [decide_eq_true c4]; simp only [laws_FnCodes.j0, if_true]
  rw [decide_eq_false c4]
  simp only [laws_FnCodes.j0, Bool.false_eq_true, if_false]
  rw [if_pos (by omega), if_pos (by omega)]
  have done : ∀ (n : ByteArray) (m b : List Int), (spec_CodeOf.f 20 n m b l1 = some (0, false) ∨ ∃ v, spec_CodeOf.f 20 n m b l1 = some (v, true) ∧ impl_Encode.f 20 n l1 = some (v, true)) →
      ((spec_CodeOf.f 20 n m b l1).bind fun bt668 => (if bt668.2 = true then ((impl_Encode.f 20 n l1).bind fun bt671 => (if bt671.2 = true then (some (bt671.1 == bt668.1)) else (some false))) else (some true))) = some true := by
    intro n m b h
    rcases h with h | ⟨v, h, e⟩
    · rw [h, Option.bind_some]; simp
    · rw [h, Option.bind_some, e]; simp
  refine done _ _ _ ?_
  have hz : a0 = 0 ∨ a0 = 1 ∨ a0 = 2 ∨ a0 = 3 ∨ a0 = 4 ∨ a0 = 5 ∨ a0 = 6 ∨ a0 = 7 ∨ a0 = 8 ∨ a0 = 9 := by omega
  unfold spec_Codes.f at ht
  obtain rfl := Option.some.inj ht
  rcases hz with rfl | rfl | rfl | rfl | rfl | rfl | rfl | rfl | rfl | rfl
  · exact code_OPVXX1 l1
  · exact code_OPVXX2 l1
  · exact code_OPVXX2VA l1
  · exact code_OPVXX3 l1
  · exact code_OPVXX4 l1
  · exact code_OPDQ l1
  · exact code_OPVX l1
  · exact code_OPVC l1
  · exact code_OPVCC l1
  · exact code_OPMD l1

end Go.Proofs.Ytnfkdmoblncclaa.Pure
