/- The reference's word, in plain terms: there is none where a field does not fit. -/
import Derived.Test.YtnfkdmoblncclaaXWord
import Derived.Test.YtnfkdmoblncclaaXPutTab
namespace Go.Proofs.Ytnfkdmoblncclaa.X
open Go.RowKit Go.Proofs.YtnfkdmoblncclaaW.PrintWords Go.Proofs.YtnfkdmoblncclaaW.PrintLast Go.Proofs.YtnfkdmoblncclaaW.PrintMore
attribute [local go_sem] max2_int min2_int max_two min_two max_three min_three max_four min_four   -- for this text's walks alone
set_option linter.unusedVariables false
set_option linter.unusedSimpArgs false

theorem shl_one (b : Nat) (hb : b ≤ 62) : shl .i64 1 (b : Int) = 2 ^ b := by
  unfold shl
  have e : min ((b : Int)).toNat (IntKind.i64).bits = b := by
    have : (IntKind.i64).bits = 64 := rfl
    rw [this]; simp; omega
  rw [e, Int.one_mul, IntKind.wrap_i64]
  have h1 : (2 : Nat) ^ b ≤ 2 ^ 62 := Nat.pow_le_pow_right (by decide) hb
  have h2 : ((2 ^ b : Nat) : Int) ≤ ((2 ^ 62 : Nat) : Int) := Int.ofNat_le.mpr h1
  have h3 : (0 : Int) ≤ ((2 ^ b : Nat) : Int) := Int.natCast_nonneg _
  have h4 : ((2 ^ b : Nat) : Int) = 2 ^ b := by simp
  have h5 : ((2 ^ 62 : Nat) : Int) = 4611686018427387904 := by decide +kernel
  omega

/-- One round of the reference's loop over the fields. -/
theorem word_round (k : Nat) (x1 : Int) (x2 : List Int) (i : Nat) (name letters : ByteArray) (s : Nat) (hi : i < x2.length) (hl : i < letters.size) (hs : spec_Size.f k (bt letters (i : Int)) = some (s : Int)) (hs62 : s ≤ 62) (hlen : x2.length ≤ 1000) :
    spec_Word.l0 (k + 1) x1 x2 (i : Int) name letters = if rd x2 (i : Int) < 0 then some (0, false) else if rd x2 (i : Int) ≥ 2 ^ s then some (0, false) else
      (spec_Put.f k (rd x2 (i : Int)) (bt letters (i : Int))).bind fun t => spec_Word.l0 k (Go.bits .or .u32 x1 t) x2 ((i + 1 : Nat) : Int) name letters := by
  simp only [spec_Word.l0]
  have ew : wrap64 ((i : Int) + 1) = ((i + 1 : Nat) : Int) := by unfold wrap64; omega
  rw [if_pos (by omega), if_pos (by omega)]
  by_cases h0 : rd x2 (i : Int) < 0
  · rw [if_pos h0, if_pos h0]
  rw [if_neg h0, if_neg h0, if_pos (by omega), hs, Option.bind_some, if_pos (by omega), shl_one s hs62]
  by_cases h1 : rd x2 (i : Int) ≥ 2 ^ s
  · rw [if_pos h1, if_pos h1]
  rw [if_neg h1, if_neg h1, ew]

theorem word_end (k : Nat) (x1 : Int) (x2 : List Int) (i : Nat) (name letters : ByteArray) (hi : i = x2.length) : spec_Word.l0 (k + 1) x1 x2 (i : Int) name letters = some (x1, true) := by
  simp only [spec_Word.l0]
  rw [if_neg (by omega)]

theorem word_len (k : Nat) (code : Int) (name letters : ByteArray) (x2 : List Int) (h : x2.length ≠ letters.size) : spec_Word.f k name letters code x2 = some (0, false) := by
  unfold spec_Word.f
  rw [if_neg (by omega)]

/-- What is known of letters: each one's size, and that a number which fits has a place. -/
structure Known (letters : ByteArray) (sz : Nat → Nat) : Prop where
  size : ∀ i, i < letters.size → ∀ k, 12 ≤ k → spec_Size.f k (bt letters (i : Int)) = some (sz i : Int)
  few : ∀ i, i < letters.size → sz i ≤ 62
  put : ∀ i, i < letters.size → ∀ k, 12 ≤ k → ∀ v : Int, 0 ≤ v → v < 2 ^ sz i → ∃ t, spec_Put.f k v (bt letters (i : Int)) = some t

/-- Some field does not fit: there is no word. -/
theorem word_no (name letters : ByteArray) (f : List Int) (sz : Nat → Nat) (K : Known letters sz) (hl : f.length = letters.size) (hlen : f.length ≤ 1000) (d : Nat) :
    ∀ (k : Nat) (code : Int) (i : Nat), i ≤ f.length → f.length - i = d → d + 13 ≤ k → (∃ j : Nat, i ≤ j ∧ j < f.length ∧ ¬ (0 ≤ rd f (j : Int) ∧ rd f (j : Int) < 2 ^ sz j)) →
    spec_Word.l0 k code f (i : Int) name letters = some (0, false) := by
  induction d with
  | zero =>
    intro k code i hi hd hk ⟨j, h1, h2, _⟩
    omega
  | succ d ih =>
    intro k code i hi hd hk hex
    obtain ⟨k, rfl⟩ : ∃ m, k = m + 1 := ⟨k - 1, by omega⟩
    rw [word_round k code f i name letters (sz i) (by omega) (by omega) (K.size i (by omega) k (by omega)) (K.few i (by omega)) hlen]
    by_cases h0 : rd f (i : Int) < 0
    · rw [if_pos h0]
    rw [if_neg h0]
    by_cases h1 : rd f (i : Int) ≥ 2 ^ sz i
    · rw [if_pos h1]
    rw [if_neg h1]
    obtain ⟨t, ht⟩ := K.put i (by omega) k (by omega) (rd f (i : Int)) (by omega) (by omega)
    rw [ht, Option.bind_some]
    refine ih k _ (i + 1) (by omega) (by omega) (by omega) ?_
    obtain ⟨j, h2, h3, h4⟩ := hex
    refine ⟨j, ?_, h3, h4⟩
    rcases Nat.lt_or_ge i j with h | h
    · exact h
    · have : j = i := by omega
      subst this
      exact absurd ⟨by omega, by omega⟩ h4

theorem word_no' (name letters : ByteArray) (f : List Int) (sz : Nat → Nat) (K : Known letters sz) (hl : f.length = letters.size) (hlen : f.length ≤ 1000) (k : Nat) (code : Int) (hk : f.length + 13 ≤ k)
    (hex : ∃ j : Nat, j < f.length ∧ ¬ (0 ≤ rd f (j : Int) ∧ rd f (j : Int) < 2 ^ sz j)) : spec_Word.f k name letters code f = some (0, false) := by
  unfold spec_Word.f
  rw [if_pos (by omega)]
  obtain ⟨j, h1, h2⟩ := hex
  exact word_no name letters f sz K hl hlen f.length k code 0 (by omega) (by omega) hk ⟨j, by omega, h1, h2⟩

end Go.Proofs.Ytnfkdmoblncclaa.X
