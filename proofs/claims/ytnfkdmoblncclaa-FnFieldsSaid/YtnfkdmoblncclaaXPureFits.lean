/- The law's own test of fields, in plain terms. -/
import Derived.Test.YtnfkdmoblncclaaXFits
import Derived.Test.YtnfkdmoblncclaaXPureWord
namespace Go.Proofs.Ytnfkdmoblncclaa.X
open Go.RowKit Go.Proofs.YtnfkdmoblncclaaW.PrintWords Go.Proofs.YtnfkdmoblncclaaW.PrintLast Go.Proofs.YtnfkdmoblncclaaW.PrintMore
attribute [local go_sem] max2_int min2_int max_two min_two max_three min_three max_four min_four   -- for this text's walks alone
set_option linter.unusedVariables false
set_option linter.unusedSimpArgs false

/-- The letters whose fields the law asks of at any width. -/
def wide (c : Int) : Prop := c = 84 ∨ c = 65 ∨ c = 66 ∨ c = 105 ∨ c = 106 ∨ c = 107 ∨ c = 113

theorem fits_round (k : Nat) (letters : ByteArray) (f : List Int) (i : Nat) (s : Nat) (hi : i < f.length) (hl : i < letters.size) (hs : spec_Size.f k (bt letters (i : Int)) = some (s : Int)) (hs62 : s ≤ 62) (hlen : f.length ≤ 1000) :
    laws_fits.l0 (k + 1) letters f (i : Int) = some true ∨ (laws_fits.l0 (k + 1) letters f (i : Int) = laws_fits.l0 k letters f ((i + 1 : Nat) : Int) ∧ 0 ≤ rd f (i : Int) ∧ (rd f (i : Int) < 2 ^ s ∨ wide (bt letters (i : Int)))) := by
  simp only [laws_fits.l0]
  have ew : wrap64 ((i : Int) + 1) = ((i + 1 : Nat) : Int) := by unfold wrap64; omega
  rw [if_pos (by omega), if_pos (by omega)]
  by_cases h0 : rd f (i : Int) < 0
  · rw [if_pos h0]; exact Or.inl rfl
  rw [if_neg h0, if_pos (by omega), hs, Option.bind_some, if_pos (by omega), shl_one s hs62, ew]
  by_cases h1 : rd f (i : Int) ≥ 2 ^ s
  · rw [if_pos h1]
    by_cases a1 : bt letters (i : Int) = 84
    · rw [if_pos a1]; exact Or.inr ⟨rfl, by omega, Or.inr (Or.inl a1)⟩
    rw [if_neg a1]
    by_cases a2 : bt letters (i : Int) = 65
    · rw [if_pos a2]; exact Or.inr ⟨rfl, by omega, Or.inr (Or.inr (Or.inl a2))⟩
    rw [if_neg a2]
    by_cases a3 : bt letters (i : Int) = 66
    · rw [if_pos a3]; exact Or.inr ⟨rfl, by omega, Or.inr (Or.inr (Or.inr (Or.inl a3)))⟩
    rw [if_neg a3]
    by_cases a4 : bt letters (i : Int) = 105
    · rw [if_pos a4]; exact Or.inr ⟨rfl, by omega, Or.inr (Or.inr (Or.inr (Or.inr (Or.inl a4))))⟩
    rw [if_neg a4]
    by_cases a5 : bt letters (i : Int) = 106
    · rw [if_pos a5]; exact Or.inr ⟨rfl, by omega, Or.inr (Or.inr (Or.inr (Or.inr (Or.inr (Or.inl a5)))))⟩
    rw [if_neg a5]
    by_cases a6 : bt letters (i : Int) = 107
    · rw [if_pos a6]; exact Or.inr ⟨rfl, by omega, Or.inr (Or.inr (Or.inr (Or.inr (Or.inr (Or.inr (Or.inl a6))))))⟩
    rw [if_neg a6]
    by_cases a7 : bt letters (i : Int) = 113
    · rw [if_pos a7]; exact Or.inr ⟨rfl, by omega, Or.inr (Or.inr (Or.inr (Or.inr (Or.inr (Or.inr (Or.inr a7))))))⟩
    rw [if_neg a7]; exact Or.inl rfl
  · rw [if_neg h1]; exact Or.inr ⟨rfl, by omega, Or.inl (by omega)⟩

theorem fits_loop (letters : ByteArray) (f : List Int) (sz : Nat → Nat) (K : Known letters sz) (hl : f.length = letters.size) (hlen : f.length ≤ 1000) (d : Nat) :
    ∀ (k : Nat) (i : Nat), i ≤ f.length → f.length - i = d → d + 13 ≤ k →
    laws_fits.l0 k letters f (i : Int) = some true ∨ (laws_fits.l0 k letters f (i : Int) = some false ∧ ∀ j : Nat, i ≤ j → j < f.length → 0 ≤ rd f (j : Int) ∧ (rd f (j : Int) < 2 ^ sz j ∨ wide (bt letters (j : Int)))) := by
  induction d with
  | zero =>
    intro k i hi hd hk
    obtain ⟨k, rfl⟩ : ∃ m, k = m + 1 := ⟨k - 1, by omega⟩
    refine Or.inr ⟨?_, fun j h1 h2 => by omega⟩
    simp only [laws_fits.l0]
    rw [if_neg (by omega)]
  | succ d ih =>
    intro k i hi hd hk
    obtain ⟨k, rfl⟩ : ∃ m, k = m + 1 := ⟨k - 1, by omega⟩
    rcases fits_round k letters f i (sz i) (by omega) (by omega) (K.size i (by omega) k (by omega)) (K.few i (by omega)) hlen with h | ⟨h, h0, h1⟩
    · exact Or.inl h
    · rw [h]
      rcases ih k (i + 1) (by omega) (by omega) (by omega) with g | ⟨g, hall⟩
      · exact Or.inl g
      · refine Or.inr ⟨g, fun j h2 h3 => ?_⟩
        rcases Nat.lt_or_ge i j with h | h
        · exact hall j h h3
        · have : j = i := by omega
          subst this
          exact ⟨h0, h1⟩

theorem fits_cases (letters : ByteArray) (f : List Int) (sz : Nat → Nat) (K : Known letters sz) (hl : f.length = letters.size) (hlen : f.length ≤ 1000) (k : Nat) (hk : f.length + 13 ≤ k) :
    laws_fits.f k letters f = some true ∨ (laws_fits.f k letters f = some false ∧ ∀ j : Nat, j < f.length → 0 ≤ rd f (j : Int) ∧ (rd f (j : Int) < 2 ^ sz j ∨ wide (bt letters (j : Int)))) := by
  unfold laws_fits.f
  rw [if_pos (by omega)]
  rcases fits_loop letters f sz K hl hlen f.length k 0 (by omega) (by omega) hk with h | ⟨h, h1⟩
  · exact Or.inl h
  · exact Or.inr ⟨h, fun j hj => h1 j (by omega) hj⟩

theorem fits_len (letters : ByteArray) (f : List Int) (k : Nat) (h : f.length ≠ letters.size) : laws_fits.f k letters f = some false := by
  unfold laws_fits.f
  rw [if_neg (by omega)]

end Go.Proofs.Ytnfkdmoblncclaa.X
