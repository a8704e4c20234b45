/- What Encode comes to, in plain terms: refused, or the encoder's word. -/
import Derived.Test.YtnfkdmoblncclaaXEncode
namespace Go.Proofs.Ytnfkdmoblncclaa.X
open Go.RowKit Go.Proofs.YtnfkdmoblncclaaW.PrintWords Go.Proofs.YtnfkdmoblncclaaW.PrintLast Go.Proofs.YtnfkdmoblncclaaW.PrintMore

theorem wrap_up {i : Int} {n : Nat} (h0 : 0 ≤ i) (h : i < (n : Int)) (hn : n ≤ 140737488351232) : wrap64 (i + 1) = i + 1 := by
  unfold wrap64
  omega

/-- All fields fit: the loop comes to the encoder. -/
theorem loop_ok (a0 : ByteArray) (l1 t : List Int) (v : Int) (hn : l1.length ≤ 140737488351232) (hl : l1.length = t.length) (he : impl_encoded.f a0 l1 = some v) (d : Nat) :
    ∀ (k : Nat) (i : Nat), i ≤ l1.length → l1.length - i = d → d < k → (∀ j : Nat, i ≤ j → j < l1.length → impl_within.f (rd l1 j) (rd t j) = some true) →
    impl_Encode.l0 k a0 l1 t l1 (l1.length : Int) (i : Int) = some (v, true) := by
  induction d with
  | zero =>
    intro k i hi hd hk _
    obtain ⟨k, rfl⟩ : ∃ m, k = m + 1 := ⟨k - 1, by omega⟩
    simp only [impl_Encode.l0]
    rw [if_neg (by omega), he]; rfl
  | succ d ih =>
    intro k i hi hd hk hw
    obtain ⟨k, rfl⟩ : ∃ m, k = m + 1 := ⟨k - 1, by omega⟩
    have hlt : (i : Int) < (l1.length : Int) := by omega
    simp only [impl_Encode.l0]
    rw [if_pos hlt, if_pos (by omega), if_pos hlt, if_pos (by omega), hw i (Nat.le_refl _) (by omega)]
    simp only [Option.bind_some, if_true]
    rw [wrap_up (by omega) hlt hn]
    exact ih k (i + 1) (by omega) (by omega) (by omega) (fun j h1 h2 => hw j (by omega) h2)

/-- Some field does not fit: refused. -/
theorem loop_no (a0 : ByteArray) (l1 t : List Int) (hn : l1.length ≤ 140737488351232) (hl : l1.length = t.length) (d : Nat) :
    ∀ (k : Nat) (i : Nat), i ≤ l1.length → l1.length - i = d → d < k → (∀ j : Nat, i ≤ j → j < l1.length → ∃ b, impl_within.f (rd l1 j) (rd t j) = some b) →
    (∃ j : Nat, i ≤ j ∧ j < l1.length ∧ impl_within.f (rd l1 j) (rd t j) = some false) →
    impl_Encode.l0 k a0 l1 t l1 (l1.length : Int) (i : Int) = some (0, false) := by
  induction d with
  | zero =>
    intro k i hi hd hk _ ⟨j, h1, h2, _⟩
    omega
  | succ d ih =>
    intro k i hi hd hk hw hex
    obtain ⟨k, rfl⟩ : ∃ m, k = m + 1 := ⟨k - 1, by omega⟩
    have hlt : (i : Int) < (l1.length : Int) := by omega
    obtain ⟨b, hb⟩ := hw i (Nat.le_refl _) (by omega)
    simp only [impl_Encode.l0]
    rw [if_pos hlt, if_pos (by omega), if_pos hlt, if_pos (by omega), hb]
    simp only [Option.bind_some]
    cases b with
    | false => simp
    | true =>
      simp only [if_true]
      rw [wrap_up (by omega) hlt hn]
      refine ih k (i + 1) (by omega) (by omega) (by omega) (fun j h1 h2 => hw j (by omega) h2) ?_
      obtain ⟨j, h1, h2, h3⟩ := hex
      refine ⟨j, ?_, h2, h3⟩
      rcases Nat.lt_or_ge i j with h | h
      · exact h
      · have : j = i := by omega
        subst this
        rw [hb] at h3; cases h3

theorem enc_ok {a0 : ByteArray} {l1 t : List Int} {v : Int} (hb : impl_bounds.f a0 = some t) (ht : t ≠ []) (hn : l1.length ≤ 140737488351232) (hl : l1.length = t.length)
    (hw : ∀ j : Nat, j < l1.length → impl_within.f (rd l1 j) (rd t j) = some true) (he : impl_encoded.f a0 l1 = some v) :
    ∀ k, l1.length + 2 ≤ k → impl_Encode.f k a0 l1 = some (v, true) := by
  intro k hk
  obtain ⟨k, rfl⟩ : ∃ m, k = m + 1 := ⟨k - 1, by omega⟩
  unfold impl_Encode.f
  rw [hb]
  simp only [Option.bind_some]
  rw [if_neg (by intro h; exact ht (List.length_eq_zero_iff.mp h))]
  have hd : ((l1.length : Int) != (t.length : Int)) = false := by rw [hl]; simp
  rw [hd]
  simp only [impl_Encode.j0, Bool.false_eq_true, if_false]
  exact loop_ok a0 l1 t v hn hl he l1.length k 0 (by omega) (by omega) (by omega) (fun j _ h => hw j h)

theorem enc_no {a0 : ByteArray} {l1 t : List Int} (hb : impl_bounds.f a0 = some t) (ht : t ≠ []) (hn : l1.length ≤ 140737488351232) (hl : l1.length = t.length)
    (hw : ∀ j : Nat, j < l1.length → ∃ b, impl_within.f (rd l1 j) (rd t j) = some b) (hex : ∃ j : Nat, j < l1.length ∧ impl_within.f (rd l1 j) (rd t j) = some false) :
    ∀ k, l1.length + 2 ≤ k → impl_Encode.f k a0 l1 = some (0, false) := by
  intro k hk
  obtain ⟨k, rfl⟩ : ∃ m, k = m + 1 := ⟨k - 1, by omega⟩
  unfold impl_Encode.f
  rw [hb]
  simp only [Option.bind_some]
  rw [if_neg (by intro h; exact ht (List.length_eq_zero_iff.mp h))]
  have hd : ((l1.length : Int) != (t.length : Int)) = false := by rw [hl]; simp
  rw [hd]
  simp only [impl_Encode.j0, Bool.false_eq_true, if_false]
  obtain ⟨j, h2, h3⟩ := hex
  exact loop_no a0 l1 t hn hl l1.length k 0 (by omega) (by omega) (by omega) (fun j _ h => hw j h) ⟨j, Nat.zero_le _, h2, h3⟩

/-- Too few or too many fields, or a name that is no form's: refused. -/
theorem enc_len {a0 : ByteArray} {l1 t : List Int} (hb : impl_bounds.f a0 = some t) (hl : t = [] ∨ l1.length ≠ t.length) :
    ∀ k, 1 ≤ k → impl_Encode.f k a0 l1 = some (0, false) := by
  intro k hk
  obtain ⟨k, rfl⟩ : ∃ m, k = m + 1 := ⟨k - 1, by omega⟩
  unfold impl_Encode.f
  rw [hb]
  simp only [Option.bind_some]
  by_cases h0 : t.length = 0
  · rw [if_pos h0]; simp [impl_Encode.j0]
  · rw [if_neg h0]
    have hne : l1.length ≠ t.length := by
      rcases hl with h | h
      · subst h; exact absurd rfl h0
      · exact h
    have hd : ((l1.length : Int) != (t.length : Int)) = true := by
      rw [bne_iff_ne]; omega
    rw [hd]; simp [impl_Encode.j0]

end Go.Proofs.Ytnfkdmoblncclaa.X
