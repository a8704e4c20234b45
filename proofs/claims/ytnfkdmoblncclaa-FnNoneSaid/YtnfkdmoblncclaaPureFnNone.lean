/- A name that is no encoder's, or too many fields, are refused: the law answers true at every input. -/
import Derived.Test.YtnfkdmoblncclaaXTab
import Derived.Test.YtnfkdmoblncclaaXFnNone
import Derived.OpenShut
import Derived.WideShapes
import Derived.Laws.Strings
namespace Go.Proofs.Ytnfkdmoblncclaa.Pure
open Go.RowKit Go.Proofs.Ytnfkdmoblncclaa.X Go.Proofs.YtnfkdmoblncclaaW.PrintWords Go.Proofs.YtnfkdmoblncclaaW.PrintLast Go.Proofs.YtnfkdmoblncclaaW.PrintMore

theorem name_of {a0 : ByteArray} {l : List UInt8} (h : a0.toList = l) : a0 = ⟨⟨l⟩⟩ := by
  apply Go.WideShapes.bytes_inj
  rw [← ByteArray.toList_eq, h]

/-- What the law asks of a name that might be an encoder's. -/
def cond (a0 : ByteArray) : Prop := ((a0.size : Int) ≥ 3 ∧ bt a0 1 = 79) ∨ ((a0.size : Int) ≥ 2 ∧ (a0.extract 0 2).toList = ([79, 80] : List UInt8))

set_option maxRecDepth 100000 in
theorem bounds_cases (a0 : ByteArray) : (∃ t, impl_bounds.f a0 = some t ∧ t ≠ [] ∧ t.length ≤ 6 ∧ cond a0) ∨ impl_bounds.f a0 = some [] := by
  unfold impl_bounds.f
  by_cases c0 : a0.toList = ([79, 80, 86, 88, 88, 49] : List UInt8)
  · refine Or.inl ⟨_, by rw [if_pos c0], by simp, by simp, ?_⟩; obtain rfl := name_of c0; exact Or.inr ⟨by decide +kernel, by rw [ByteArray.toList_eq]; decide +kernel⟩
  rw [if_neg c0]
  by_cases c1 : a0.toList = ([79, 80, 86, 88, 88, 50] : List UInt8)
  · refine Or.inl ⟨_, by rw [if_pos c1], by simp, by simp, ?_⟩; obtain rfl := name_of c1; exact Or.inr ⟨by decide +kernel, by rw [ByteArray.toList_eq]; decide +kernel⟩
  rw [if_neg c1]
  by_cases c2 : a0.toList = ([79, 80, 86, 88, 88, 50, 86, 65] : List UInt8)
  · refine Or.inl ⟨_, by rw [if_pos c2], by simp, by simp, ?_⟩; obtain rfl := name_of c2; exact Or.inr ⟨by decide +kernel, by rw [ByteArray.toList_eq]; decide +kernel⟩
  rw [if_neg c2]
  by_cases c3 : a0.toList = ([79, 80, 86, 88, 88, 51] : List UInt8)
  · refine Or.inl ⟨_, by rw [if_pos c3], by simp, by simp, ?_⟩; obtain rfl := name_of c3; exact Or.inr ⟨by decide +kernel, by rw [ByteArray.toList_eq]; decide +kernel⟩
  rw [if_neg c3]
  by_cases c4 : a0.toList = ([79, 80, 86, 88, 88, 52] : List UInt8)
  · refine Or.inl ⟨_, by rw [if_pos c4], by simp, by simp, ?_⟩; obtain rfl := name_of c4; exact Or.inr ⟨by decide +kernel, by rw [ByteArray.toList_eq]; decide +kernel⟩
  rw [if_neg c4]
  by_cases c5 : a0.toList = ([79, 80, 68, 81] : List UInt8)
  · refine Or.inl ⟨_, by rw [if_pos c5], by simp, by simp, ?_⟩; obtain rfl := name_of c5; exact Or.inr ⟨by decide +kernel, by rw [ByteArray.toList_eq]; decide +kernel⟩
  rw [if_neg c5]
  by_cases c6 : a0.toList = ([79, 80, 86, 88] : List UInt8)
  · refine Or.inl ⟨_, by rw [if_pos c6], by simp, by simp, ?_⟩; obtain rfl := name_of c6; exact Or.inr ⟨by decide +kernel, by rw [ByteArray.toList_eq]; decide +kernel⟩
  rw [if_neg c6]
  by_cases c7 : a0.toList = ([79, 80, 86, 67] : List UInt8)
  · refine Or.inl ⟨_, by rw [if_pos c7], by simp, by simp, ?_⟩; obtain rfl := name_of c7; exact Or.inr ⟨by decide +kernel, by rw [ByteArray.toList_eq]; decide +kernel⟩
  rw [if_neg c7]
  by_cases c8 : a0.toList = ([79, 80, 86, 67, 67] : List UInt8)
  · refine Or.inl ⟨_, by rw [if_pos c8], by simp, by simp, ?_⟩; obtain rfl := name_of c8; exact Or.inr ⟨by decide +kernel, by rw [ByteArray.toList_eq]; decide +kernel⟩
  rw [if_neg c8]
  by_cases c9 : a0.toList = ([79, 80, 77, 68] : List UInt8)
  · refine Or.inl ⟨_, by rw [if_pos c9], by simp, by simp, ?_⟩; obtain rfl := name_of c9; exact Or.inr ⟨by decide +kernel, by rw [ByteArray.toList_eq]; decide +kernel⟩
  rw [if_neg c9]
  by_cases c10 : a0.toList = ([65, 79, 80, 95, 82, 82, 82] : List UInt8)
  · refine Or.inl ⟨_, by rw [if_pos c10], by simp, by simp, ?_⟩; obtain rfl := name_of c10; exact Or.inl ⟨by decide +kernel, by decide +kernel⟩
  rw [if_neg c10]
  by_cases c11 : a0.toList = ([65, 79, 80, 95, 82, 82] : List UInt8)
  · refine Or.inl ⟨_, by rw [if_pos c11], by simp, by simp, ?_⟩; obtain rfl := name_of c11; exact Or.inl ⟨by decide +kernel, by decide +kernel⟩
  rw [if_neg c11]
  by_cases c12 : a0.toList = ([65, 79, 80, 95, 82, 82, 82, 82] : List UInt8)
  · refine Or.inl ⟨_, by rw [if_pos c12], by simp, by simp, ?_⟩; obtain rfl := name_of c12; exact Or.inl ⟨by decide +kernel, by decide +kernel⟩
  rw [if_neg c12]
  by_cases c13 : a0.toList = ([65, 79, 80, 95, 73, 82, 82] : List UInt8)
  · refine Or.inl ⟨_, by rw [if_pos c13], by simp, by simp, ?_⟩; obtain rfl := name_of c13; exact Or.inl ⟨by decide +kernel, by decide +kernel⟩
  rw [if_neg c13]
  by_cases c14 : a0.toList = ([65, 79, 80, 95, 86, 73, 82, 82] : List UInt8)
  · refine Or.inl ⟨_, by rw [if_pos c14], by simp, by simp, ?_⟩; obtain rfl := name_of c14; exact Or.inl ⟨by decide +kernel, by decide +kernel⟩
  rw [if_neg c14]
  by_cases c15 : a0.toList = ([65, 79, 80, 95, 73, 73, 82, 82] : List UInt8)
  · refine Or.inl ⟨_, by rw [if_pos c15], by simp, by simp, ?_⟩; obtain rfl := name_of c15; exact Or.inl ⟨by decide +kernel, by decide +kernel⟩
  rw [if_neg c15]
  by_cases c16 : a0.toList = ([65, 79, 80, 95, 73, 82, 82, 82] : List UInt8)
  · refine Or.inl ⟨_, by rw [if_pos c16], by simp, by simp, ?_⟩; obtain rfl := name_of c16; exact Or.inl ⟨by decide +kernel, by decide +kernel⟩
  rw [if_neg c16]
  by_cases c17 : a0.toList = ([65, 79, 80, 95, 73, 82] : List UInt8)
  · refine Or.inl ⟨_, by rw [if_pos c17], by simp, by simp, ?_⟩; obtain rfl := name_of c17; exact Or.inl ⟨by decide +kernel, by decide +kernel⟩
  rw [if_neg c17]
  by_cases c18 : a0.toList = ([65, 79, 80, 95, 88, 88, 49] : List UInt8)
  · refine Or.inl ⟨_, by rw [if_pos c18], by simp, by simp, ?_⟩; obtain rfl := name_of c18; exact Or.inl ⟨by decide +kernel, by decide +kernel⟩
  rw [if_neg c18]
  by_cases c19 : a0.toList = ([65, 79, 80, 95, 88, 88, 50] : List UInt8)
  · refine Or.inl ⟨_, by rw [if_pos c19], by simp, by simp, ?_⟩; obtain rfl := name_of c19; exact Or.inl ⟨by decide +kernel, by decide +kernel⟩
  rw [if_neg c19]
  by_cases c20 : a0.toList = ([65, 79, 80, 95, 88, 88, 51] : List UInt8)
  · refine Or.inl ⟨_, by rw [if_pos c20], by simp, by simp, ?_⟩; obtain rfl := name_of c20; exact Or.inl ⟨by decide +kernel, by decide +kernel⟩
  rw [if_neg c20]
  by_cases c21 : a0.toList = ([65, 79, 80, 95, 88, 88, 51, 73] : List UInt8)
  · refine Or.inl ⟨_, by rw [if_pos c21], by simp, by simp, ?_⟩; obtain rfl := name_of c21; exact Or.inl ⟨by decide +kernel, by decide +kernel⟩
  rw [if_neg c21]
  by_cases c22 : a0.toList = ([65, 79, 80, 95, 88, 88, 52] : List UInt8)
  · refine Or.inl ⟨_, by rw [if_pos c22], by simp, by simp, ?_⟩; obtain rfl := name_of c22; exact Or.inl ⟨by decide +kernel, by decide +kernel⟩
  rw [if_neg c22]
  by_cases c23 : a0.toList = ([65, 79, 80, 95, 68, 81] : List UInt8)
  · refine Or.inl ⟨_, by rw [if_pos c23], by simp, by simp, ?_⟩; obtain rfl := name_of c23; exact Or.inl ⟨by decide +kernel, by decide +kernel⟩
  rw [if_neg c23]
  by_cases c24 : a0.toList = ([65, 79, 80, 95, 90, 50, 51, 73] : List UInt8)
  · refine Or.inl ⟨_, by rw [if_pos c24], by simp, by simp, ?_⟩; obtain rfl := name_of c24; exact Or.inl ⟨by decide +kernel, by decide +kernel⟩
  rw [if_neg c24]
  by_cases c25 : a0.toList = ([65, 79, 80, 95, 82, 82, 82, 73] : List UInt8)
  · refine Or.inl ⟨_, by rw [if_pos c25], by simp, by simp, ?_⟩; obtain rfl := name_of c25; exact Or.inl ⟨by decide +kernel, by decide +kernel⟩
  rw [if_neg c25]
  by_cases c26 : a0.toList = ([76, 79, 80, 95, 82, 82, 82] : List UInt8)
  · refine Or.inl ⟨_, by rw [if_pos c26], by simp, by simp, ?_⟩; obtain rfl := name_of c26; exact Or.inl ⟨by decide +kernel, by decide +kernel⟩
  rw [if_neg c26]
  by_cases c27 : a0.toList = ([76, 79, 80, 95, 73, 82, 82] : List UInt8)
  · refine Or.inl ⟨_, by rw [if_pos c27], by simp, by simp, ?_⟩; obtain rfl := name_of c27; exact Or.inl ⟨by decide +kernel, by decide +kernel⟩
  rw [if_neg c27]
  by_cases c28 : a0.toList = ([79, 80, 95, 66, 82] : List UInt8)
  · refine Or.inl ⟨_, by rw [if_pos c28], by simp, by simp, ?_⟩; obtain rfl := name_of c28; exact Or.inr ⟨by decide +kernel, by rw [ByteArray.toList_eq]; decide +kernel⟩
  rw [if_neg c28]
  by_cases c29 : a0.toList = ([79, 80, 95, 66, 67] : List UInt8)
  · refine Or.inl ⟨_, by rw [if_pos c29], by simp, by simp, ?_⟩; obtain rfl := name_of c29; exact Or.inr ⟨by decide +kernel, by rw [ByteArray.toList_eq]; decide +kernel⟩
  rw [if_neg c29]
  by_cases c30 : a0.toList = ([79, 80, 95, 66, 67, 82] : List UInt8)
  · refine Or.inl ⟨_, by rw [if_pos c30], by simp, by simp, ?_⟩; obtain rfl := name_of c30; exact Or.inr ⟨by decide +kernel, by rw [ByteArray.toList_eq]; decide +kernel⟩
  rw [if_neg c30]
  by_cases c31 : a0.toList = ([79, 80, 95, 82, 76, 87] : List UInt8)
  · refine Or.inl ⟨_, by rw [if_pos c31], by simp, by simp, ?_⟩; obtain rfl := name_of c31; exact Or.inr ⟨by decide +kernel, by rw [ByteArray.toList_eq]; decide +kernel⟩
  rw [if_neg c31]
  by_cases c32 : a0.toList = ([65, 79, 80, 95, 69, 88, 84, 83, 87, 83, 76, 73] : List UInt8)
  · refine Or.inl ⟨_, by rw [if_pos c32], by simp, by simp, ?_⟩; obtain rfl := name_of c32; exact Or.inl ⟨by decide +kernel, by decide +kernel⟩
  rw [if_neg c32]
  by_cases c33 : a0.toList = ([65, 79, 80, 95, 73, 83, 69, 76] : List UInt8)
  · refine Or.inl ⟨_, by rw [if_pos c33], by simp, by simp, ?_⟩; obtain rfl := name_of c33; exact Or.inl ⟨by decide +kernel, by decide +kernel⟩
  rw [if_neg c33]
  by_cases c34 : a0.toList = ([65, 79, 80, 95, 77, 68] : List UInt8)
  · refine Or.inl ⟨_, by rw [if_pos c34], by simp, by simp, ?_⟩; obtain rfl := name_of c34; exact Or.inl ⟨by decide +kernel, by decide +kernel⟩
  rw [if_neg c34]
  by_cases c35 : a0.toList = ([65, 79, 80, 95, 77, 68, 83] : List UInt8)
  · refine Or.inl ⟨_, by rw [if_pos c35], by simp, by simp, ?_⟩; obtain rfl := name_of c35; exact Or.inl ⟨by decide +kernel, by decide +kernel⟩
  rw [if_neg c35]
  by_cases c36 : a0.toList = ([65, 79, 80, 95, 80, 70, 88, 95, 48, 48, 95, 56, 76, 83] : List UInt8)
  · refine Or.inl ⟨_, by rw [if_pos c36], by simp, by simp, ?_⟩; obtain rfl := name_of c36; exact Or.inl ⟨by decide +kernel, by decide +kernel⟩
  rw [if_neg c36]
  by_cases c37 : a0.toList = ([65, 79, 80, 95, 80, 70, 88, 95, 49, 48, 95, 77, 76, 83] : List UInt8)
  · refine Or.inl ⟨_, by rw [if_pos c37], by simp, by simp, ?_⟩; obtain rfl := name_of c37; exact Or.inl ⟨by decide +kernel, by decide +kernel⟩
  rw [if_neg c37]
  exact Or.inr rfl

theorem refused_of {a0 : ByteArray} {l1 t : List Int} (hb : impl_bounds.f a0 = some t) (hl : t = [] ∨ l1.length ≠ t.length) (k : Nat) (hk : 1 ≤ k) : laws_refused.f k a0 l1 = some true := by
  unfold laws_refused.f
  rw [enc_len hb hl k hk]
  rfl

theorem j1_ok (a0 : ByteArray) (l1 : List Int) (b : Bool) (hb : cond a0 → b = true) (k : Nat) (hk : 3 ≤ k) : laws_FnNone.j1 k a0 l1 true b = some true := by
  obtain ⟨k, rfl⟩ : ∃ m, k = m + 1 := ⟨k - 1, by omega⟩
  simp only [laws_FnNone.j1]
  cases b with
  | true =>
    simp only [if_true]
    by_cases h1 : (l1.length : Int) ≤ 6
    · rw [if_pos h1]
    rw [if_neg h1]
    by_cases h2 : (l1.length : Int) > 100
    · rw [if_pos h2]
    rw [if_neg h2]
    rcases bounds_cases a0 with ⟨t, ht, _, h6, _⟩ | hn
    · rw [refused_of ht (Or.inr (by omega)) k (by omega)]; rfl
    · rw [refused_of hn (Or.inl rfl) k (by omega)]; rfl
  | false =>
    simp only [Bool.false_eq_true, if_false, if_true]
    by_cases h2 : (l1.length : Int) > 100
    · rw [if_pos h2]
    rw [if_neg h2]
    rcases bounds_cases a0 with ⟨t, _, _, _, hc⟩ | hn
    · exact absurd (hb hc) (by simp)
    · rw [refused_of hn (Or.inl rfl) k (by omega)]; rfl

theorem FnNone : laws_FnNone.Pure := by
  intro a0 l1 _ _ _ _
  refine ⟨21, ?_⟩
  unfold laws_FnNone.f
  by_cases c1 : (a0.size : Int) > 2147483647
  · rw [if_pos c1]; simp only [laws_FnNone.j0, if_true]
  rw [if_neg c1]
  by_cases c2 : (l1.length : Int) > 2147483647
  · rw [decide_eq_true c2]; simp only [laws_FnNone.j0, if_true]
  rw [decide_eq_false c2]
  simp only [laws_FnNone.j0, Bool.false_eq_true, if_false]
  obtain ⟨v, hv⟩ : ∃ v, ppc64obj_AOP_RRR.f (0 % 4294967296) (1 % 4294967296) (2 % 4294967296) (3 % 4294967296) = some v := ⟨_, rfl⟩
  have e1 := Encode_AOP_RRR (a0 := 0) (a1 := 1) (a2 := 2) (a3 := 3) (by omega) (by omega) (by omega) (by omega) (by omega) (by omega) (by omega) (by omega) hv 20 (by omega)
  rw [e1, Option.bind_some]
  by_cases h3 : (a0.size : Int) ≥ 3
  · rw [if_pos h3, if_pos (by omega)]
    by_cases h79 : bt a0 1 = 79
    · rw [if_pos h79]; exact j1_ok a0 l1 true (fun _ => rfl) 20 (by omega)
    · rw [if_neg h79, if_pos (by omega), if_pos (by omega), if_pos (by omega)]
      refine j1_ok a0 l1 _ (fun hc => ?_) 20 (by omega)
      rcases hc with ⟨_, h⟩ | ⟨_, h⟩
      · exact absurd h h79
      · exact beq_iff_eq.mpr h
  · rw [if_neg h3]
    by_cases h2 : (a0.size : Int) ≥ 2
    · rw [if_pos h2, if_pos (by omega), if_pos (by omega)]
      refine j1_ok a0 l1 _ (fun hc => ?_) 20 (by omega)
      rcases hc with ⟨h, _⟩ | ⟨_, h⟩
      · exact absurd h h3
      · exact beq_iff_eq.mpr h
    · rw [if_neg h2]
      refine j1_ok a0 l1 _ (fun hc => ?_) 20 (by omega)
      rcases hc with ⟨h, _⟩ | ⟨h, _⟩
      · exact absurd h h3
      · exact absurd h h2

end Go.Proofs.Ytnfkdmoblncclaa.Pure
