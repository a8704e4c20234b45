/- An encoder puts each field at its place into a code, and nothing else; fields that do not fit are refused: the law answers true at every input. -/
import Derived.Test.YtnfkdmoblncclaaPureOk
import Derived.Test.YtnfkdmoblncclaaXPureFits
import Derived.Test.YtnfkdmoblncclaaXFnFields
import Derived.Test.YtnfkdmoblncclaaXFld
import Derived.OpenShut
namespace Go.Proofs.Ytnfkdmoblncclaa.Pure
open Go.RowKit Go.Proofs.Ytnfkdmoblncclaa.X Go.Proofs.YtnfkdmoblncclaaW.PrintWords Go.Proofs.YtnfkdmoblncclaaW.PrintLast Go.Proofs.YtnfkdmoblncclaaW.PrintMore

/-- The law's body, of a name and its letters. -/
def fieldsBody (k : Nat) (name letters : ByteArray) (x1 : Int) (x2 : List Int) : Option Bool :=
  ((spec_Word.f k name letters x1 x2).bind fun bt585 => (if bt585.2 = true then ((some (([wrap64 (x1)] : List Int) : List Int)).bind fun y588 => (if y588.length + x2.length < 17592186044416 then ((impl_Encode.f k name (y588 ++ x2)).bind fun bt594 => (if (bt594.2 == bt585.2) = true then (some (bt594.1 == bt585.1)) else (some false))) else (none))) else ((laws_fits.f k letters x2).bind fun t597 => (if t597 = true then (some true) else ((some (([wrap64 (x1)] : List Int) : List Int)).bind fun y599 => (if y599.length + x2.length < 17592186044416 then ((impl_Encode.f k name (y599 ++ x2)).bind fun bt605 => (if (bt605.2 == bt585.2) = true then (some true) else (some false))) else (none)))))))

theorem fieldsBody_ok (k : Nat) (name letters : ByteArray) (x1 : Int) (x2 : List Int) (c0 : 0 ≤ x1) (c1 : x1 < 4294967296) (hlen : x2.length ≤ 20)
    (h : (∃ v, spec_Word.f k name letters x1 x2 = some (v, true) ∧ impl_Encode.f k name (x1 :: x2) = some (v, true)) ∨ (spec_Word.f k name letters x1 x2 = some (0, false) ∧ laws_fits.f k letters x2 = some true) ∨
      (spec_Word.f k name letters x1 x2 = some (0, false) ∧ laws_fits.f k letters x2 = some false ∧ impl_Encode.f k name (x1 :: x2) = some (0, false))) : fieldsBody k name letters x1 x2 = some true := by
  have ew : wrap64 x1 = x1 := by unfold wrap64; omega
  have el : ([x1] : List Int).length + x2.length < 17592186044416 := by simp; omega
  have ea : ([x1] : List Int) ++ x2 = x1 :: x2 := rfl
  unfold fieldsBody
  rcases h with ⟨v, h1, h2⟩ | ⟨h1, h2⟩ | ⟨h1, h2, h3⟩
  · rw [h1, Option.bind_some, if_pos rfl, Option.bind_some, ew, if_pos el, ea, h2, Option.bind_some]; simp
  · rw [h1, Option.bind_some, if_neg (by simp), h2, Option.bind_some, if_pos rfl]
  · rw [h1, Option.bind_some, if_neg (by simp), h2, Option.bind_some, if_neg (by simp), Option.bind_some, ew, if_pos el, ea, h3, Option.bind_some]; simp

theorem fields_of {name letters : ByteArray} {t : List Int} {sz : Nat → Nat} (n : Nat) (K : Known letters sz) (hn : letters.size = n) (hb : impl_bounds.f name = some t) (htn : t.length = n + 1)
    (hbits : ∀ j : Nat, j < n + 1 → ∀ x : Int, ∃ b, impl_within.f x (rd t (j : Int)) = some b)
    (hwide : ∀ j : Nat, j < n → wide (bt letters (j : Int)) → ∀ x : Int, 0 ≤ x → ¬ x < 2 ^ sz j → impl_within.f x (rd t ((j + 1 : Nat) : Int)) = some false)
    (code : Int) (c0 : 0 ≤ code) (c1 : code < 4294967296) (f : List Int) (hlen : f.length ≤ 20)
    (hok : f.length = n → (∀ j : Nat, j < n → 0 ≤ rd f (j : Int) ∧ rd f (j : Int) < 2 ^ sz j) → ∃ v, (∀ k, 20 ≤ k → spec_Word.f k name letters code f = some (v, true)) ∧ (∀ k, 10 ≤ k → impl_Encode.f k name (code :: f) = some (v, true))) :
    fieldsBody 41 name letters code f = some true := by
  refine fieldsBody_ok 41 name letters code f c0 c1 hlen ?_
  by_cases hl : f.length = n
  · by_cases hall : ∀ j : Nat, j < n → 0 ≤ rd f (j : Int) ∧ rd f (j : Int) < 2 ^ sz j
    · obtain ⟨v, h1, h2⟩ := hok hl hall
      exact Or.inl ⟨v, h1 41 (by omega), h2 41 (by omega)⟩
    · obtain ⟨j, hj, hnot⟩ := not_all hall
      have hw := word_no' name letters f sz K (by omega) (by omega) 41 code (by omega) ⟨j, by omega, hnot⟩
      rcases fits_cases letters f sz K (by omega) (by omega) 41 (by omega) with h | ⟨h, hf⟩
      · exact Or.inr (Or.inl ⟨hw, h⟩)
      · refine Or.inr (Or.inr ⟨hw, h, enc_no hb (by intro e; rw [e] at htn; simp at htn) (by simp; omega) (by simp; omega) (fun i hi => hbits i (by simp at hi; omega) _) ⟨j + 1, by simp; omega, ?_⟩ 41 (by simp; omega)⟩)
        obtain ⟨hp, hq⟩ := hf j (by omega)
        have hnl : ¬ rd f (j : Int) < 2 ^ sz j := fun hlt => hnot ⟨hp, hlt⟩
        rw [rd_up]
        rcases hq with hq | hq
        · exact absurd hq hnl
        · exact hwide j hj hq (rd f (j : Int)) hp hnl
  · exact Or.inr (Or.inr ⟨word_len 41 code name letters f (by omega), fits_len letters f 41 (by omega), enc_len hb (Or.inr (by simp; omega)) 41 (by omega)⟩)
/-- The table of encoders. -/
def table : List S29 := [(⟨(⟨#[65, 79, 80, 95, 82, 82, 82]⟩ : ByteArray), (⟨#[84, 65, 66]⟩ : ByteArray)⟩ : S29), (⟨(⟨#[65, 79, 80, 95, 82, 82]⟩ : ByteArray), (⟨#[84, 66]⟩ : ByteArray)⟩ : S29), (⟨(⟨#[65, 79, 80, 95, 82, 82, 82, 82]⟩ : ByteArray), (⟨#[84, 65, 66, 89]⟩ : ByteArray)⟩ : S29), (⟨(⟨#[65, 79, 80, 95, 73, 82, 82]⟩ : ByteArray), (⟨#[84, 65, 117]⟩ : ByteArray)⟩ : S29), (⟨(⟨#[65, 79, 80, 95, 86, 73, 82, 82]⟩ : ByteArray), (⟨#[84, 66, 85]⟩ : ByteArray)⟩ : S29), (⟨(⟨#[65, 79, 80, 95, 73, 73, 82, 82]⟩ : ByteArray), (⟨#[84, 65, 82, 81]⟩ : ByteArray)⟩ : S29), (⟨(⟨#[65, 79, 80, 95, 73, 82, 82, 82]⟩ : ByteArray), (⟨#[84, 65, 66, 90]⟩ : ByteArray)⟩ : S29), (⟨(⟨#[65, 79, 80, 95, 73, 82]⟩ : ByteArray), (⟨#[84, 85]⟩ : ByteArray)⟩ : S29), (⟨(⟨#[65, 79, 80, 95, 88, 88, 49]⟩ : ByteArray), (⟨#[105, 65, 66]⟩ : ByteArray)⟩ : S29), (⟨(⟨#[65, 79, 80, 95, 88, 88, 50]⟩ : ByteArray), (⟨#[105, 78, 107]⟩ : ByteArray)⟩ : S29), (⟨(⟨#[65, 79, 80, 95, 88, 88, 51]⟩ : ByteArray), (⟨#[105, 106, 107]⟩ : ByteArray)⟩ : S29), (⟨(⟨#[65, 79, 80, 95, 88, 88, 51, 73]⟩ : ByteArray), (⟨#[105, 106, 107, 110]⟩ : ByteArray)⟩ : S29), (⟨(⟨#[65, 79, 80, 95, 88, 88, 52]⟩ : ByteArray), (⟨#[105, 106, 107, 113]⟩ : ByteArray)⟩ : S29), (⟨(⟨#[65, 79, 80, 95, 90, 50, 51, 73]⟩ : ByteArray), (⟨#[84, 65, 66, 122]⟩ : ByteArray)⟩ : S29), (⟨(⟨#[65, 79, 80, 95, 82, 82, 82, 73]⟩ : ByteArray), (⟨#[84, 65, 66, 118]⟩ : ByteArray)⟩ : S29), (⟨(⟨#[76, 79, 80, 95, 82, 82, 82]⟩ : ByteArray), (⟨#[65, 84, 66]⟩ : ByteArray)⟩ : S29), (⟨(⟨#[76, 79, 80, 95, 73, 82, 82]⟩ : ByteArray), (⟨#[65, 84, 117]⟩ : ByteArray)⟩ : S29), (⟨(⟨#[79, 80, 95, 66, 67, 82]⟩ : ByteArray), (⟨#[79, 97]⟩ : ByteArray)⟩ : S29), (⟨(⟨#[79, 80, 95, 82, 76, 87]⟩ : ByteArray), (⟨#[65, 84, 104, 109, 101]⟩ : ByteArray)⟩ : S29), (⟨(⟨#[65, 79, 80, 95, 73, 83, 69, 76]⟩ : ByteArray), (⟨#[84, 65, 66, 98]⟩ : ByteArray)⟩ : S29), (⟨(⟨#[65, 79, 80, 95, 77, 68]⟩ : ByteArray), (⟨#[65, 84, 103, 77]⟩ : ByteArray)⟩ : S29), (⟨(⟨#[65, 79, 80, 95, 77, 68, 83]⟩ : ByteArray), (⟨#[65, 84, 66, 77]⟩ : ByteArray)⟩ : S29)]
theorem table_is : spec_Layouts.f = some table := rfl
theorem fields_AOP_RRR (code : Int) (c0 : 0 ≤ code) (c1 : code < 4294967296) (f : List Int) (hlen : f.length ≤ 20) : fieldsBody 41 (rd_T29 table 0).f0 (rd_T29 table 0).f1 code f = some true :=
  fields_of 3 known_AOP_RRR rfl bounds_AOP_RRR rfl bits_AOP_RRR wide_AOP_RRR code c0 c1 f hlen (ok_AOP_RRR code c0 c1 f)
theorem fields_AOP_RR (code : Int) (c0 : 0 ≤ code) (c1 : code < 4294967296) (f : List Int) (hlen : f.length ≤ 20) : fieldsBody 41 (rd_T29 table 1).f0 (rd_T29 table 1).f1 code f = some true :=
  fields_of 2 known_AOP_RR rfl bounds_AOP_RR rfl bits_AOP_RR wide_AOP_RR code c0 c1 f hlen (ok_AOP_RR code c0 c1 f)
theorem fields_AOP_RRRR (code : Int) (c0 : 0 ≤ code) (c1 : code < 4294967296) (f : List Int) (hlen : f.length ≤ 20) : fieldsBody 41 (rd_T29 table 2).f0 (rd_T29 table 2).f1 code f = some true :=
  fields_of 4 known_AOP_RRRR rfl bounds_AOP_RRRR rfl bits_AOP_RRRR wide_AOP_RRRR code c0 c1 f hlen (ok_AOP_RRRR code c0 c1 f)
theorem fields_AOP_IRR (code : Int) (c0 : 0 ≤ code) (c1 : code < 4294967296) (f : List Int) (hlen : f.length ≤ 20) : fieldsBody 41 (rd_T29 table 3).f0 (rd_T29 table 3).f1 code f = some true :=
  fields_of 3 known_AOP_IRR rfl bounds_AOP_IRR rfl bits_AOP_IRR wide_AOP_IRR code c0 c1 f hlen (ok_AOP_IRR code c0 c1 f)
theorem fields_AOP_VIRR (code : Int) (c0 : 0 ≤ code) (c1 : code < 4294967296) (f : List Int) (hlen : f.length ≤ 20) : fieldsBody 41 (rd_T29 table 4).f0 (rd_T29 table 4).f1 code f = some true :=
  fields_of 3 known_AOP_VIRR rfl bounds_AOP_VIRR rfl bits_AOP_VIRR wide_AOP_VIRR code c0 c1 f hlen (ok_AOP_VIRR code c0 c1 f)
theorem fields_AOP_IIRR (code : Int) (c0 : 0 ≤ code) (c1 : code < 4294967296) (f : List Int) (hlen : f.length ≤ 20) : fieldsBody 41 (rd_T29 table 5).f0 (rd_T29 table 5).f1 code f = some true :=
  fields_of 4 known_AOP_IIRR rfl bounds_AOP_IIRR rfl bits_AOP_IIRR wide_AOP_IIRR code c0 c1 f hlen (ok_AOP_IIRR code c0 c1 f)
theorem fields_AOP_IRRR (code : Int) (c0 : 0 ≤ code) (c1 : code < 4294967296) (f : List Int) (hlen : f.length ≤ 20) : fieldsBody 41 (rd_T29 table 6).f0 (rd_T29 table 6).f1 code f = some true :=
  fields_of 4 known_AOP_IRRR rfl bounds_AOP_IRRR rfl bits_AOP_IRRR wide_AOP_IRRR code c0 c1 f hlen (ok_AOP_IRRR code c0 c1 f)
theorem fields_AOP_IR (code : Int) (c0 : 0 ≤ code) (c1 : code < 4294967296) (f : List Int) (hlen : f.length ≤ 20) : fieldsBody 41 (rd_T29 table 7).f0 (rd_T29 table 7).f1 code f = some true :=
  fields_of 2 known_AOP_IR rfl bounds_AOP_IR rfl bits_AOP_IR wide_AOP_IR code c0 c1 f hlen (ok_AOP_IR code c0 c1 f)
theorem fields_AOP_XX1 (code : Int) (c0 : 0 ≤ code) (c1 : code < 4294967296) (f : List Int) (hlen : f.length ≤ 20) : fieldsBody 41 (rd_T29 table 8).f0 (rd_T29 table 8).f1 code f = some true :=
  fields_of 3 known_AOP_XX1 rfl bounds_AOP_XX1 rfl bits_AOP_XX1 wide_AOP_XX1 code c0 c1 f hlen (ok_AOP_XX1 code c0 c1 f)
theorem fields_AOP_XX2 (code : Int) (c0 : 0 ≤ code) (c1 : code < 4294967296) (f : List Int) (hlen : f.length ≤ 20) : fieldsBody 41 (rd_T29 table 9).f0 (rd_T29 table 9).f1 code f = some true :=
  fields_of 3 known_AOP_XX2 rfl bounds_AOP_XX2 rfl bits_AOP_XX2 wide_AOP_XX2 code c0 c1 f hlen (ok_AOP_XX2 code c0 c1 f)
theorem fields_AOP_XX3 (code : Int) (c0 : 0 ≤ code) (c1 : code < 4294967296) (f : List Int) (hlen : f.length ≤ 20) : fieldsBody 41 (rd_T29 table 10).f0 (rd_T29 table 10).f1 code f = some true :=
  fields_of 3 known_AOP_XX3 rfl bounds_AOP_XX3 rfl bits_AOP_XX3 wide_AOP_XX3 code c0 c1 f hlen (ok_AOP_XX3 code c0 c1 f)
theorem fields_AOP_XX3I (code : Int) (c0 : 0 ≤ code) (c1 : code < 4294967296) (f : List Int) (hlen : f.length ≤ 20) : fieldsBody 41 (rd_T29 table 11).f0 (rd_T29 table 11).f1 code f = some true :=
  fields_of 4 known_AOP_XX3I rfl bounds_AOP_XX3I rfl bits_AOP_XX3I wide_AOP_XX3I code c0 c1 f hlen (ok_AOP_XX3I code c0 c1 f)
theorem fields_AOP_XX4 (code : Int) (c0 : 0 ≤ code) (c1 : code < 4294967296) (f : List Int) (hlen : f.length ≤ 20) : fieldsBody 41 (rd_T29 table 12).f0 (rd_T29 table 12).f1 code f = some true :=
  fields_of 4 known_AOP_XX4 rfl bounds_AOP_XX4 rfl bits_AOP_XX4 wide_AOP_XX4 code c0 c1 f hlen (ok_AOP_XX4 code c0 c1 f)
theorem fields_AOP_Z23I (code : Int) (c0 : 0 ≤ code) (c1 : code < 4294967296) (f : List Int) (hlen : f.length ≤ 20) : fieldsBody 41 (rd_T29 table 13).f0 (rd_T29 table 13).f1 code f = some true :=
  fields_of 4 known_AOP_Z23I rfl bounds_AOP_Z23I rfl bits_AOP_Z23I wide_AOP_Z23I code c0 c1 f hlen (ok_AOP_Z23I code c0 c1 f)
theorem fields_AOP_RRRI (code : Int) (c0 : 0 ≤ code) (c1 : code < 4294967296) (f : List Int) (hlen : f.length ≤ 20) : fieldsBody 41 (rd_T29 table 14).f0 (rd_T29 table 14).f1 code f = some true :=
  fields_of 4 known_AOP_RRRI rfl bounds_AOP_RRRI rfl bits_AOP_RRRI wide_AOP_RRRI code c0 c1 f hlen (ok_AOP_RRRI code c0 c1 f)
theorem fields_LOP_RRR (code : Int) (c0 : 0 ≤ code) (c1 : code < 4294967296) (f : List Int) (hlen : f.length ≤ 20) : fieldsBody 41 (rd_T29 table 15).f0 (rd_T29 table 15).f1 code f = some true :=
  fields_of 3 known_LOP_RRR rfl bounds_LOP_RRR rfl bits_LOP_RRR wide_LOP_RRR code c0 c1 f hlen (ok_LOP_RRR code c0 c1 f)
theorem fields_LOP_IRR (code : Int) (c0 : 0 ≤ code) (c1 : code < 4294967296) (f : List Int) (hlen : f.length ≤ 20) : fieldsBody 41 (rd_T29 table 16).f0 (rd_T29 table 16).f1 code f = some true :=
  fields_of 3 known_LOP_IRR rfl bounds_LOP_IRR rfl bits_LOP_IRR wide_LOP_IRR code c0 c1 f hlen (ok_LOP_IRR code c0 c1 f)
theorem fields_OP_BCR (code : Int) (c0 : 0 ≤ code) (c1 : code < 4294967296) (f : List Int) (hlen : f.length ≤ 20) : fieldsBody 41 (rd_T29 table 17).f0 (rd_T29 table 17).f1 code f = some true :=
  fields_of 2 known_OP_BCR rfl bounds_OP_BCR rfl bits_OP_BCR wide_OP_BCR code c0 c1 f hlen (ok_OP_BCR code c0 c1 f)
theorem fields_OP_RLW (code : Int) (c0 : 0 ≤ code) (c1 : code < 4294967296) (f : List Int) (hlen : f.length ≤ 20) : fieldsBody 41 (rd_T29 table 18).f0 (rd_T29 table 18).f1 code f = some true :=
  fields_of 5 known_OP_RLW rfl bounds_OP_RLW rfl bits_OP_RLW wide_OP_RLW code c0 c1 f hlen (ok_OP_RLW code c0 c1 f)
theorem fields_AOP_ISEL (code : Int) (c0 : 0 ≤ code) (c1 : code < 4294967296) (f : List Int) (hlen : f.length ≤ 20) : fieldsBody 41 (rd_T29 table 19).f0 (rd_T29 table 19).f1 code f = some true :=
  fields_of 4 known_AOP_ISEL rfl bounds_AOP_ISEL rfl bits_AOP_ISEL wide_AOP_ISEL code c0 c1 f hlen (ok_AOP_ISEL code c0 c1 f)
theorem fields_AOP_MD (code : Int) (c0 : 0 ≤ code) (c1 : code < 4294967296) (f : List Int) (hlen : f.length ≤ 20) : fieldsBody 41 (rd_T29 table 20).f0 (rd_T29 table 20).f1 code f = some true :=
  fields_of 4 known_AOP_MD rfl bounds_AOP_MD rfl bits_AOP_MD wide_AOP_MD code c0 c1 f hlen (ok_AOP_MD code c0 c1 f)
theorem fields_AOP_MDS (code : Int) (c0 : 0 ≤ code) (c1 : code < 4294967296) (f : List Int) (hlen : f.length ≤ 20) : fieldsBody 41 (rd_T29 table 21).f0 (rd_T29 table 21).f1 code f = some true :=
  fields_of 4 known_AOP_MDS rfl bounds_AOP_MDS rfl bits_AOP_MDS wide_AOP_MDS code c0 c1 f hlen (ok_AOP_MDS code c0 c1 f)

theorem size_pos (a0 : Int) (h0 : 0 ≤ a0) (h1 : a0 < 22) : 1 ≤ (rd_T29 table a0).f1.size := by
  have hz : a0 = 0 ∨ a0 = 1 ∨ a0 = 2 ∨ a0 = 3 ∨ a0 = 4 ∨ a0 = 5 ∨ a0 = 6 ∨ a0 = 7 ∨ a0 = 8 ∨ a0 = 9 ∨ a0 = 10 ∨ a0 = 11 ∨ a0 = 12 ∨ a0 = 13 ∨ a0 = 14 ∨ a0 = 15 ∨ a0 = 16 ∨ a0 = 17 ∨ a0 = 18 ∨ a0 = 19 ∨ a0 = 20 ∨ a0 = 21 := by omega
  rcases hz with rfl | rfl | rfl | rfl | rfl | rfl | rfl | rfl | rfl | rfl | rfl | rfl | rfl | rfl | rfl | rfl | rfl | rfl | rfl | rfl | rfl | rfl
  all_goals decide +kernel

theorem body41 (a0 : Int) (h0 : 0 ≤ a0) (h1 : a0 < 22) (code : Int) (c0 : 0 ≤ code) (c1 : code < 4294967296) (f : List Int) (hlen : f.length ≤ 20) : fieldsBody 41 (rd_T29 table a0).f0 (rd_T29 table a0).f1 code f = some true := by
  have hz : a0 = 0 ∨ a0 = 1 ∨ a0 = 2 ∨ a0 = 3 ∨ a0 = 4 ∨ a0 = 5 ∨ a0 = 6 ∨ a0 = 7 ∨ a0 = 8 ∨ a0 = 9 ∨ a0 = 10 ∨ a0 = 11 ∨ a0 = 12 ∨ a0 = 13 ∨ a0 = 14 ∨ a0 = 15 ∨ a0 = 16 ∨ a0 = 17 ∨ a0 = 18 ∨ a0 = 19 ∨ a0 = 20 ∨ a0 = 21 := by omega
  rcases hz with rfl | rfl | rfl | rfl | rfl | rfl | rfl | rfl | rfl | rfl | rfl | rfl | rfl | rfl | rfl | rfl | rfl | rfl | rfl | rfl | rfl | rfl
  · exact fields_AOP_RRR code c0 c1 f hlen
  · exact fields_AOP_RR code c0 c1 f hlen
  · exact fields_AOP_RRRR code c0 c1 f hlen
  · exact fields_AOP_IRR code c0 c1 f hlen
  · exact fields_AOP_VIRR code c0 c1 f hlen
  · exact fields_AOP_IIRR code c0 c1 f hlen
  · exact fields_AOP_IRRR code c0 c1 f hlen
  · exact fields_AOP_IR code c0 c1 f hlen
  · exact fields_AOP_XX1 code c0 c1 f hlen
  · exact fields_AOP_XX2 code c0 c1 f hlen
  · exact fields_AOP_XX3 code c0 c1 f hlen
  · exact fields_AOP_XX3I code c0 c1 f hlen
  · exact fields_AOP_XX4 code c0 c1 f hlen
  · exact fields_AOP_Z23I code c0 c1 f hlen
  · exact fields_AOP_RRRI code c0 c1 f hlen
  · exact fields_LOP_RRR code c0 c1 f hlen
  · exact fields_LOP_IRR code c0 c1 f hlen
  · exact fields_OP_BCR code c0 c1 f hlen
  · exact fields_OP_RLW code c0 c1 f hlen
  · exact fields_AOP_ISEL code c0 c1 f hlen
  · exact fields_AOP_MD code c0 c1 f hlen
  · exact fields_AOP_MDS code c0 c1 f hlen

theorem FnFields : laws_FnFields.Pure := by
  intro a0 a1 l2 _ w1 _ _ _
  have ⟨c0, c1⟩ := bounds_u32 w1
  refine ⟨42, ?_⟩
  unfold laws_FnFields.f
  by_cases d1 : (l2.length : Int) > 2147483647
  · rw [if_pos d1]
  rw [if_neg d1, table_is, Option.bind_some]
  have htrue : laws_FnFields.j0 42 a0 a1 l2 table true = some true := by simp only [laws_FnFields.j0, if_true]
  have hlt : (table.length : Int) = 22 := rfl
  by_cases d2 : a0 < 0
  · rw [if_pos d2, htrue]
  rw [if_neg d2]
  by_cases d3 : a0 ≥ (table.length : Int)
  · rw [if_pos d3, htrue]
  rw [if_neg d3]
  by_cases d4 : (l2.length : Int) > 20
  · rw [if_pos d4, htrue]
  rw [if_neg d4]
  have h0 : 0 ≤ a0 := by omega
  have h1 : a0 < (table.length : Int) := by omega
  have hfalse : laws_FnFields.j0 42 a0 a1 l2 table false = some true := by
    have hb : fieldsBody 41 (rd_T29 table a0).f0 (rd_T29 table a0).f1 a1 l2 = some true := body41 a0 h0 (by omega) a1 c0 (by omega) l2 (by omega)
    simp only [laws_FnFields.j0, Bool.false_eq_true, if_false]
    rw [if_pos h0, if_pos h1]
    exact hb
  have hany : ∀ b, laws_FnFields.j0 42 a0 a1 l2 table b = some true := fun b => by cases b; exact hfalse; exact htrue
  rw [if_pos h0, if_pos h1]
  by_cases d5 : (l2.length : Int) = (((rd_T29 table a0).f1).size : Int)
  · have hs := size_pos a0 h0 (by omega)
    have ew : wrap64 ((l2.length : Int) - 1) = (l2.length : Int) - 1 := by unfold wrap64; omega
    rw [if_pos d5, ew, if_pos (by omega), if_pos (by omega)]
    exact hany _
  · rw [if_neg d5]; exact hfalse

end Go.Proofs.Ytnfkdmoblncclaa.Pure
