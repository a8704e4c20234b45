/- Where the fields fit, the reference and the encoder come to one word. -/
import Derived.Test.YtnfkdmoblncclaaXLay0
import Derived.Test.YtnfkdmoblncclaaXLay1
import Derived.Test.YtnfkdmoblncclaaXLay2
namespace Go.Proofs.Ytnfkdmoblncclaa.Pure
open Go.RowKit Go.Proofs.Ytnfkdmoblncclaa.X Go.Proofs.YtnfkdmoblncclaaW.PrintWords Go.Proofs.YtnfkdmoblncclaaW.PrintLast Go.Proofs.YtnfkdmoblncclaaW.PrintMore

theorem rd_up (a : Int) (l : List Int) (j : Nat) : rd (a :: l) ((j + 1 : Nat) : Int) = rd l (j : Int) := rfl

theorem not_all {n : Nat} {P : Nat → Prop} (h : ¬ ∀ j, j < n → P j) : ∃ j, j < n ∧ ¬ P j := by
  apply Classical.byContradiction
  intro hc
  exact h fun j hj => Classical.byContradiction fun hp => hc ⟨j, hj, hp⟩
theorem ok_AOP_RRR (code : Int) (c0 : 0 ≤ code) (c1 : code < 4294967296) (f : List Int) (hl : f.length = 3) (hall : ∀ j : Nat, j < 3 → 0 ≤ rd f (j : Int) ∧ rd f (j : Int) < 2 ^ sz_AOP_RRR j) :
    ∃ v, (∀ k, 20 ≤ k → spec_Word.f k (⟨#[65, 79, 80, 95, 82, 82, 82]⟩ : ByteArray) (⟨#[84, 65, 66]⟩ : ByteArray) code f = some (v, true)) ∧ (∀ k, 10 ≤ k → impl_Encode.f k (⟨#[65, 79, 80, 95, 82, 82, 82]⟩ : ByteArray) (code :: f) = some (v, true)) := by
  match f, hl with
  | [f0, f1, f2], _ =>
    have h0 : 0 ≤ f0 := (hall 0 (by decide)).1
    have g0 : f0 < 32 := (hall 0 (by decide)).2
    have h1 : 0 ≤ f1 := (hall 1 (by decide)).1
    have g1 : f1 < 32 := (hall 1 (by decide)).2
    have h2 : 0 ≤ f2 := (hall 2 (by decide)).1
    have g2 : f2 < 32 := (hall 2 (by decide)).2
    refine ⟨_, fun k hk => ?_, Encode_AOP_RRR c0 c1 (by omega) (by omega) (by omega) (by omega) (by omega) (by omega) (leaf_AOP_RRR h0 g0 h1 g1 h2 g2)⟩
    obtain ⟨m, rfl⟩ : ∃ m, k = m + 20 := ⟨k - 20, by omega⟩
    exact word_AOP_RRR m code h0 g0 h1 g1 h2 g2

theorem ok_AOP_RR (code : Int) (c0 : 0 ≤ code) (c1 : code < 4294967296) (f : List Int) (hl : f.length = 2) (hall : ∀ j : Nat, j < 2 → 0 ≤ rd f (j : Int) ∧ rd f (j : Int) < 2 ^ sz_AOP_RR j) :
    ∃ v, (∀ k, 20 ≤ k → spec_Word.f k (⟨#[65, 79, 80, 95, 82, 82]⟩ : ByteArray) (⟨#[84, 66]⟩ : ByteArray) code f = some (v, true)) ∧ (∀ k, 10 ≤ k → impl_Encode.f k (⟨#[65, 79, 80, 95, 82, 82]⟩ : ByteArray) (code :: f) = some (v, true)) := by
  match f, hl with
  | [f0, f1], _ =>
    have h0 : 0 ≤ f0 := (hall 0 (by decide)).1
    have g0 : f0 < 32 := (hall 0 (by decide)).2
    have h1 : 0 ≤ f1 := (hall 1 (by decide)).1
    have g1 : f1 < 32 := (hall 1 (by decide)).2
    refine ⟨_, fun k hk => ?_, Encode_AOP_RR c0 c1 (by omega) (by omega) (by omega) (by omega) (leaf_AOP_RR h0 g0 h1 g1)⟩
    obtain ⟨m, rfl⟩ : ∃ m, k = m + 20 := ⟨k - 20, by omega⟩
    exact word_AOP_RR m code h0 g0 h1 g1

theorem ok_AOP_RRRR (code : Int) (c0 : 0 ≤ code) (c1 : code < 4294967296) (f : List Int) (hl : f.length = 4) (hall : ∀ j : Nat, j < 4 → 0 ≤ rd f (j : Int) ∧ rd f (j : Int) < 2 ^ sz_AOP_RRRR j) :
    ∃ v, (∀ k, 20 ≤ k → spec_Word.f k (⟨#[65, 79, 80, 95, 82, 82, 82, 82]⟩ : ByteArray) (⟨#[84, 65, 66, 89]⟩ : ByteArray) code f = some (v, true)) ∧ (∀ k, 10 ≤ k → impl_Encode.f k (⟨#[65, 79, 80, 95, 82, 82, 82, 82]⟩ : ByteArray) (code :: f) = some (v, true)) := by
  match f, hl with
  | [f0, f1, f2, f3], _ =>
    have h0 : 0 ≤ f0 := (hall 0 (by decide)).1
    have g0 : f0 < 32 := (hall 0 (by decide)).2
    have h1 : 0 ≤ f1 := (hall 1 (by decide)).1
    have g1 : f1 < 32 := (hall 1 (by decide)).2
    have h2 : 0 ≤ f2 := (hall 2 (by decide)).1
    have g2 : f2 < 32 := (hall 2 (by decide)).2
    have h3 : 0 ≤ f3 := (hall 3 (by decide)).1
    have g3 : f3 < 32 := (hall 3 (by decide)).2
    refine ⟨_, fun k hk => ?_, Encode_AOP_RRRR c0 c1 (by omega) (by omega) (by omega) (by omega) (by omega) (by omega) (by omega) (by omega) (leaf_AOP_RRRR h0 g0 h1 g1 h2 g2 h3 g3)⟩
    obtain ⟨m, rfl⟩ : ∃ m, k = m + 20 := ⟨k - 20, by omega⟩
    exact word_AOP_RRRR m code h0 g0 h1 g1 h2 g2 h3 g3

theorem ok_AOP_IRR (code : Int) (c0 : 0 ≤ code) (c1 : code < 4294967296) (f : List Int) (hl : f.length = 3) (hall : ∀ j : Nat, j < 3 → 0 ≤ rd f (j : Int) ∧ rd f (j : Int) < 2 ^ sz_AOP_IRR j) :
    ∃ v, (∀ k, 20 ≤ k → spec_Word.f k (⟨#[65, 79, 80, 95, 73, 82, 82]⟩ : ByteArray) (⟨#[84, 65, 117]⟩ : ByteArray) code f = some (v, true)) ∧ (∀ k, 10 ≤ k → impl_Encode.f k (⟨#[65, 79, 80, 95, 73, 82, 82]⟩ : ByteArray) (code :: f) = some (v, true)) := by
  match f, hl with
  | [f0, f1, f2], _ =>
    have h0 : 0 ≤ f0 := (hall 0 (by decide)).1
    have g0 : f0 < 32 := (hall 0 (by decide)).2
    have h1 : 0 ≤ f1 := (hall 1 (by decide)).1
    have g1 : f1 < 32 := (hall 1 (by decide)).2
    have h2 : 0 ≤ f2 := (hall 2 (by decide)).1
    have g2 : f2 < 65536 := (hall 2 (by decide)).2
    refine ⟨_, fun k hk => ?_, Encode_AOP_IRR c0 c1 (by omega) (by omega) (by omega) (by omega) (by omega) (by omega) (leaf_AOP_IRR h0 g0 h1 g1 h2 g2)⟩
    obtain ⟨m, rfl⟩ : ∃ m, k = m + 20 := ⟨k - 20, by omega⟩
    exact word_AOP_IRR m code h0 g0 h1 g1 h2 g2

theorem ok_AOP_VIRR (code : Int) (c0 : 0 ≤ code) (c1 : code < 4294967296) (f : List Int) (hl : f.length = 3) (hall : ∀ j : Nat, j < 3 → 0 ≤ rd f (j : Int) ∧ rd f (j : Int) < 2 ^ sz_AOP_VIRR j) :
    ∃ v, (∀ k, 20 ≤ k → spec_Word.f k (⟨#[65, 79, 80, 95, 86, 73, 82, 82]⟩ : ByteArray) (⟨#[84, 66, 85]⟩ : ByteArray) code f = some (v, true)) ∧ (∀ k, 10 ≤ k → impl_Encode.f k (⟨#[65, 79, 80, 95, 86, 73, 82, 82]⟩ : ByteArray) (code :: f) = some (v, true)) := by
  match f, hl with
  | [f0, f1, f2], _ =>
    have h0 : 0 ≤ f0 := (hall 0 (by decide)).1
    have g0 : f0 < 32 := (hall 0 (by decide)).2
    have h1 : 0 ≤ f1 := (hall 1 (by decide)).1
    have g1 : f1 < 32 := (hall 1 (by decide)).2
    have h2 : 0 ≤ f2 := (hall 2 (by decide)).1
    have g2 : f2 < 32 := (hall 2 (by decide)).2
    refine ⟨_, fun k hk => ?_, Encode_AOP_VIRR c0 c1 (by omega) (by omega) (by omega) (by omega) (by omega) (by omega) (leaf_AOP_VIRR h0 g0 h1 g1 h2 g2)⟩
    obtain ⟨m, rfl⟩ : ∃ m, k = m + 20 := ⟨k - 20, by omega⟩
    exact word_AOP_VIRR m code h0 g0 h1 g1 h2 g2

theorem ok_AOP_IIRR (code : Int) (c0 : 0 ≤ code) (c1 : code < 4294967296) (f : List Int) (hl : f.length = 4) (hall : ∀ j : Nat, j < 4 → 0 ≤ rd f (j : Int) ∧ rd f (j : Int) < 2 ^ sz_AOP_IIRR j) :
    ∃ v, (∀ k, 20 ≤ k → spec_Word.f k (⟨#[65, 79, 80, 95, 73, 73, 82, 82]⟩ : ByteArray) (⟨#[84, 65, 82, 81]⟩ : ByteArray) code f = some (v, true)) ∧ (∀ k, 10 ≤ k → impl_Encode.f k (⟨#[65, 79, 80, 95, 73, 73, 82, 82]⟩ : ByteArray) (code :: f) = some (v, true)) := by
  match f, hl with
  | [f0, f1, f2, f3], _ =>
    have h0 : 0 ≤ f0 := (hall 0 (by decide)).1
    have g0 : f0 < 32 := (hall 0 (by decide)).2
    have h1 : 0 ≤ f1 := (hall 1 (by decide)).1
    have g1 : f1 < 32 := (hall 1 (by decide)).2
    have h2 : 0 ≤ f2 := (hall 2 (by decide)).1
    have g2 : f2 < 2 := (hall 2 (by decide)).2
    have h3 : 0 ≤ f3 := (hall 3 (by decide)).1
    have g3 : f3 < 16 := (hall 3 (by decide)).2
    refine ⟨_, fun k hk => ?_, Encode_AOP_IIRR c0 c1 (by omega) (by omega) (by omega) (by omega) (by omega) (by omega) (by omega) (by omega) (leaf_AOP_IIRR h0 g0 h1 g1 h2 g2 h3 g3)⟩
    obtain ⟨m, rfl⟩ : ∃ m, k = m + 20 := ⟨k - 20, by omega⟩
    exact word_AOP_IIRR m code h0 g0 h1 g1 h2 g2 h3 g3

theorem ok_AOP_IRRR (code : Int) (c0 : 0 ≤ code) (c1 : code < 4294967296) (f : List Int) (hl : f.length = 4) (hall : ∀ j : Nat, j < 4 → 0 ≤ rd f (j : Int) ∧ rd f (j : Int) < 2 ^ sz_AOP_IRRR j) :
    ∃ v, (∀ k, 20 ≤ k → spec_Word.f k (⟨#[65, 79, 80, 95, 73, 82, 82, 82]⟩ : ByteArray) (⟨#[84, 65, 66, 90]⟩ : ByteArray) code f = some (v, true)) ∧ (∀ k, 10 ≤ k → impl_Encode.f k (⟨#[65, 79, 80, 95, 73, 82, 82, 82]⟩ : ByteArray) (code :: f) = some (v, true)) := by
  match f, hl with
  | [f0, f1, f2, f3], _ =>
    have h0 : 0 ≤ f0 := (hall 0 (by decide)).1
    have g0 : f0 < 32 := (hall 0 (by decide)).2
    have h1 : 0 ≤ f1 := (hall 1 (by decide)).1
    have g1 : f1 < 32 := (hall 1 (by decide)).2
    have h2 : 0 ≤ f2 := (hall 2 (by decide)).1
    have g2 : f2 < 32 := (hall 2 (by decide)).2
    have h3 : 0 ≤ f3 := (hall 3 (by decide)).1
    have g3 : f3 < 16 := (hall 3 (by decide)).2
    refine ⟨_, fun k hk => ?_, Encode_AOP_IRRR c0 c1 (by omega) (by omega) (by omega) (by omega) (by omega) (by omega) (by omega) (by omega) (leaf_AOP_IRRR h0 g0 h1 g1 h2 g2 h3 g3)⟩
    obtain ⟨m, rfl⟩ : ∃ m, k = m + 20 := ⟨k - 20, by omega⟩
    exact word_AOP_IRRR m code h0 g0 h1 g1 h2 g2 h3 g3

theorem ok_AOP_IR (code : Int) (c0 : 0 ≤ code) (c1 : code < 4294967296) (f : List Int) (hl : f.length = 2) (hall : ∀ j : Nat, j < 2 → 0 ≤ rd f (j : Int) ∧ rd f (j : Int) < 2 ^ sz_AOP_IR j) :
    ∃ v, (∀ k, 20 ≤ k → spec_Word.f k (⟨#[65, 79, 80, 95, 73, 82]⟩ : ByteArray) (⟨#[84, 85]⟩ : ByteArray) code f = some (v, true)) ∧ (∀ k, 10 ≤ k → impl_Encode.f k (⟨#[65, 79, 80, 95, 73, 82]⟩ : ByteArray) (code :: f) = some (v, true)) := by
  match f, hl with
  | [f0, f1], _ =>
    have h0 : 0 ≤ f0 := (hall 0 (by decide)).1
    have g0 : f0 < 32 := (hall 0 (by decide)).2
    have h1 : 0 ≤ f1 := (hall 1 (by decide)).1
    have g1 : f1 < 32 := (hall 1 (by decide)).2
    refine ⟨_, fun k hk => ?_, Encode_AOP_IR c0 c1 (by omega) (by omega) (by omega) (by omega) (leaf_AOP_IR h0 g0 h1 g1)⟩
    obtain ⟨m, rfl⟩ : ∃ m, k = m + 20 := ⟨k - 20, by omega⟩
    exact word_AOP_IR m code h0 g0 h1 g1

theorem ok_AOP_XX1 (code : Int) (c0 : 0 ≤ code) (c1 : code < 4294967296) (f : List Int) (hl : f.length = 3) (hall : ∀ j : Nat, j < 3 → 0 ≤ rd f (j : Int) ∧ rd f (j : Int) < 2 ^ sz_AOP_XX1 j) :
    ∃ v, (∀ k, 20 ≤ k → spec_Word.f k (⟨#[65, 79, 80, 95, 88, 88, 49]⟩ : ByteArray) (⟨#[105, 65, 66]⟩ : ByteArray) code f = some (v, true)) ∧ (∀ k, 10 ≤ k → impl_Encode.f k (⟨#[65, 79, 80, 95, 88, 88, 49]⟩ : ByteArray) (code :: f) = some (v, true)) := by
  match f, hl with
  | [f0, f1, f2], _ =>
    have h0 : 0 ≤ f0 := (hall 0 (by decide)).1
    have g0 : f0 < 64 := (hall 0 (by decide)).2
    have h1 : 0 ≤ f1 := (hall 1 (by decide)).1
    have g1 : f1 < 32 := (hall 1 (by decide)).2
    have h2 : 0 ≤ f2 := (hall 2 (by decide)).1
    have g2 : f2 < 32 := (hall 2 (by decide)).2
    refine ⟨_, fun k hk => ?_, Encode_AOP_XX1 c0 c1 (by omega) (by omega) (by omega) (by omega) (by omega) (by omega) (leaf_AOP_XX1 h0 g0 h1 g1 h2 g2)⟩
    obtain ⟨m, rfl⟩ : ∃ m, k = m + 20 := ⟨k - 20, by omega⟩
    exact word_AOP_XX1 m code h0 g0 h1 g1 h2 g2

theorem ok_AOP_XX2 (code : Int) (c0 : 0 ≤ code) (c1 : code < 4294967296) (f : List Int) (hl : f.length = 3) (hall : ∀ j : Nat, j < 3 → 0 ≤ rd f (j : Int) ∧ rd f (j : Int) < 2 ^ sz_AOP_XX2 j) :
    ∃ v, (∀ k, 20 ≤ k → spec_Word.f k (⟨#[65, 79, 80, 95, 88, 88, 50]⟩ : ByteArray) (⟨#[105, 78, 107]⟩ : ByteArray) code f = some (v, true)) ∧ (∀ k, 10 ≤ k → impl_Encode.f k (⟨#[65, 79, 80, 95, 88, 88, 50]⟩ : ByteArray) (code :: f) = some (v, true)) := by
  match f, hl with
  | [f0, f1, f2], _ =>
    have h0 : 0 ≤ f0 := (hall 0 (by decide)).1
    have g0 : f0 < 64 := (hall 0 (by decide)).2
    have h1 : 0 ≤ f1 := (hall 1 (by decide)).1
    have g1 : f1 < 4 := (hall 1 (by decide)).2
    have h2 : 0 ≤ f2 := (hall 2 (by decide)).1
    have g2 : f2 < 64 := (hall 2 (by decide)).2
    refine ⟨_, fun k hk => ?_, Encode_AOP_XX2 c0 c1 (by omega) (by omega) (by omega) (by omega) (by omega) (by omega) (leaf_AOP_XX2 h0 g0 h1 g1 h2 g2)⟩
    obtain ⟨m, rfl⟩ : ∃ m, k = m + 20 := ⟨k - 20, by omega⟩
    exact word_AOP_XX2 m code h0 g0 h1 g1 h2 g2

theorem ok_AOP_XX3 (code : Int) (c0 : 0 ≤ code) (c1 : code < 4294967296) (f : List Int) (hl : f.length = 3) (hall : ∀ j : Nat, j < 3 → 0 ≤ rd f (j : Int) ∧ rd f (j : Int) < 2 ^ sz_AOP_XX3 j) :
    ∃ v, (∀ k, 20 ≤ k → spec_Word.f k (⟨#[65, 79, 80, 95, 88, 88, 51]⟩ : ByteArray) (⟨#[105, 106, 107]⟩ : ByteArray) code f = some (v, true)) ∧ (∀ k, 10 ≤ k → impl_Encode.f k (⟨#[65, 79, 80, 95, 88, 88, 51]⟩ : ByteArray) (code :: f) = some (v, true)) := by
  match f, hl with
  | [f0, f1, f2], _ =>
    have h0 : 0 ≤ f0 := (hall 0 (by decide)).1
    have g0 : f0 < 64 := (hall 0 (by decide)).2
    have h1 : 0 ≤ f1 := (hall 1 (by decide)).1
    have g1 : f1 < 64 := (hall 1 (by decide)).2
    have h2 : 0 ≤ f2 := (hall 2 (by decide)).1
    have g2 : f2 < 64 := (hall 2 (by decide)).2
    refine ⟨_, fun k hk => ?_, Encode_AOP_XX3 c0 c1 (by omega) (by omega) (by omega) (by omega) (by omega) (by omega) (leaf_AOP_XX3 h0 g0 h1 g1 h2 g2)⟩
    obtain ⟨m, rfl⟩ : ∃ m, k = m + 20 := ⟨k - 20, by omega⟩
    exact word_AOP_XX3 m code h0 g0 h1 g1 h2 g2

theorem ok_AOP_XX3I (code : Int) (c0 : 0 ≤ code) (c1 : code < 4294967296) (f : List Int) (hl : f.length = 4) (hall : ∀ j : Nat, j < 4 → 0 ≤ rd f (j : Int) ∧ rd f (j : Int) < 2 ^ sz_AOP_XX3I j) :
    ∃ v, (∀ k, 20 ≤ k → spec_Word.f k (⟨#[65, 79, 80, 95, 88, 88, 51, 73]⟩ : ByteArray) (⟨#[105, 106, 107, 110]⟩ : ByteArray) code f = some (v, true)) ∧ (∀ k, 10 ≤ k → impl_Encode.f k (⟨#[65, 79, 80, 95, 88, 88, 51, 73]⟩ : ByteArray) (code :: f) = some (v, true)) := by
  match f, hl with
  | [f0, f1, f2, f3], _ =>
    have h0 : 0 ≤ f0 := (hall 0 (by decide)).1
    have g0 : f0 < 64 := (hall 0 (by decide)).2
    have h1 : 0 ≤ f1 := (hall 1 (by decide)).1
    have g1 : f1 < 64 := (hall 1 (by decide)).2
    have h2 : 0 ≤ f2 := (hall 2 (by decide)).1
    have g2 : f2 < 64 := (hall 2 (by decide)).2
    have h3 : 0 ≤ f3 := (hall 3 (by decide)).1
    have g3 : f3 < 4 := (hall 3 (by decide)).2
    refine ⟨_, fun k hk => ?_, Encode_AOP_XX3I c0 c1 (by omega) (by omega) (by omega) (by omega) (by omega) (by omega) (by omega) (by omega) (leaf_AOP_XX3I h0 g0 h1 g1 h2 g2 h3 g3)⟩
    obtain ⟨m, rfl⟩ : ∃ m, k = m + 20 := ⟨k - 20, by omega⟩
    exact word_AOP_XX3I m code h0 g0 h1 g1 h2 g2 h3 g3

theorem ok_AOP_XX4 (code : Int) (c0 : 0 ≤ code) (c1 : code < 4294967296) (f : List Int) (hl : f.length = 4) (hall : ∀ j : Nat, j < 4 → 0 ≤ rd f (j : Int) ∧ rd f (j : Int) < 2 ^ sz_AOP_XX4 j) :
    ∃ v, (∀ k, 20 ≤ k → spec_Word.f k (⟨#[65, 79, 80, 95, 88, 88, 52]⟩ : ByteArray) (⟨#[105, 106, 107, 113]⟩ : ByteArray) code f = some (v, true)) ∧ (∀ k, 10 ≤ k → impl_Encode.f k (⟨#[65, 79, 80, 95, 88, 88, 52]⟩ : ByteArray) (code :: f) = some (v, true)) := by
  match f, hl with
  | [f0, f1, f2, f3], _ =>
    have h0 : 0 ≤ f0 := (hall 0 (by decide)).1
    have g0 : f0 < 64 := (hall 0 (by decide)).2
    have h1 : 0 ≤ f1 := (hall 1 (by decide)).1
    have g1 : f1 < 64 := (hall 1 (by decide)).2
    have h2 : 0 ≤ f2 := (hall 2 (by decide)).1
    have g2 : f2 < 64 := (hall 2 (by decide)).2
    have h3 : 0 ≤ f3 := (hall 3 (by decide)).1
    have g3 : f3 < 64 := (hall 3 (by decide)).2
    refine ⟨_, fun k hk => ?_, Encode_AOP_XX4 c0 c1 (by omega) (by omega) (by omega) (by omega) (by omega) (by omega) (by omega) (by omega) (leaf_AOP_XX4 h0 g0 h1 g1 h2 g2 h3 g3)⟩
    obtain ⟨m, rfl⟩ : ∃ m, k = m + 20 := ⟨k - 20, by omega⟩
    exact word_AOP_XX4 m code h0 g0 h1 g1 h2 g2 h3 g3

theorem ok_AOP_Z23I (code : Int) (c0 : 0 ≤ code) (c1 : code < 4294967296) (f : List Int) (hl : f.length = 4) (hall : ∀ j : Nat, j < 4 → 0 ≤ rd f (j : Int) ∧ rd f (j : Int) < 2 ^ sz_AOP_Z23I j) :
    ∃ v, (∀ k, 20 ≤ k → spec_Word.f k (⟨#[65, 79, 80, 95, 90, 50, 51, 73]⟩ : ByteArray) (⟨#[84, 65, 66, 122]⟩ : ByteArray) code f = some (v, true)) ∧ (∀ k, 10 ≤ k → impl_Encode.f k (⟨#[65, 79, 80, 95, 90, 50, 51, 73]⟩ : ByteArray) (code :: f) = some (v, true)) := by
  match f, hl with
  | [f0, f1, f2, f3], _ =>
    have h0 : 0 ≤ f0 := (hall 0 (by decide)).1
    have g0 : f0 < 32 := (hall 0 (by decide)).2
    have h1 : 0 ≤ f1 := (hall 1 (by decide)).1
    have g1 : f1 < 32 := (hall 1 (by decide)).2
    have h2 : 0 ≤ f2 := (hall 2 (by decide)).1
    have g2 : f2 < 32 := (hall 2 (by decide)).2
    have h3 : 0 ≤ f3 := (hall 3 (by decide)).1
    have g3 : f3 < 4 := (hall 3 (by decide)).2
    refine ⟨_, fun k hk => ?_, Encode_AOP_Z23I c0 c1 (by omega) (by omega) (by omega) (by omega) (by omega) (by omega) (by omega) (by omega) (leaf_AOP_Z23I h0 g0 h1 g1 h2 g2 h3 g3)⟩
    obtain ⟨m, rfl⟩ : ∃ m, k = m + 20 := ⟨k - 20, by omega⟩
    exact word_AOP_Z23I m code h0 g0 h1 g1 h2 g2 h3 g3

theorem ok_AOP_RRRI (code : Int) (c0 : 0 ≤ code) (c1 : code < 4294967296) (f : List Int) (hl : f.length = 4) (hall : ∀ j : Nat, j < 4 → 0 ≤ rd f (j : Int) ∧ rd f (j : Int) < 2 ^ sz_AOP_RRRI j) :
    ∃ v, (∀ k, 20 ≤ k → spec_Word.f k (⟨#[65, 79, 80, 95, 82, 82, 82, 73]⟩ : ByteArray) (⟨#[84, 65, 66, 118]⟩ : ByteArray) code f = some (v, true)) ∧ (∀ k, 10 ≤ k → impl_Encode.f k (⟨#[65, 79, 80, 95, 82, 82, 82, 73]⟩ : ByteArray) (code :: f) = some (v, true)) := by
  match f, hl with
  | [f0, f1, f2, f3], _ =>
    have h0 : 0 ≤ f0 := (hall 0 (by decide)).1
    have g0 : f0 < 32 := (hall 0 (by decide)).2
    have h1 : 0 ≤ f1 := (hall 1 (by decide)).1
    have g1 : f1 < 32 := (hall 1 (by decide)).2
    have h2 : 0 ≤ f2 := (hall 2 (by decide)).1
    have g2 : f2 < 32 := (hall 2 (by decide)).2
    have h3 : 0 ≤ f3 := (hall 3 (by decide)).1
    have g3 : f3 < 2 := (hall 3 (by decide)).2
    refine ⟨_, fun k hk => ?_, Encode_AOP_RRRI c0 c1 (by omega) (by omega) (by omega) (by omega) (by omega) (by omega) (by omega) (by omega) (leaf_AOP_RRRI h0 g0 h1 g1 h2 g2 h3 g3)⟩
    obtain ⟨m, rfl⟩ : ∃ m, k = m + 20 := ⟨k - 20, by omega⟩
    exact word_AOP_RRRI m code h0 g0 h1 g1 h2 g2 h3 g3

theorem ok_LOP_RRR (code : Int) (c0 : 0 ≤ code) (c1 : code < 4294967296) (f : List Int) (hl : f.length = 3) (hall : ∀ j : Nat, j < 3 → 0 ≤ rd f (j : Int) ∧ rd f (j : Int) < 2 ^ sz_LOP_RRR j) :
    ∃ v, (∀ k, 20 ≤ k → spec_Word.f k (⟨#[76, 79, 80, 95, 82, 82, 82]⟩ : ByteArray) (⟨#[65, 84, 66]⟩ : ByteArray) code f = some (v, true)) ∧ (∀ k, 10 ≤ k → impl_Encode.f k (⟨#[76, 79, 80, 95, 82, 82, 82]⟩ : ByteArray) (code :: f) = some (v, true)) := by
  match f, hl with
  | [f0, f1, f2], _ =>
    have h0 : 0 ≤ f0 := (hall 0 (by decide)).1
    have g0 : f0 < 32 := (hall 0 (by decide)).2
    have h1 : 0 ≤ f1 := (hall 1 (by decide)).1
    have g1 : f1 < 32 := (hall 1 (by decide)).2
    have h2 : 0 ≤ f2 := (hall 2 (by decide)).1
    have g2 : f2 < 32 := (hall 2 (by decide)).2
    refine ⟨_, fun k hk => ?_, Encode_LOP_RRR c0 c1 (by omega) (by omega) (by omega) (by omega) (by omega) (by omega) (leaf_LOP_RRR h0 g0 h1 g1 h2 g2)⟩
    obtain ⟨m, rfl⟩ : ∃ m, k = m + 20 := ⟨k - 20, by omega⟩
    exact word_LOP_RRR m code h0 g0 h1 g1 h2 g2

theorem ok_LOP_IRR (code : Int) (c0 : 0 ≤ code) (c1 : code < 4294967296) (f : List Int) (hl : f.length = 3) (hall : ∀ j : Nat, j < 3 → 0 ≤ rd f (j : Int) ∧ rd f (j : Int) < 2 ^ sz_LOP_IRR j) :
    ∃ v, (∀ k, 20 ≤ k → spec_Word.f k (⟨#[76, 79, 80, 95, 73, 82, 82]⟩ : ByteArray) (⟨#[65, 84, 117]⟩ : ByteArray) code f = some (v, true)) ∧ (∀ k, 10 ≤ k → impl_Encode.f k (⟨#[76, 79, 80, 95, 73, 82, 82]⟩ : ByteArray) (code :: f) = some (v, true)) := by
  match f, hl with
  | [f0, f1, f2], _ =>
    have h0 : 0 ≤ f0 := (hall 0 (by decide)).1
    have g0 : f0 < 32 := (hall 0 (by decide)).2
    have h1 : 0 ≤ f1 := (hall 1 (by decide)).1
    have g1 : f1 < 32 := (hall 1 (by decide)).2
    have h2 : 0 ≤ f2 := (hall 2 (by decide)).1
    have g2 : f2 < 65536 := (hall 2 (by decide)).2
    refine ⟨_, fun k hk => ?_, Encode_LOP_IRR c0 c1 (by omega) (by omega) (by omega) (by omega) (by omega) (by omega) (leaf_LOP_IRR h0 g0 h1 g1 h2 g2)⟩
    obtain ⟨m, rfl⟩ : ∃ m, k = m + 20 := ⟨k - 20, by omega⟩
    exact word_LOP_IRR m code h0 g0 h1 g1 h2 g2

theorem ok_OP_BCR (code : Int) (c0 : 0 ≤ code) (c1 : code < 4294967296) (f : List Int) (hl : f.length = 2) (hall : ∀ j : Nat, j < 2 → 0 ≤ rd f (j : Int) ∧ rd f (j : Int) < 2 ^ sz_OP_BCR j) :
    ∃ v, (∀ k, 20 ≤ k → spec_Word.f k (⟨#[79, 80, 95, 66, 67, 82]⟩ : ByteArray) (⟨#[79, 97]⟩ : ByteArray) code f = some (v, true)) ∧ (∀ k, 10 ≤ k → impl_Encode.f k (⟨#[79, 80, 95, 66, 67, 82]⟩ : ByteArray) (code :: f) = some (v, true)) := by
  match f, hl with
  | [f0, f1], _ =>
    have h0 : 0 ≤ f0 := (hall 0 (by decide)).1
    have g0 : f0 < 32 := (hall 0 (by decide)).2
    have h1 : 0 ≤ f1 := (hall 1 (by decide)).1
    have g1 : f1 < 32 := (hall 1 (by decide)).2
    refine ⟨_, fun k hk => ?_, Encode_OP_BCR c0 c1 (by omega) (by omega) (by omega) (by omega) (leaf_OP_BCR h0 g0 h1 g1)⟩
    obtain ⟨m, rfl⟩ : ∃ m, k = m + 20 := ⟨k - 20, by omega⟩
    exact word_OP_BCR m code h0 g0 h1 g1

theorem ok_OP_RLW (code : Int) (c0 : 0 ≤ code) (c1 : code < 4294967296) (f : List Int) (hl : f.length = 5) (hall : ∀ j : Nat, j < 5 → 0 ≤ rd f (j : Int) ∧ rd f (j : Int) < 2 ^ sz_OP_RLW j) :
    ∃ v, (∀ k, 20 ≤ k → spec_Word.f k (⟨#[79, 80, 95, 82, 76, 87]⟩ : ByteArray) (⟨#[65, 84, 104, 109, 101]⟩ : ByteArray) code f = some (v, true)) ∧ (∀ k, 10 ≤ k → impl_Encode.f k (⟨#[79, 80, 95, 82, 76, 87]⟩ : ByteArray) (code :: f) = some (v, true)) := by
  match f, hl with
  | [f0, f1, f2, f3, f4], _ =>
    have h0 : 0 ≤ f0 := (hall 0 (by decide)).1
    have g0 : f0 < 32 := (hall 0 (by decide)).2
    have h1 : 0 ≤ f1 := (hall 1 (by decide)).1
    have g1 : f1 < 32 := (hall 1 (by decide)).2
    have h2 : 0 ≤ f2 := (hall 2 (by decide)).1
    have g2 : f2 < 32 := (hall 2 (by decide)).2
    have h3 : 0 ≤ f3 := (hall 3 (by decide)).1
    have g3 : f3 < 32 := (hall 3 (by decide)).2
    have h4 : 0 ≤ f4 := (hall 4 (by decide)).1
    have g4 : f4 < 32 := (hall 4 (by decide)).2
    refine ⟨_, fun k hk => ?_, Encode_OP_RLW c0 c1 (by omega) (by omega) (by omega) (by omega) (by omega) (by omega) (by omega) (by omega) (by omega) (by omega) (leaf_OP_RLW h0 g0 h1 g1 h2 g2 h3 g3 h4 g4)⟩
    obtain ⟨m, rfl⟩ : ∃ m, k = m + 20 := ⟨k - 20, by omega⟩
    exact word_OP_RLW m code h0 g0 h1 g1 h2 g2 h3 g3 h4 g4

theorem ok_AOP_ISEL (code : Int) (c0 : 0 ≤ code) (c1 : code < 4294967296) (f : List Int) (hl : f.length = 4) (hall : ∀ j : Nat, j < 4 → 0 ≤ rd f (j : Int) ∧ rd f (j : Int) < 2 ^ sz_AOP_ISEL j) :
    ∃ v, (∀ k, 20 ≤ k → spec_Word.f k (⟨#[65, 79, 80, 95, 73, 83, 69, 76]⟩ : ByteArray) (⟨#[84, 65, 66, 98]⟩ : ByteArray) code f = some (v, true)) ∧ (∀ k, 10 ≤ k → impl_Encode.f k (⟨#[65, 79, 80, 95, 73, 83, 69, 76]⟩ : ByteArray) (code :: f) = some (v, true)) := by
  match f, hl with
  | [f0, f1, f2, f3], _ =>
    have h0 : 0 ≤ f0 := (hall 0 (by decide)).1
    have g0 : f0 < 32 := (hall 0 (by decide)).2
    have h1 : 0 ≤ f1 := (hall 1 (by decide)).1
    have g1 : f1 < 32 := (hall 1 (by decide)).2
    have h2 : 0 ≤ f2 := (hall 2 (by decide)).1
    have g2 : f2 < 32 := (hall 2 (by decide)).2
    have h3 : 0 ≤ f3 := (hall 3 (by decide)).1
    have g3 : f3 < 32 := (hall 3 (by decide)).2
    refine ⟨_, fun k hk => ?_, Encode_AOP_ISEL c0 c1 (by omega) (by omega) (by omega) (by omega) (by omega) (by omega) (by omega) (by omega) (leaf_AOP_ISEL h0 g0 h1 g1 h2 g2 h3 g3)⟩
    obtain ⟨m, rfl⟩ : ∃ m, k = m + 20 := ⟨k - 20, by omega⟩
    exact word_AOP_ISEL m code h0 g0 h1 g1 h2 g2 h3 g3

theorem ok_AOP_MD (code : Int) (c0 : 0 ≤ code) (c1 : code < 4294967296) (f : List Int) (hl : f.length = 4) (hall : ∀ j : Nat, j < 4 → 0 ≤ rd f (j : Int) ∧ rd f (j : Int) < 2 ^ sz_AOP_MD j) :
    ∃ v, (∀ k, 20 ≤ k → spec_Word.f k (⟨#[65, 79, 80, 95, 77, 68]⟩ : ByteArray) (⟨#[65, 84, 103, 77]⟩ : ByteArray) code f = some (v, true)) ∧ (∀ k, 10 ≤ k → impl_Encode.f k (⟨#[65, 79, 80, 95, 77, 68]⟩ : ByteArray) (code :: f) = some (v, true)) := by
  match f, hl with
  | [f0, f1, f2, f3], _ =>
    have h0 : 0 ≤ f0 := (hall 0 (by decide)).1
    have g0 : f0 < 32 := (hall 0 (by decide)).2
    have h1 : 0 ≤ f1 := (hall 1 (by decide)).1
    have g1 : f1 < 32 := (hall 1 (by decide)).2
    have h2 : 0 ≤ f2 := (hall 2 (by decide)).1
    have g2 : f2 < 64 := (hall 2 (by decide)).2
    have h3 : 0 ≤ f3 := (hall 3 (by decide)).1
    have g3 : f3 < 64 := (hall 3 (by decide)).2
    refine ⟨_, fun k hk => ?_, Encode_AOP_MD c0 c1 (by omega) (by omega) (by omega) (by omega) (by omega) (by omega) (by omega) (by omega) (leaf_AOP_MD h0 g0 h1 g1 h2 g2 h3 g3)⟩
    obtain ⟨m, rfl⟩ : ∃ m, k = m + 20 := ⟨k - 20, by omega⟩
    exact word_AOP_MD m code h0 g0 h1 g1 h2 g2 h3 g3

theorem ok_AOP_MDS (code : Int) (c0 : 0 ≤ code) (c1 : code < 4294967296) (f : List Int) (hl : f.length = 4) (hall : ∀ j : Nat, j < 4 → 0 ≤ rd f (j : Int) ∧ rd f (j : Int) < 2 ^ sz_AOP_MDS j) :
    ∃ v, (∀ k, 20 ≤ k → spec_Word.f k (⟨#[65, 79, 80, 95, 77, 68, 83]⟩ : ByteArray) (⟨#[65, 84, 66, 77]⟩ : ByteArray) code f = some (v, true)) ∧ (∀ k, 10 ≤ k → impl_Encode.f k (⟨#[65, 79, 80, 95, 77, 68, 83]⟩ : ByteArray) (code :: f) = some (v, true)) := by
  match f, hl with
  | [f0, f1, f2, f3], _ =>
    have h0 : 0 ≤ f0 := (hall 0 (by decide)).1
    have g0 : f0 < 32 := (hall 0 (by decide)).2
    have h1 : 0 ≤ f1 := (hall 1 (by decide)).1
    have g1 : f1 < 32 := (hall 1 (by decide)).2
    have h2 : 0 ≤ f2 := (hall 2 (by decide)).1
    have g2 : f2 < 32 := (hall 2 (by decide)).2
    have h3 : 0 ≤ f3 := (hall 3 (by decide)).1
    have g3 : f3 < 64 := (hall 3 (by decide)).2
    refine ⟨_, fun k hk => ?_, Encode_AOP_MDS c0 c1 (by omega) (by omega) (by omega) (by omega) (by omega) (by omega) (by omega) (by omega) (leaf_AOP_MDS h0 g0 h1 g1 h2 g2 h3 g3)⟩
    obtain ⟨m, rfl⟩ : ∃ m, k = m + 20 := ⟨k - 20, by omega⟩
    exact word_AOP_MDS m code h0 g0 h1 g1 h2 g2 h3 g3

end Go.Proofs.Ytnfkdmoblncclaa.Pure
