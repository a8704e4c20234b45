/- Unlike fields give unlike words: the law answers true at every input. -/
import Derived.Test.YtnfkdmoblncclaaPureOk
import Derived.Test.YtnfkdmoblncclaaXFnApart
import Derived.Test.YtnfkdmoblncclaaXApt
namespace Go.Proofs.Ytnfkdmoblncclaa.Pure
open Go.RowKit Go.Proofs.Ytnfkdmoblncclaa.X Go.Proofs.YtnfkdmoblncclaaW.PrintWords Go.Proofs.YtnfkdmoblncclaaW.PrintLast Go.Proofs.YtnfkdmoblncclaaW.PrintMore

theorem loop_false (x1 x2 : List Int) (a b : Int) (hl : x1.length = x2.length) (hlen : x1.length ≤ 1000) (d : Nat) :
    ∀ (k i : Nat), i ≤ x1.length → x1.length - i = d → d < k → laws_FnApart.l0 k x1 x2 a true b true false (i : Int) = some ((a == b) == false) := by
  induction d with
  | zero =>
    intro k i hi hd hk
    obtain ⟨k, rfl⟩ : ∃ m, k = m + 1 := ⟨k - 1, by omega⟩
    simp only [laws_FnApart.l0]
    rw [if_neg (by omega)]; simp only [if_true]
  | succ d ih =>
    intro k i hi hd hk
    obtain ⟨k, rfl⟩ : ∃ m, k = m + 1 := ⟨k - 1, by omega⟩
    simp only [laws_FnApart.l0]
    have ew : wrap64 ((i : Int) + 1) = ((i + 1 : Nat) : Int) := by unfold wrap64; omega
    rw [if_pos (by omega), if_pos (by omega), if_pos (by omega), ew, ih k (i + 1) (by omega) (by omega) (by omega)]
    split <;> rfl

theorem loop_same (x1 x2 : List Int) (a b : Int) (hl : x1.length = x2.length) (hlen : x1.length ≤ 1000) (d : Nat) :
    ∀ (k i : Nat), i ≤ x1.length → x1.length - i = d → d < k → (∀ j : Nat, i ≤ j → j < x1.length → rd x1 (j : Int) = rd x2 (j : Int)) → laws_FnApart.l0 k x1 x2 a true b true true (i : Int) = some ((a == b) == true) := by
  induction d with
  | zero =>
    intro k i hi hd hk _
    obtain ⟨k, rfl⟩ : ∃ m, k = m + 1 := ⟨k - 1, by omega⟩
    simp only [laws_FnApart.l0]
    rw [if_neg (by omega)]; simp only [if_true]
  | succ d ih =>
    intro k i hi hd hk hall
    obtain ⟨k, rfl⟩ : ∃ m, k = m + 1 := ⟨k - 1, by omega⟩
    simp only [laws_FnApart.l0]
    have ew : wrap64 ((i : Int) + 1) = ((i + 1 : Nat) : Int) := by unfold wrap64; omega
    rw [if_pos (by omega), if_pos (by omega), if_pos (by omega), ew, if_pos (hall i (Nat.le_refl _) (by omega))]
    exact ih k (i + 1) (by omega) (by omega) (by omega) (fun j h1 h2 => hall j (by omega) h2)

theorem loop_unlike (x1 x2 : List Int) (a b : Int) (hl : x1.length = x2.length) (hlen : x1.length ≤ 1000) (d : Nat) :
    ∀ (k i : Nat), i ≤ x1.length → x1.length - i = d → d < k → (∃ j : Nat, i ≤ j ∧ j < x1.length ∧ ¬ rd x1 (j : Int) = rd x2 (j : Int)) → laws_FnApart.l0 k x1 x2 a true b true true (i : Int) = some ((a == b) == false) := by
  induction d with
  | zero =>
    intro k i hi hd hk ⟨j, h1, h2, _⟩
    omega
  | succ d ih =>
    intro k i hi hd hk hex
    obtain ⟨k, rfl⟩ : ∃ m, k = m + 1 := ⟨k - 1, by omega⟩
    simp only [laws_FnApart.l0]
    have ew : wrap64 ((i : Int) + 1) = ((i + 1 : Nat) : Int) := by unfold wrap64; omega
    rw [if_pos (by omega), if_pos (by omega), if_pos (by omega), ew]
    by_cases he : rd x1 (i : Int) = rd x2 (i : Int)
    · rw [if_pos he]
      refine ih k (i + 1) (by omega) (by omega) (by omega) ?_
      obtain ⟨j, h1, h2, h3⟩ := hex
      refine ⟨j, ?_, h2, h3⟩
      rcases Nat.lt_or_ge i j with h | h
      · exact h
      · have : j = i := by omega
        subst this
        exact absurd he h3
    · rw [if_neg he]
      exact loop_false x1 x2 a b hl hlen d k (i + 1) (by omega) (by omega) (by omega)

theorem apart_of {name letters : ByteArray} {sz : Nat → Nat} (n : Nat) (K : Known letters sz) (hn : letters.size = n) (x0 : Int) (x7 : List S29) (h0 : 0 ≤ x0) (h1 : x0 < (x7.length : Int))
    (hname : (rd_T29 x7 x0).f0 = name) (hlet : (rd_T29 x7 x0).f1 = letters) (f g : List Int) (hlen : f.length ≤ 20) (hlen2 : g.length ≤ 20)
    (hword : ∀ f : List Int, f.length = n → (∀ j : Nat, j < n → 0 ≤ rd f (j : Int) ∧ rd f (j : Int) < 2 ^ sz j) → ∃ v, (∀ k, 20 ≤ k → spec_Word.f k name letters 0 f = some (v, true)) ∧ (∀ k, 10 ≤ k → impl_Encode.f k name (0 :: f) = some (v, true)))
    (hboth : f.length = n → (∀ j : Nat, j < n → 0 ≤ rd f (j : Int) ∧ rd f (j : Int) < 2 ^ sz j) → g.length = n → (∀ j : Nat, j < n → 0 ≤ rd g (j : Int) ∧ rd g (j : Int) < 2 ^ sz j) →
      ∃ a b, (∀ k, 20 ≤ k → spec_Word.f k name letters 0 f = some (a, true)) ∧ (∀ k, 10 ≤ k → impl_Encode.f k name (0 :: f) = some (a, true)) ∧ (∀ k, 20 ≤ k → spec_Word.f k name letters 0 g = some (b, true)) ∧ (∀ k, 10 ≤ k → impl_Encode.f k name (0 :: g) = some (b, true)) ∧ (a = b → ∀ j : Nat, j < n → rd f (j : Int) = rd g (j : Int))) :
    laws_FnApart.j1 43 x0 f g x7 false = some true := by
  have hno : ∀ f : List Int, f.length ≤ 20 → ¬ (f.length = n ∧ ∀ j : Nat, j < n → 0 ≤ rd f (j : Int) ∧ rd f (j : Int) < 2 ^ sz j) → spec_Word.f 42 name letters 0 f = some (0, false) := by
    intro f hf hp
    by_cases hl : f.length = n
    · obtain ⟨j, hj, hnot⟩ := not_all (fun h => hp ⟨hl, h⟩)
      exact word_no' name letters f sz K (by omega) (by omega) 42 0 (by omega) ⟨j, by omega, hnot⟩
    · exact word_len 42 0 name letters f (by omega)
  have hall : ∀ f : List Int, f.length ≤ 20 → ∃ r, spec_Word.f 42 name letters 0 f = some r := by
    intro f hf
    by_cases hp : f.length = n ∧ ∀ j : Nat, j < n → 0 ≤ rd f (j : Int) ∧ rd f (j : Int) < 2 ^ sz j
    · obtain ⟨v, hv, _⟩ := hword f hp.1 hp.2
      exact ⟨_, hv 42 (by omega)⟩
    · exact ⟨_, hno f hf hp⟩
  simp only [laws_FnApart.j1, Bool.false_eq_true, if_false]
  rw [if_pos h0, if_pos h1, hname, hlet]
  by_cases pf : f.length = n ∧ ∀ j : Nat, j < n → 0 ≤ rd f (j : Int) ∧ rd f (j : Int) < 2 ^ sz j
  · by_cases pg : g.length = n ∧ ∀ j : Nat, j < n → 0 ≤ rd g (j : Int) ∧ rd g (j : Int) < 2 ^ sz j
    · obtain ⟨a, b, wf, ef, wg, eg, inj⟩ := hboth pf.1 pf.2 pg.1 pg.2
      rw [wf 42 (by omega), Option.bind_some, wg 42 (by omega), Option.bind_some, if_pos rfl]
      simp only [laws_FnApart.j2, Bool.not_true, Bool.false_eq_true, if_false]
      rw [if_pos h0, if_pos h1, hname, Option.bind_some, if_pos (by simp; omega), show ([0] : List Int) ++ f = 0 :: f from rfl, ef 41 (by omega), Option.bind_some, Option.bind_some, if_pos (by simp; omega),
        show ([0] : List Int) ++ g = 0 :: g from rfl, eg 41 (by omega), Option.bind_some]
      by_cases he : ∀ j : Nat, j < n → rd f (j : Int) = rd g (j : Int)
      · have hab : a = b := by
          have hfg : f = g := by
            apply List.ext_getElem (by omega)
            intro j h2 h3
            have := he j (by omega)
            unfold rd at this
            simpa [List.getD_eq_getElem?_getD, h2, h3] using this
          subst hfg
          have := (wf 42 (by omega)).symm.trans (wg 42 (by omega))
          simpa using this
        have := loop_same f g a b (by omega) (by omega) f.length 41 0 (by omega) (by omega) (by omega) (fun j _ h => he j (by omega))
        rw [hab] at this ⊢
        simpa using this
      · have hab : ¬ a = b := fun e => he (inj e)
        obtain ⟨j, hj, hne⟩ := not_all he
        have := loop_unlike f g a b (by omega) (by omega) f.length 41 0 (by omega) (by omega) (by omega) ⟨j, by omega, by omega, hne⟩
        rw [beq_eq_false_iff_ne.mpr hab] at this
        simpa using this
    · obtain ⟨v, wf, _⟩ := hword f pf.1 pf.2
      rw [wf 42 (by omega), Option.bind_some, hno g hlen2 pg, Option.bind_some, if_pos rfl]
      simp only [laws_FnApart.j2, Bool.not_false, if_true]
  · obtain ⟨r, hr⟩ := hall g hlen2
    rw [hno f hlen pf, Option.bind_some, hr, Option.bind_some, if_neg (by simp)]
    simp only [laws_FnApart.j2, if_true]
theorem both_AOP_RRR (f g : List Int) (hl : f.length = 3) (hall : ∀ j : Nat, j < 3 → 0 ≤ rd f (j : Int) ∧ rd f (j : Int) < 2 ^ sz_AOP_RRR j) (hl2 : g.length = 3) (hall2 : ∀ j : Nat, j < 3 → 0 ≤ rd g (j : Int) ∧ rd g (j : Int) < 2 ^ sz_AOP_RRR j) :
    ∃ a b, (∀ k, 20 ≤ k → spec_Word.f k (⟨#[65, 79, 80, 95, 82, 82, 82]⟩ : ByteArray) (⟨#[84, 65, 66]⟩ : ByteArray) 0 f = some (a, true)) ∧ (∀ k, 10 ≤ k → impl_Encode.f k (⟨#[65, 79, 80, 95, 82, 82, 82]⟩ : ByteArray) (0 :: f) = some (a, true)) ∧ (∀ k, 20 ≤ k → spec_Word.f k (⟨#[65, 79, 80, 95, 82, 82, 82]⟩ : ByteArray) (⟨#[84, 65, 66]⟩ : ByteArray) 0 g = some (b, true)) ∧ (∀ k, 10 ≤ k → impl_Encode.f k (⟨#[65, 79, 80, 95, 82, 82, 82]⟩ : ByteArray) (0 :: g) = some (b, true)) ∧ (a = b → ∀ j : Nat, j < 3 → rd f (j : Int) = rd g (j : Int)) := by
  match f, hl, g, hl2 with
  | [f0, f1, f2], _, [e0, e1, e2], _ =>
    have h0 : 0 ≤ f0 := (hall 0 (by decide)).1
    have g0 : f0 < 32 := (hall 0 (by decide)).2
    have h0' : 0 ≤ e0 := (hall2 0 (by decide)).1
    have g0' : e0 < 32 := (hall2 0 (by decide)).2
    have h1 : 0 ≤ f1 := (hall 1 (by decide)).1
    have g1 : f1 < 32 := (hall 1 (by decide)).2
    have h1' : 0 ≤ e1 := (hall2 1 (by decide)).1
    have g1' : e1 < 32 := (hall2 1 (by decide)).2
    have h2 : 0 ≤ f2 := (hall 2 (by decide)).1
    have g2 : f2 < 32 := (hall 2 (by decide)).2
    have h2' : 0 ≤ e2 := (hall2 2 (by decide)).1
    have g2' : e2 < 32 := (hall2 2 (by decide)).2
    refine ⟨_, _, fun k hk => ?_, Encode_AOP_RRR (by omega) (by omega) (by omega) (by omega) (by omega) (by omega) (by omega) (by omega) (leaf_AOP_RRR h0 g0 h1 g1 h2 g2), fun k hk => ?_, Encode_AOP_RRR (by omega) (by omega) (by omega) (by omega) (by omega) (by omega) (by omega) (by omega) (leaf_AOP_RRR h0' g0' h1' g1' h2' g2'), fun hw => ?_⟩
    · obtain ⟨m, rfl⟩ : ∃ m, k = m + 20 := ⟨k - 20, by omega⟩
      exact word_AOP_RRR m 0 h0 g0 h1 g1 h2 g2
    · obtain ⟨m, rfl⟩ : ∃ m, k = m + 20 := ⟨k - 20, by omega⟩
      exact word_AOP_RRR m 0 h0' g0' h1' g1' h2' g2'
    · obtain ⟨rfl, rfl, rfl⟩ := apart_AOP_RRR h0 g0 h1 g1 h2 g2 h0' g0' h1' g1' h2' g2' hw
      intro j _; rfl

theorem both_AOP_RR (f g : List Int) (hl : f.length = 2) (hall : ∀ j : Nat, j < 2 → 0 ≤ rd f (j : Int) ∧ rd f (j : Int) < 2 ^ sz_AOP_RR j) (hl2 : g.length = 2) (hall2 : ∀ j : Nat, j < 2 → 0 ≤ rd g (j : Int) ∧ rd g (j : Int) < 2 ^ sz_AOP_RR j) :
    ∃ a b, (∀ k, 20 ≤ k → spec_Word.f k (⟨#[65, 79, 80, 95, 82, 82]⟩ : ByteArray) (⟨#[84, 66]⟩ : ByteArray) 0 f = some (a, true)) ∧ (∀ k, 10 ≤ k → impl_Encode.f k (⟨#[65, 79, 80, 95, 82, 82]⟩ : ByteArray) (0 :: f) = some (a, true)) ∧ (∀ k, 20 ≤ k → spec_Word.f k (⟨#[65, 79, 80, 95, 82, 82]⟩ : ByteArray) (⟨#[84, 66]⟩ : ByteArray) 0 g = some (b, true)) ∧ (∀ k, 10 ≤ k → impl_Encode.f k (⟨#[65, 79, 80, 95, 82, 82]⟩ : ByteArray) (0 :: g) = some (b, true)) ∧ (a = b → ∀ j : Nat, j < 2 → rd f (j : Int) = rd g (j : Int)) := by
  match f, hl, g, hl2 with
  | [f0, f1], _, [e0, e1], _ =>
    have h0 : 0 ≤ f0 := (hall 0 (by decide)).1
    have g0 : f0 < 32 := (hall 0 (by decide)).2
    have h0' : 0 ≤ e0 := (hall2 0 (by decide)).1
    have g0' : e0 < 32 := (hall2 0 (by decide)).2
    have h1 : 0 ≤ f1 := (hall 1 (by decide)).1
    have g1 : f1 < 32 := (hall 1 (by decide)).2
    have h1' : 0 ≤ e1 := (hall2 1 (by decide)).1
    have g1' : e1 < 32 := (hall2 1 (by decide)).2
    refine ⟨_, _, fun k hk => ?_, Encode_AOP_RR (by omega) (by omega) (by omega) (by omega) (by omega) (by omega) (leaf_AOP_RR h0 g0 h1 g1), fun k hk => ?_, Encode_AOP_RR (by omega) (by omega) (by omega) (by omega) (by omega) (by omega) (leaf_AOP_RR h0' g0' h1' g1'), fun hw => ?_⟩
    · obtain ⟨m, rfl⟩ : ∃ m, k = m + 20 := ⟨k - 20, by omega⟩
      exact word_AOP_RR m 0 h0 g0 h1 g1
    · obtain ⟨m, rfl⟩ : ∃ m, k = m + 20 := ⟨k - 20, by omega⟩
      exact word_AOP_RR m 0 h0' g0' h1' g1'
    · obtain ⟨rfl, rfl⟩ := apart_AOP_RR h0 g0 h1 g1 h0' g0' h1' g1' hw
      intro j _; rfl

theorem both_AOP_RRRR (f g : List Int) (hl : f.length = 4) (hall : ∀ j : Nat, j < 4 → 0 ≤ rd f (j : Int) ∧ rd f (j : Int) < 2 ^ sz_AOP_RRRR j) (hl2 : g.length = 4) (hall2 : ∀ j : Nat, j < 4 → 0 ≤ rd g (j : Int) ∧ rd g (j : Int) < 2 ^ sz_AOP_RRRR j) :
    ∃ a b, (∀ k, 20 ≤ k → spec_Word.f k (⟨#[65, 79, 80, 95, 82, 82, 82, 82]⟩ : ByteArray) (⟨#[84, 65, 66, 89]⟩ : ByteArray) 0 f = some (a, true)) ∧ (∀ k, 10 ≤ k → impl_Encode.f k (⟨#[65, 79, 80, 95, 82, 82, 82, 82]⟩ : ByteArray) (0 :: f) = some (a, true)) ∧ (∀ k, 20 ≤ k → spec_Word.f k (⟨#[65, 79, 80, 95, 82, 82, 82, 82]⟩ : ByteArray) (⟨#[84, 65, 66, 89]⟩ : ByteArray) 0 g = some (b, true)) ∧ (∀ k, 10 ≤ k → impl_Encode.f k (⟨#[65, 79, 80, 95, 82, 82, 82, 82]⟩ : ByteArray) (0 :: g) = some (b, true)) ∧ (a = b → ∀ j : Nat, j < 4 → rd f (j : Int) = rd g (j : Int)) := by
  match f, hl, g, hl2 with
  | [f0, f1, f2, f3], _, [e0, e1, e2, e3], _ =>
    have h0 : 0 ≤ f0 := (hall 0 (by decide)).1
    have g0 : f0 < 32 := (hall 0 (by decide)).2
    have h0' : 0 ≤ e0 := (hall2 0 (by decide)).1
    have g0' : e0 < 32 := (hall2 0 (by decide)).2
    have h1 : 0 ≤ f1 := (hall 1 (by decide)).1
    have g1 : f1 < 32 := (hall 1 (by decide)).2
    have h1' : 0 ≤ e1 := (hall2 1 (by decide)).1
    have g1' : e1 < 32 := (hall2 1 (by decide)).2
    have h2 : 0 ≤ f2 := (hall 2 (by decide)).1
    have g2 : f2 < 32 := (hall 2 (by decide)).2
    have h2' : 0 ≤ e2 := (hall2 2 (by decide)).1
    have g2' : e2 < 32 := (hall2 2 (by decide)).2
    have h3 : 0 ≤ f3 := (hall 3 (by decide)).1
    have g3 : f3 < 32 := (hall 3 (by decide)).2
    have h3' : 0 ≤ e3 := (hall2 3 (by decide)).1
    have g3' : e3 < 32 := (hall2 3 (by decide)).2
    refine ⟨_, _, fun k hk => ?_, Encode_AOP_RRRR (by omega) (by omega) (by omega) (by omega) (by omega) (by omega) (by omega) (by omega) (by omega) (by omega) (leaf_AOP_RRRR h0 g0 h1 g1 h2 g2 h3 g3), fun k hk => ?_, Encode_AOP_RRRR (by omega) (by omega) (by omega) (by omega) (by omega) (by omega) (by omega) (by omega) (by omega) (by omega) (leaf_AOP_RRRR h0' g0' h1' g1' h2' g2' h3' g3'), fun hw => ?_⟩
    · obtain ⟨m, rfl⟩ : ∃ m, k = m + 20 := ⟨k - 20, by omega⟩
      exact word_AOP_RRRR m 0 h0 g0 h1 g1 h2 g2 h3 g3
    · obtain ⟨m, rfl⟩ : ∃ m, k = m + 20 := ⟨k - 20, by omega⟩
      exact word_AOP_RRRR m 0 h0' g0' h1' g1' h2' g2' h3' g3'
    · obtain ⟨rfl, rfl, rfl, rfl⟩ := apart_AOP_RRRR h0 g0 h1 g1 h2 g2 h3 g3 h0' g0' h1' g1' h2' g2' h3' g3' hw
      intro j _; rfl

theorem both_AOP_IRR (f g : List Int) (hl : f.length = 3) (hall : ∀ j : Nat, j < 3 → 0 ≤ rd f (j : Int) ∧ rd f (j : Int) < 2 ^ sz_AOP_IRR j) (hl2 : g.length = 3) (hall2 : ∀ j : Nat, j < 3 → 0 ≤ rd g (j : Int) ∧ rd g (j : Int) < 2 ^ sz_AOP_IRR j) :
    ∃ a b, (∀ k, 20 ≤ k → spec_Word.f k (⟨#[65, 79, 80, 95, 73, 82, 82]⟩ : ByteArray) (⟨#[84, 65, 117]⟩ : ByteArray) 0 f = some (a, true)) ∧ (∀ k, 10 ≤ k → impl_Encode.f k (⟨#[65, 79, 80, 95, 73, 82, 82]⟩ : ByteArray) (0 :: f) = some (a, true)) ∧ (∀ k, 20 ≤ k → spec_Word.f k (⟨#[65, 79, 80, 95, 73, 82, 82]⟩ : ByteArray) (⟨#[84, 65, 117]⟩ : ByteArray) 0 g = some (b, true)) ∧ (∀ k, 10 ≤ k → impl_Encode.f k (⟨#[65, 79, 80, 95, 73, 82, 82]⟩ : ByteArray) (0 :: g) = some (b, true)) ∧ (a = b → ∀ j : Nat, j < 3 → rd f (j : Int) = rd g (j : Int)) := by
  match f, hl, g, hl2 with
  | [f0, f1, f2], _, [e0, e1, e2], _ =>
    have h0 : 0 ≤ f0 := (hall 0 (by decide)).1
    have g0 : f0 < 32 := (hall 0 (by decide)).2
    have h0' : 0 ≤ e0 := (hall2 0 (by decide)).1
    have g0' : e0 < 32 := (hall2 0 (by decide)).2
    have h1 : 0 ≤ f1 := (hall 1 (by decide)).1
    have g1 : f1 < 32 := (hall 1 (by decide)).2
    have h1' : 0 ≤ e1 := (hall2 1 (by decide)).1
    have g1' : e1 < 32 := (hall2 1 (by decide)).2
    have h2 : 0 ≤ f2 := (hall 2 (by decide)).1
    have g2 : f2 < 65536 := (hall 2 (by decide)).2
    have h2' : 0 ≤ e2 := (hall2 2 (by decide)).1
    have g2' : e2 < 65536 := (hall2 2 (by decide)).2
    refine ⟨_, _, fun k hk => ?_, Encode_AOP_IRR (by omega) (by omega) (by omega) (by omega) (by omega) (by omega) (by omega) (by omega) (leaf_AOP_IRR h0 g0 h1 g1 h2 g2), fun k hk => ?_, Encode_AOP_IRR (by omega) (by omega) (by omega) (by omega) (by omega) (by omega) (by omega) (by omega) (leaf_AOP_IRR h0' g0' h1' g1' h2' g2'), fun hw => ?_⟩
    · obtain ⟨m, rfl⟩ : ∃ m, k = m + 20 := ⟨k - 20, by omega⟩
      exact word_AOP_IRR m 0 h0 g0 h1 g1 h2 g2
    · obtain ⟨m, rfl⟩ : ∃ m, k = m + 20 := ⟨k - 20, by omega⟩
      exact word_AOP_IRR m 0 h0' g0' h1' g1' h2' g2'
    · obtain ⟨rfl, rfl, rfl⟩ := apart_AOP_IRR h0 g0 h1 g1 h2 g2 h0' g0' h1' g1' h2' g2' hw
      intro j _; rfl

theorem both_AOP_VIRR (f g : List Int) (hl : f.length = 3) (hall : ∀ j : Nat, j < 3 → 0 ≤ rd f (j : Int) ∧ rd f (j : Int) < 2 ^ sz_AOP_VIRR j) (hl2 : g.length = 3) (hall2 : ∀ j : Nat, j < 3 → 0 ≤ rd g (j : Int) ∧ rd g (j : Int) < 2 ^ sz_AOP_VIRR j) :
    ∃ a b, (∀ k, 20 ≤ k → spec_Word.f k (⟨#[65, 79, 80, 95, 86, 73, 82, 82]⟩ : ByteArray) (⟨#[84, 66, 85]⟩ : ByteArray) 0 f = some (a, true)) ∧ (∀ k, 10 ≤ k → impl_Encode.f k (⟨#[65, 79, 80, 95, 86, 73, 82, 82]⟩ : ByteArray) (0 :: f) = some (a, true)) ∧ (∀ k, 20 ≤ k → spec_Word.f k (⟨#[65, 79, 80, 95, 86, 73, 82, 82]⟩ : ByteArray) (⟨#[84, 66, 85]⟩ : ByteArray) 0 g = some (b, true)) ∧ (∀ k, 10 ≤ k → impl_Encode.f k (⟨#[65, 79, 80, 95, 86, 73, 82, 82]⟩ : ByteArray) (0 :: g) = some (b, true)) ∧ (a = b → ∀ j : Nat, j < 3 → rd f (j : Int) = rd g (j : Int)) := by
  match f, hl, g, hl2 with
  | [f0, f1, f2], _, [e0, e1, e2], _ =>
    have h0 : 0 ≤ f0 := (hall 0 (by decide)).1
    have g0 : f0 < 32 := (hall 0 (by decide)).2
    have h0' : 0 ≤ e0 := (hall2 0 (by decide)).1
    have g0' : e0 < 32 := (hall2 0 (by decide)).2
    have h1 : 0 ≤ f1 := (hall 1 (by decide)).1
    have g1 : f1 < 32 := (hall 1 (by decide)).2
    have h1' : 0 ≤ e1 := (hall2 1 (by decide)).1
    have g1' : e1 < 32 := (hall2 1 (by decide)).2
    have h2 : 0 ≤ f2 := (hall 2 (by decide)).1
    have g2 : f2 < 32 := (hall 2 (by decide)).2
    have h2' : 0 ≤ e2 := (hall2 2 (by decide)).1
    have g2' : e2 < 32 := (hall2 2 (by decide)).2
    refine ⟨_, _, fun k hk => ?_, Encode_AOP_VIRR (by omega) (by omega) (by omega) (by omega) (by omega) (by omega) (by omega) (by omega) (leaf_AOP_VIRR h0 g0 h1 g1 h2 g2), fun k hk => ?_, Encode_AOP_VIRR (by omega) (by omega) (by omega) (by omega) (by omega) (by omega) (by omega) (by omega) (leaf_AOP_VIRR h0' g0' h1' g1' h2' g2'), fun hw => ?_⟩
    · obtain ⟨m, rfl⟩ : ∃ m, k = m + 20 := ⟨k - 20, by omega⟩
      exact word_AOP_VIRR m 0 h0 g0 h1 g1 h2 g2
    · obtain ⟨m, rfl⟩ : ∃ m, k = m + 20 := ⟨k - 20, by omega⟩
      exact word_AOP_VIRR m 0 h0' g0' h1' g1' h2' g2'
    · obtain ⟨rfl, rfl, rfl⟩ := apart_AOP_VIRR h0 g0 h1 g1 h2 g2 h0' g0' h1' g1' h2' g2' hw
      intro j _; rfl

theorem both_AOP_IIRR (f g : List Int) (hl : f.length = 4) (hall : ∀ j : Nat, j < 4 → 0 ≤ rd f (j : Int) ∧ rd f (j : Int) < 2 ^ sz_AOP_IIRR j) (hl2 : g.length = 4) (hall2 : ∀ j : Nat, j < 4 → 0 ≤ rd g (j : Int) ∧ rd g (j : Int) < 2 ^ sz_AOP_IIRR j) :
    ∃ a b, (∀ k, 20 ≤ k → spec_Word.f k (⟨#[65, 79, 80, 95, 73, 73, 82, 82]⟩ : ByteArray) (⟨#[84, 65, 82, 81]⟩ : ByteArray) 0 f = some (a, true)) ∧ (∀ k, 10 ≤ k → impl_Encode.f k (⟨#[65, 79, 80, 95, 73, 73, 82, 82]⟩ : ByteArray) (0 :: f) = some (a, true)) ∧ (∀ k, 20 ≤ k → spec_Word.f k (⟨#[65, 79, 80, 95, 73, 73, 82, 82]⟩ : ByteArray) (⟨#[84, 65, 82, 81]⟩ : ByteArray) 0 g = some (b, true)) ∧ (∀ k, 10 ≤ k → impl_Encode.f k (⟨#[65, 79, 80, 95, 73, 73, 82, 82]⟩ : ByteArray) (0 :: g) = some (b, true)) ∧ (a = b → ∀ j : Nat, j < 4 → rd f (j : Int) = rd g (j : Int)) := by
  match f, hl, g, hl2 with
  | [f0, f1, f2, f3], _, [e0, e1, e2, e3], _ =>
    have h0 : 0 ≤ f0 := (hall 0 (by decide)).1
    have g0 : f0 < 32 := (hall 0 (by decide)).2
    have h0' : 0 ≤ e0 := (hall2 0 (by decide)).1
    have g0' : e0 < 32 := (hall2 0 (by decide)).2
    have h1 : 0 ≤ f1 := (hall 1 (by decide)).1
    have g1 : f1 < 32 := (hall 1 (by decide)).2
    have h1' : 0 ≤ e1 := (hall2 1 (by decide)).1
    have g1' : e1 < 32 := (hall2 1 (by decide)).2
    have h2 : 0 ≤ f2 := (hall 2 (by decide)).1
    have g2 : f2 < 2 := (hall 2 (by decide)).2
    have h2' : 0 ≤ e2 := (hall2 2 (by decide)).1
    have g2' : e2 < 2 := (hall2 2 (by decide)).2
    have h3 : 0 ≤ f3 := (hall 3 (by decide)).1
    have g3 : f3 < 16 := (hall 3 (by decide)).2
    have h3' : 0 ≤ e3 := (hall2 3 (by decide)).1
    have g3' : e3 < 16 := (hall2 3 (by decide)).2
    refine ⟨_, _, fun k hk => ?_, Encode_AOP_IIRR (by omega) (by omega) (by omega) (by omega) (by omega) (by omega) (by omega) (by omega) (by omega) (by omega) (leaf_AOP_IIRR h0 g0 h1 g1 h2 g2 h3 g3), fun k hk => ?_, Encode_AOP_IIRR (by omega) (by omega) (by omega) (by omega) (by omega) (by omega) (by omega) (by omega) (by omega) (by omega) (leaf_AOP_IIRR h0' g0' h1' g1' h2' g2' h3' g3'), fun hw => ?_⟩
    · obtain ⟨m, rfl⟩ : ∃ m, k = m + 20 := ⟨k - 20, by omega⟩
      exact word_AOP_IIRR m 0 h0 g0 h1 g1 h2 g2 h3 g3
    · obtain ⟨m, rfl⟩ : ∃ m, k = m + 20 := ⟨k - 20, by omega⟩
      exact word_AOP_IIRR m 0 h0' g0' h1' g1' h2' g2' h3' g3'
    · obtain ⟨rfl, rfl, rfl, rfl⟩ := apart_AOP_IIRR h0 g0 h1 g1 h2 g2 h3 g3 h0' g0' h1' g1' h2' g2' h3' g3' hw
      intro j _; rfl

theorem both_AOP_IRRR (f g : List Int) (hl : f.length = 4) (hall : ∀ j : Nat, j < 4 → 0 ≤ rd f (j : Int) ∧ rd f (j : Int) < 2 ^ sz_AOP_IRRR j) (hl2 : g.length = 4) (hall2 : ∀ j : Nat, j < 4 → 0 ≤ rd g (j : Int) ∧ rd g (j : Int) < 2 ^ sz_AOP_IRRR j) :
    ∃ a b, (∀ k, 20 ≤ k → spec_Word.f k (⟨#[65, 79, 80, 95, 73, 82, 82, 82]⟩ : ByteArray) (⟨#[84, 65, 66, 90]⟩ : ByteArray) 0 f = some (a, true)) ∧ (∀ k, 10 ≤ k → impl_Encode.f k (⟨#[65, 79, 80, 95, 73, 82, 82, 82]⟩ : ByteArray) (0 :: f) = some (a, true)) ∧ (∀ k, 20 ≤ k → spec_Word.f k (⟨#[65, 79, 80, 95, 73, 82, 82, 82]⟩ : ByteArray) (⟨#[84, 65, 66, 90]⟩ : ByteArray) 0 g = some (b, true)) ∧ (∀ k, 10 ≤ k → impl_Encode.f k (⟨#[65, 79, 80, 95, 73, 82, 82, 82]⟩ : ByteArray) (0 :: g) = some (b, true)) ∧ (a = b → ∀ j : Nat, j < 4 → rd f (j : Int) = rd g (j : Int)) := by
  match f, hl, g, hl2 with
  | [f0, f1, f2, f3], _, [e0, e1, e2, e3], _ =>
    have h0 : 0 ≤ f0 := (hall 0 (by decide)).1
    have g0 : f0 < 32 := (hall 0 (by decide)).2
    have h0' : 0 ≤ e0 := (hall2 0 (by decide)).1
    have g0' : e0 < 32 := (hall2 0 (by decide)).2
    have h1 : 0 ≤ f1 := (hall 1 (by decide)).1
    have g1 : f1 < 32 := (hall 1 (by decide)).2
    have h1' : 0 ≤ e1 := (hall2 1 (by decide)).1
    have g1' : e1 < 32 := (hall2 1 (by decide)).2
    have h2 : 0 ≤ f2 := (hall 2 (by decide)).1
    have g2 : f2 < 32 := (hall 2 (by decide)).2
    have h2' : 0 ≤ e2 := (hall2 2 (by decide)).1
    have g2' : e2 < 32 := (hall2 2 (by decide)).2
    have h3 : 0 ≤ f3 := (hall 3 (by decide)).1
    have g3 : f3 < 16 := (hall 3 (by decide)).2
    have h3' : 0 ≤ e3 := (hall2 3 (by decide)).1
    have g3' : e3 < 16 := (hall2 3 (by decide)).2
    refine ⟨_, _, fun k hk => ?_, Encode_AOP_IRRR (by omega) (by omega) (by omega) (by omega) (by omega) (by omega) (by omega) (by omega) (by omega) (by omega) (leaf_AOP_IRRR h0 g0 h1 g1 h2 g2 h3 g3), fun k hk => ?_, Encode_AOP_IRRR (by omega) (by omega) (by omega) (by omega) (by omega) (by omega) (by omega) (by omega) (by omega) (by omega) (leaf_AOP_IRRR h0' g0' h1' g1' h2' g2' h3' g3'), fun hw => ?_⟩
    · obtain ⟨m, rfl⟩ : ∃ m, k = m + 20 := ⟨k - 20, by omega⟩
      exact word_AOP_IRRR m 0 h0 g0 h1 g1 h2 g2 h3 g3
    · obtain ⟨m, rfl⟩ : ∃ m, k = m + 20 := ⟨k - 20, by omega⟩
      exact word_AOP_IRRR m 0 h0' g0' h1' g1' h2' g2' h3' g3'
    · obtain ⟨rfl, rfl, rfl, rfl⟩ := apart_AOP_IRRR h0 g0 h1 g1 h2 g2 h3 g3 h0' g0' h1' g1' h2' g2' h3' g3' hw
      intro j _; rfl

theorem both_AOP_IR (f g : List Int) (hl : f.length = 2) (hall : ∀ j : Nat, j < 2 → 0 ≤ rd f (j : Int) ∧ rd f (j : Int) < 2 ^ sz_AOP_IR j) (hl2 : g.length = 2) (hall2 : ∀ j : Nat, j < 2 → 0 ≤ rd g (j : Int) ∧ rd g (j : Int) < 2 ^ sz_AOP_IR j) :
    ∃ a b, (∀ k, 20 ≤ k → spec_Word.f k (⟨#[65, 79, 80, 95, 73, 82]⟩ : ByteArray) (⟨#[84, 85]⟩ : ByteArray) 0 f = some (a, true)) ∧ (∀ k, 10 ≤ k → impl_Encode.f k (⟨#[65, 79, 80, 95, 73, 82]⟩ : ByteArray) (0 :: f) = some (a, true)) ∧ (∀ k, 20 ≤ k → spec_Word.f k (⟨#[65, 79, 80, 95, 73, 82]⟩ : ByteArray) (⟨#[84, 85]⟩ : ByteArray) 0 g = some (b, true)) ∧ (∀ k, 10 ≤ k → impl_Encode.f k (⟨#[65, 79, 80, 95, 73, 82]⟩ : ByteArray) (0 :: g) = some (b, true)) ∧ (a = b → ∀ j : Nat, j < 2 → rd f (j : Int) = rd g (j : Int)) := by
  match f, hl, g, hl2 with
  | [f0, f1], _, [e0, e1], _ =>
    have h0 : 0 ≤ f0 := (hall 0 (by decide)).1
    have g0 : f0 < 32 := (hall 0 (by decide)).2
    have h0' : 0 ≤ e0 := (hall2 0 (by decide)).1
    have g0' : e0 < 32 := (hall2 0 (by decide)).2
    have h1 : 0 ≤ f1 := (hall 1 (by decide)).1
    have g1 : f1 < 32 := (hall 1 (by decide)).2
    have h1' : 0 ≤ e1 := (hall2 1 (by decide)).1
    have g1' : e1 < 32 := (hall2 1 (by decide)).2
    refine ⟨_, _, fun k hk => ?_, Encode_AOP_IR (by omega) (by omega) (by omega) (by omega) (by omega) (by omega) (leaf_AOP_IR h0 g0 h1 g1), fun k hk => ?_, Encode_AOP_IR (by omega) (by omega) (by omega) (by omega) (by omega) (by omega) (leaf_AOP_IR h0' g0' h1' g1'), fun hw => ?_⟩
    · obtain ⟨m, rfl⟩ : ∃ m, k = m + 20 := ⟨k - 20, by omega⟩
      exact word_AOP_IR m 0 h0 g0 h1 g1
    · obtain ⟨m, rfl⟩ : ∃ m, k = m + 20 := ⟨k - 20, by omega⟩
      exact word_AOP_IR m 0 h0' g0' h1' g1'
    · obtain ⟨rfl, rfl⟩ := apart_AOP_IR h0 g0 h1 g1 h0' g0' h1' g1' hw
      intro j _; rfl

theorem both_AOP_XX1 (f g : List Int) (hl : f.length = 3) (hall : ∀ j : Nat, j < 3 → 0 ≤ rd f (j : Int) ∧ rd f (j : Int) < 2 ^ sz_AOP_XX1 j) (hl2 : g.length = 3) (hall2 : ∀ j : Nat, j < 3 → 0 ≤ rd g (j : Int) ∧ rd g (j : Int) < 2 ^ sz_AOP_XX1 j) :
    ∃ a b, (∀ k, 20 ≤ k → spec_Word.f k (⟨#[65, 79, 80, 95, 88, 88, 49]⟩ : ByteArray) (⟨#[105, 65, 66]⟩ : ByteArray) 0 f = some (a, true)) ∧ (∀ k, 10 ≤ k → impl_Encode.f k (⟨#[65, 79, 80, 95, 88, 88, 49]⟩ : ByteArray) (0 :: f) = some (a, true)) ∧ (∀ k, 20 ≤ k → spec_Word.f k (⟨#[65, 79, 80, 95, 88, 88, 49]⟩ : ByteArray) (⟨#[105, 65, 66]⟩ : ByteArray) 0 g = some (b, true)) ∧ (∀ k, 10 ≤ k → impl_Encode.f k (⟨#[65, 79, 80, 95, 88, 88, 49]⟩ : ByteArray) (0 :: g) = some (b, true)) ∧ (a = b → ∀ j : Nat, j < 3 → rd f (j : Int) = rd g (j : Int)) := by
  match f, hl, g, hl2 with
  | [f0, f1, f2], _, [e0, e1, e2], _ =>
    have h0 : 0 ≤ f0 := (hall 0 (by decide)).1
    have g0 : f0 < 64 := (hall 0 (by decide)).2
    have h0' : 0 ≤ e0 := (hall2 0 (by decide)).1
    have g0' : e0 < 64 := (hall2 0 (by decide)).2
    have h1 : 0 ≤ f1 := (hall 1 (by decide)).1
    have g1 : f1 < 32 := (hall 1 (by decide)).2
    have h1' : 0 ≤ e1 := (hall2 1 (by decide)).1
    have g1' : e1 < 32 := (hall2 1 (by decide)).2
    have h2 : 0 ≤ f2 := (hall 2 (by decide)).1
    have g2 : f2 < 32 := (hall 2 (by decide)).2
    have h2' : 0 ≤ e2 := (hall2 2 (by decide)).1
    have g2' : e2 < 32 := (hall2 2 (by decide)).2
    refine ⟨_, _, fun k hk => ?_, Encode_AOP_XX1 (by omega) (by omega) (by omega) (by omega) (by omega) (by omega) (by omega) (by omega) (leaf_AOP_XX1 h0 g0 h1 g1 h2 g2), fun k hk => ?_, Encode_AOP_XX1 (by omega) (by omega) (by omega) (by omega) (by omega) (by omega) (by omega) (by omega) (leaf_AOP_XX1 h0' g0' h1' g1' h2' g2'), fun hw => ?_⟩
    · obtain ⟨m, rfl⟩ : ∃ m, k = m + 20 := ⟨k - 20, by omega⟩
      exact word_AOP_XX1 m 0 h0 g0 h1 g1 h2 g2
    · obtain ⟨m, rfl⟩ : ∃ m, k = m + 20 := ⟨k - 20, by omega⟩
      exact word_AOP_XX1 m 0 h0' g0' h1' g1' h2' g2'
    · obtain ⟨rfl, rfl, rfl⟩ := apart_AOP_XX1 h0 g0 h1 g1 h2 g2 h0' g0' h1' g1' h2' g2' hw
      intro j _; rfl

theorem both_AOP_XX2 (f g : List Int) (hl : f.length = 3) (hall : ∀ j : Nat, j < 3 → 0 ≤ rd f (j : Int) ∧ rd f (j : Int) < 2 ^ sz_AOP_XX2 j) (hl2 : g.length = 3) (hall2 : ∀ j : Nat, j < 3 → 0 ≤ rd g (j : Int) ∧ rd g (j : Int) < 2 ^ sz_AOP_XX2 j) :
    ∃ a b, (∀ k, 20 ≤ k → spec_Word.f k (⟨#[65, 79, 80, 95, 88, 88, 50]⟩ : ByteArray) (⟨#[105, 78, 107]⟩ : ByteArray) 0 f = some (a, true)) ∧ (∀ k, 10 ≤ k → impl_Encode.f k (⟨#[65, 79, 80, 95, 88, 88, 50]⟩ : ByteArray) (0 :: f) = some (a, true)) ∧ (∀ k, 20 ≤ k → spec_Word.f k (⟨#[65, 79, 80, 95, 88, 88, 50]⟩ : ByteArray) (⟨#[105, 78, 107]⟩ : ByteArray) 0 g = some (b, true)) ∧ (∀ k, 10 ≤ k → impl_Encode.f k (⟨#[65, 79, 80, 95, 88, 88, 50]⟩ : ByteArray) (0 :: g) = some (b, true)) ∧ (a = b → ∀ j : Nat, j < 3 → rd f (j : Int) = rd g (j : Int)) := by
  match f, hl, g, hl2 with
  | [f0, f1, f2], _, [e0, e1, e2], _ =>
    have h0 : 0 ≤ f0 := (hall 0 (by decide)).1
    have g0 : f0 < 64 := (hall 0 (by decide)).2
    have h0' : 0 ≤ e0 := (hall2 0 (by decide)).1
    have g0' : e0 < 64 := (hall2 0 (by decide)).2
    have h1 : 0 ≤ f1 := (hall 1 (by decide)).1
    have g1 : f1 < 4 := (hall 1 (by decide)).2
    have h1' : 0 ≤ e1 := (hall2 1 (by decide)).1
    have g1' : e1 < 4 := (hall2 1 (by decide)).2
    have h2 : 0 ≤ f2 := (hall 2 (by decide)).1
    have g2 : f2 < 64 := (hall 2 (by decide)).2
    have h2' : 0 ≤ e2 := (hall2 2 (by decide)).1
    have g2' : e2 < 64 := (hall2 2 (by decide)).2
    refine ⟨_, _, fun k hk => ?_, Encode_AOP_XX2 (by omega) (by omega) (by omega) (by omega) (by omega) (by omega) (by omega) (by omega) (leaf_AOP_XX2 h0 g0 h1 g1 h2 g2), fun k hk => ?_, Encode_AOP_XX2 (by omega) (by omega) (by omega) (by omega) (by omega) (by omega) (by omega) (by omega) (leaf_AOP_XX2 h0' g0' h1' g1' h2' g2'), fun hw => ?_⟩
    · obtain ⟨m, rfl⟩ : ∃ m, k = m + 20 := ⟨k - 20, by omega⟩
      exact word_AOP_XX2 m 0 h0 g0 h1 g1 h2 g2
    · obtain ⟨m, rfl⟩ : ∃ m, k = m + 20 := ⟨k - 20, by omega⟩
      exact word_AOP_XX2 m 0 h0' g0' h1' g1' h2' g2'
    · obtain ⟨rfl, rfl, rfl⟩ := apart_AOP_XX2 h0 g0 h1 g1 h2 g2 h0' g0' h1' g1' h2' g2' hw
      intro j _; rfl

theorem both_AOP_XX3 (f g : List Int) (hl : f.length = 3) (hall : ∀ j : Nat, j < 3 → 0 ≤ rd f (j : Int) ∧ rd f (j : Int) < 2 ^ sz_AOP_XX3 j) (hl2 : g.length = 3) (hall2 : ∀ j : Nat, j < 3 → 0 ≤ rd g (j : Int) ∧ rd g (j : Int) < 2 ^ sz_AOP_XX3 j) :
    ∃ a b, (∀ k, 20 ≤ k → spec_Word.f k (⟨#[65, 79, 80, 95, 88, 88, 51]⟩ : ByteArray) (⟨#[105, 106, 107]⟩ : ByteArray) 0 f = some (a, true)) ∧ (∀ k, 10 ≤ k → impl_Encode.f k (⟨#[65, 79, 80, 95, 88, 88, 51]⟩ : ByteArray) (0 :: f) = some (a, true)) ∧ (∀ k, 20 ≤ k → spec_Word.f k (⟨#[65, 79, 80, 95, 88, 88, 51]⟩ : ByteArray) (⟨#[105, 106, 107]⟩ : ByteArray) 0 g = some (b, true)) ∧ (∀ k, 10 ≤ k → impl_Encode.f k (⟨#[65, 79, 80, 95, 88, 88, 51]⟩ : ByteArray) (0 :: g) = some (b, true)) ∧ (a = b → ∀ j : Nat, j < 3 → rd f (j : Int) = rd g (j : Int)) := by
  match f, hl, g, hl2 with
  | [f0, f1, f2], _, [e0, e1, e2], _ =>
    have h0 : 0 ≤ f0 := (hall 0 (by decide)).1
    have g0 : f0 < 64 := (hall 0 (by decide)).2
    have h0' : 0 ≤ e0 := (hall2 0 (by decide)).1
    have g0' : e0 < 64 := (hall2 0 (by decide)).2
    have h1 : 0 ≤ f1 := (hall 1 (by decide)).1
    have g1 : f1 < 64 := (hall 1 (by decide)).2
    have h1' : 0 ≤ e1 := (hall2 1 (by decide)).1
    have g1' : e1 < 64 := (hall2 1 (by decide)).2
    have h2 : 0 ≤ f2 := (hall 2 (by decide)).1
    have g2 : f2 < 64 := (hall 2 (by decide)).2
    have h2' : 0 ≤ e2 := (hall2 2 (by decide)).1
    have g2' : e2 < 64 := (hall2 2 (by decide)).2
    refine ⟨_, _, fun k hk => ?_, Encode_AOP_XX3 (by omega) (by omega) (by omega) (by omega) (by omega) (by omega) (by omega) (by omega) (leaf_AOP_XX3 h0 g0 h1 g1 h2 g2), fun k hk => ?_, Encode_AOP_XX3 (by omega) (by omega) (by omega) (by omega) (by omega) (by omega) (by omega) (by omega) (leaf_AOP_XX3 h0' g0' h1' g1' h2' g2'), fun hw => ?_⟩
    · obtain ⟨m, rfl⟩ : ∃ m, k = m + 20 := ⟨k - 20, by omega⟩
      exact word_AOP_XX3 m 0 h0 g0 h1 g1 h2 g2
    · obtain ⟨m, rfl⟩ : ∃ m, k = m + 20 := ⟨k - 20, by omega⟩
      exact word_AOP_XX3 m 0 h0' g0' h1' g1' h2' g2'
    · obtain ⟨rfl, rfl, rfl⟩ := apart_AOP_XX3 h0 g0 h1 g1 h2 g2 h0' g0' h1' g1' h2' g2' hw
      intro j _; rfl

theorem both_AOP_XX3I (f g : List Int) (hl : f.length = 4) (hall : ∀ j : Nat, j < 4 → 0 ≤ rd f (j : Int) ∧ rd f (j : Int) < 2 ^ sz_AOP_XX3I j) (hl2 : g.length = 4) (hall2 : ∀ j : Nat, j < 4 → 0 ≤ rd g (j : Int) ∧ rd g (j : Int) < 2 ^ sz_AOP_XX3I j) :
    ∃ a b, (∀ k, 20 ≤ k → spec_Word.f k (⟨#[65, 79, 80, 95, 88, 88, 51, 73]⟩ : ByteArray) (⟨#[105, 106, 107, 110]⟩ : ByteArray) 0 f = some (a, true)) ∧ (∀ k, 10 ≤ k → impl_Encode.f k (⟨#[65, 79, 80, 95, 88, 88, 51, 73]⟩ : ByteArray) (0 :: f) = some (a, true)) ∧ (∀ k, 20 ≤ k → spec_Word.f k (⟨#[65, 79, 80, 95, 88, 88, 51, 73]⟩ : ByteArray) (⟨#[105, 106, 107, 110]⟩ : ByteArray) 0 g = some (b, true)) ∧ (∀ k, 10 ≤ k → impl_Encode.f k (⟨#[65, 79, 80, 95, 88, 88, 51, 73]⟩ : ByteArray) (0 :: g) = some (b, true)) ∧ (a = b → ∀ j : Nat, j < 4 → rd f (j : Int) = rd g (j : Int)) := by
  match f, hl, g, hl2 with
  | [f0, f1, f2, f3], _, [e0, e1, e2, e3], _ =>
    have h0 : 0 ≤ f0 := (hall 0 (by decide)).1
    have g0 : f0 < 64 := (hall 0 (by decide)).2
    have h0' : 0 ≤ e0 := (hall2 0 (by decide)).1
    have g0' : e0 < 64 := (hall2 0 (by decide)).2
    have h1 : 0 ≤ f1 := (hall 1 (by decide)).1
    have g1 : f1 < 64 := (hall 1 (by decide)).2
    have h1' : 0 ≤ e1 := (hall2 1 (by decide)).1
    have g1' : e1 < 64 := (hall2 1 (by decide)).2
    have h2 : 0 ≤ f2 := (hall 2 (by decide)).1
    have g2 : f2 < 64 := (hall 2 (by decide)).2
    have h2' : 0 ≤ e2 := (hall2 2 (by decide)).1
    have g2' : e2 < 64 := (hall2 2 (by decide)).2
    have h3 : 0 ≤ f3 := (hall 3 (by decide)).1
    have g3 : f3 < 4 := (hall 3 (by decide)).2
    have h3' : 0 ≤ e3 := (hall2 3 (by decide)).1
    have g3' : e3 < 4 := (hall2 3 (by decide)).2
    refine ⟨_, _, fun k hk => ?_, Encode_AOP_XX3I (by omega) (by omega) (by omega) (by omega) (by omega) (by omega) (by omega) (by omega) (by omega) (by omega) (leaf_AOP_XX3I h0 g0 h1 g1 h2 g2 h3 g3), fun k hk => ?_, Encode_AOP_XX3I (by omega) (by omega) (by omega) (by omega) (by omega) (by omega) (by omega) (by omega) (by omega) (by omega) (leaf_AOP_XX3I h0' g0' h1' g1' h2' g2' h3' g3'), fun hw => ?_⟩
    · obtain ⟨m, rfl⟩ : ∃ m, k = m + 20 := ⟨k - 20, by omega⟩
      exact word_AOP_XX3I m 0 h0 g0 h1 g1 h2 g2 h3 g3
    · obtain ⟨m, rfl⟩ : ∃ m, k = m + 20 := ⟨k - 20, by omega⟩
      exact word_AOP_XX3I m 0 h0' g0' h1' g1' h2' g2' h3' g3'
    · obtain ⟨rfl, rfl, rfl, rfl⟩ := apart_AOP_XX3I h0 g0 h1 g1 h2 g2 h3 g3 h0' g0' h1' g1' h2' g2' h3' g3' hw
      intro j _; rfl

theorem both_AOP_XX4 (f g : List Int) (hl : f.length = 4) (hall : ∀ j : Nat, j < 4 → 0 ≤ rd f (j : Int) ∧ rd f (j : Int) < 2 ^ sz_AOP_XX4 j) (hl2 : g.length = 4) (hall2 : ∀ j : Nat, j < 4 → 0 ≤ rd g (j : Int) ∧ rd g (j : Int) < 2 ^ sz_AOP_XX4 j) :
    ∃ a b, (∀ k, 20 ≤ k → spec_Word.f k (⟨#[65, 79, 80, 95, 88, 88, 52]⟩ : ByteArray) (⟨#[105, 106, 107, 113]⟩ : ByteArray) 0 f = some (a, true)) ∧ (∀ k, 10 ≤ k → impl_Encode.f k (⟨#[65, 79, 80, 95, 88, 88, 52]⟩ : ByteArray) (0 :: f) = some (a, true)) ∧ (∀ k, 20 ≤ k → spec_Word.f k (⟨#[65, 79, 80, 95, 88, 88, 52]⟩ : ByteArray) (⟨#[105, 106, 107, 113]⟩ : ByteArray) 0 g = some (b, true)) ∧ (∀ k, 10 ≤ k → impl_Encode.f k (⟨#[65, 79, 80, 95, 88, 88, 52]⟩ : ByteArray) (0 :: g) = some (b, true)) ∧ (a = b → ∀ j : Nat, j < 4 → rd f (j : Int) = rd g (j : Int)) := by
  match f, hl, g, hl2 with
  | [f0, f1, f2, f3], _, [e0, e1, e2, e3], _ =>
    have h0 : 0 ≤ f0 := (hall 0 (by decide)).1
    have g0 : f0 < 64 := (hall 0 (by decide)).2
    have h0' : 0 ≤ e0 := (hall2 0 (by decide)).1
    have g0' : e0 < 64 := (hall2 0 (by decide)).2
    have h1 : 0 ≤ f1 := (hall 1 (by decide)).1
    have g1 : f1 < 64 := (hall 1 (by decide)).2
    have h1' : 0 ≤ e1 := (hall2 1 (by decide)).1
    have g1' : e1 < 64 := (hall2 1 (by decide)).2
    have h2 : 0 ≤ f2 := (hall 2 (by decide)).1
    have g2 : f2 < 64 := (hall 2 (by decide)).2
    have h2' : 0 ≤ e2 := (hall2 2 (by decide)).1
    have g2' : e2 < 64 := (hall2 2 (by decide)).2
    have h3 : 0 ≤ f3 := (hall 3 (by decide)).1
    have g3 : f3 < 64 := (hall 3 (by decide)).2
    have h3' : 0 ≤ e3 := (hall2 3 (by decide)).1
    have g3' : e3 < 64 := (hall2 3 (by decide)).2
    refine ⟨_, _, fun k hk => ?_, Encode_AOP_XX4 (by omega) (by omega) (by omega) (by omega) (by omega) (by omega) (by omega) (by omega) (by omega) (by omega) (leaf_AOP_XX4 h0 g0 h1 g1 h2 g2 h3 g3), fun k hk => ?_, Encode_AOP_XX4 (by omega) (by omega) (by omega) (by omega) (by omega) (by omega) (by omega) (by omega) (by omega) (by omega) (leaf_AOP_XX4 h0' g0' h1' g1' h2' g2' h3' g3'), fun hw => ?_⟩
    · obtain ⟨m, rfl⟩ : ∃ m, k = m + 20 := ⟨k - 20, by omega⟩
      exact word_AOP_XX4 m 0 h0 g0 h1 g1 h2 g2 h3 g3
    · obtain ⟨m, rfl⟩ : ∃ m, k = m + 20 := ⟨k - 20, by omega⟩
      exact word_AOP_XX4 m 0 h0' g0' h1' g1' h2' g2' h3' g3'
    · obtain ⟨rfl, rfl, rfl, rfl⟩ := apart_AOP_XX4 h0 g0 h1 g1 h2 g2 h3 g3 h0' g0' h1' g1' h2' g2' h3' g3' hw
      intro j _; rfl

theorem both_AOP_Z23I (f g : List Int) (hl : f.length = 4) (hall : ∀ j : Nat, j < 4 → 0 ≤ rd f (j : Int) ∧ rd f (j : Int) < 2 ^ sz_AOP_Z23I j) (hl2 : g.length = 4) (hall2 : ∀ j : Nat, j < 4 → 0 ≤ rd g (j : Int) ∧ rd g (j : Int) < 2 ^ sz_AOP_Z23I j) :
    ∃ a b, (∀ k, 20 ≤ k → spec_Word.f k (⟨#[65, 79, 80, 95, 90, 50, 51, 73]⟩ : ByteArray) (⟨#[84, 65, 66, 122]⟩ : ByteArray) 0 f = some (a, true)) ∧ (∀ k, 10 ≤ k → impl_Encode.f k (⟨#[65, 79, 80, 95, 90, 50, 51, 73]⟩ : ByteArray) (0 :: f) = some (a, true)) ∧ (∀ k, 20 ≤ k → spec_Word.f k (⟨#[65, 79, 80, 95, 90, 50, 51, 73]⟩ : ByteArray) (⟨#[84, 65, 66, 122]⟩ : ByteArray) 0 g = some (b, true)) ∧ (∀ k, 10 ≤ k → impl_Encode.f k (⟨#[65, 79, 80, 95, 90, 50, 51, 73]⟩ : ByteArray) (0 :: g) = some (b, true)) ∧ (a = b → ∀ j : Nat, j < 4 → rd f (j : Int) = rd g (j : Int)) := by
  match f, hl, g, hl2 with
  | [f0, f1, f2, f3], _, [e0, e1, e2, e3], _ =>
    have h0 : 0 ≤ f0 := (hall 0 (by decide)).1
    have g0 : f0 < 32 := (hall 0 (by decide)).2
    have h0' : 0 ≤ e0 := (hall2 0 (by decide)).1
    have g0' : e0 < 32 := (hall2 0 (by decide)).2
    have h1 : 0 ≤ f1 := (hall 1 (by decide)).1
    have g1 : f1 < 32 := (hall 1 (by decide)).2
    have h1' : 0 ≤ e1 := (hall2 1 (by decide)).1
    have g1' : e1 < 32 := (hall2 1 (by decide)).2
    have h2 : 0 ≤ f2 := (hall 2 (by decide)).1
    have g2 : f2 < 32 := (hall 2 (by decide)).2
    have h2' : 0 ≤ e2 := (hall2 2 (by decide)).1
    have g2' : e2 < 32 := (hall2 2 (by decide)).2
    have h3 : 0 ≤ f3 := (hall 3 (by decide)).1
    have g3 : f3 < 4 := (hall 3 (by decide)).2
    have h3' : 0 ≤ e3 := (hall2 3 (by decide)).1
    have g3' : e3 < 4 := (hall2 3 (by decide)).2
    refine ⟨_, _, fun k hk => ?_, Encode_AOP_Z23I (by omega) (by omega) (by omega) (by omega) (by omega) (by omega) (by omega) (by omega) (by omega) (by omega) (leaf_AOP_Z23I h0 g0 h1 g1 h2 g2 h3 g3), fun k hk => ?_, Encode_AOP_Z23I (by omega) (by omega) (by omega) (by omega) (by omega) (by omega) (by omega) (by omega) (by omega) (by omega) (leaf_AOP_Z23I h0' g0' h1' g1' h2' g2' h3' g3'), fun hw => ?_⟩
    · obtain ⟨m, rfl⟩ : ∃ m, k = m + 20 := ⟨k - 20, by omega⟩
      exact word_AOP_Z23I m 0 h0 g0 h1 g1 h2 g2 h3 g3
    · obtain ⟨m, rfl⟩ : ∃ m, k = m + 20 := ⟨k - 20, by omega⟩
      exact word_AOP_Z23I m 0 h0' g0' h1' g1' h2' g2' h3' g3'
    · obtain ⟨rfl, rfl, rfl, rfl⟩ := apart_AOP_Z23I h0 g0 h1 g1 h2 g2 h3 g3 h0' g0' h1' g1' h2' g2' h3' g3' hw
      intro j _; rfl

theorem both_AOP_RRRI (f g : List Int) (hl : f.length = 4) (hall : ∀ j : Nat, j < 4 → 0 ≤ rd f (j : Int) ∧ rd f (j : Int) < 2 ^ sz_AOP_RRRI j) (hl2 : g.length = 4) (hall2 : ∀ j : Nat, j < 4 → 0 ≤ rd g (j : Int) ∧ rd g (j : Int) < 2 ^ sz_AOP_RRRI j) :
    ∃ a b, (∀ k, 20 ≤ k → spec_Word.f k (⟨#[65, 79, 80, 95, 82, 82, 82, 73]⟩ : ByteArray) (⟨#[84, 65, 66, 118]⟩ : ByteArray) 0 f = some (a, true)) ∧ (∀ k, 10 ≤ k → impl_Encode.f k (⟨#[65, 79, 80, 95, 82, 82, 82, 73]⟩ : ByteArray) (0 :: f) = some (a, true)) ∧ (∀ k, 20 ≤ k → spec_Word.f k (⟨#[65, 79, 80, 95, 82, 82, 82, 73]⟩ : ByteArray) (⟨#[84, 65, 66, 118]⟩ : ByteArray) 0 g = some (b, true)) ∧ (∀ k, 10 ≤ k → impl_Encode.f k (⟨#[65, 79, 80, 95, 82, 82, 82, 73]⟩ : ByteArray) (0 :: g) = some (b, true)) ∧ (a = b → ∀ j : Nat, j < 4 → rd f (j : Int) = rd g (j : Int)) := by
  match f, hl, g, hl2 with
  | [f0, f1, f2, f3], _, [e0, e1, e2, e3], _ =>
    have h0 : 0 ≤ f0 := (hall 0 (by decide)).1
    have g0 : f0 < 32 := (hall 0 (by decide)).2
    have h0' : 0 ≤ e0 := (hall2 0 (by decide)).1
    have g0' : e0 < 32 := (hall2 0 (by decide)).2
    have h1 : 0 ≤ f1 := (hall 1 (by decide)).1
    have g1 : f1 < 32 := (hall 1 (by decide)).2
    have h1' : 0 ≤ e1 := (hall2 1 (by decide)).1
    have g1' : e1 < 32 := (hall2 1 (by decide)).2
    have h2 : 0 ≤ f2 := (hall 2 (by decide)).1
    have g2 : f2 < 32 := (hall 2 (by decide)).2
    have h2' : 0 ≤ e2 := (hall2 2 (by decide)).1
    have g2' : e2 < 32 := (hall2 2 (by decide)).2
    have h3 : 0 ≤ f3 := (hall 3 (by decide)).1
    have g3 : f3 < 2 := (hall 3 (by decide)).2
    have h3' : 0 ≤ e3 := (hall2 3 (by decide)).1
    have g3' : e3 < 2 := (hall2 3 (by decide)).2
    refine ⟨_, _, fun k hk => ?_, Encode_AOP_RRRI (by omega) (by omega) (by omega) (by omega) (by omega) (by omega) (by omega) (by omega) (by omega) (by omega) (leaf_AOP_RRRI h0 g0 h1 g1 h2 g2 h3 g3), fun k hk => ?_, Encode_AOP_RRRI (by omega) (by omega) (by omega) (by omega) (by omega) (by omega) (by omega) (by omega) (by omega) (by omega) (leaf_AOP_RRRI h0' g0' h1' g1' h2' g2' h3' g3'), fun hw => ?_⟩
    · obtain ⟨m, rfl⟩ : ∃ m, k = m + 20 := ⟨k - 20, by omega⟩
      exact word_AOP_RRRI m 0 h0 g0 h1 g1 h2 g2 h3 g3
    · obtain ⟨m, rfl⟩ : ∃ m, k = m + 20 := ⟨k - 20, by omega⟩
      exact word_AOP_RRRI m 0 h0' g0' h1' g1' h2' g2' h3' g3'
    · obtain ⟨rfl, rfl, rfl, rfl⟩ := apart_AOP_RRRI h0 g0 h1 g1 h2 g2 h3 g3 h0' g0' h1' g1' h2' g2' h3' g3' hw
      intro j _; rfl

theorem both_LOP_RRR (f g : List Int) (hl : f.length = 3) (hall : ∀ j : Nat, j < 3 → 0 ≤ rd f (j : Int) ∧ rd f (j : Int) < 2 ^ sz_LOP_RRR j) (hl2 : g.length = 3) (hall2 : ∀ j : Nat, j < 3 → 0 ≤ rd g (j : Int) ∧ rd g (j : Int) < 2 ^ sz_LOP_RRR j) :
    ∃ a b, (∀ k, 20 ≤ k → spec_Word.f k (⟨#[76, 79, 80, 95, 82, 82, 82]⟩ : ByteArray) (⟨#[65, 84, 66]⟩ : ByteArray) 0 f = some (a, true)) ∧ (∀ k, 10 ≤ k → impl_Encode.f k (⟨#[76, 79, 80, 95, 82, 82, 82]⟩ : ByteArray) (0 :: f) = some (a, true)) ∧ (∀ k, 20 ≤ k → spec_Word.f k (⟨#[76, 79, 80, 95, 82, 82, 82]⟩ : ByteArray) (⟨#[65, 84, 66]⟩ : ByteArray) 0 g = some (b, true)) ∧ (∀ k, 10 ≤ k → impl_Encode.f k (⟨#[76, 79, 80, 95, 82, 82, 82]⟩ : ByteArray) (0 :: g) = some (b, true)) ∧ (a = b → ∀ j : Nat, j < 3 → rd f (j : Int) = rd g (j : Int)) := by
  match f, hl, g, hl2 with
  | [f0, f1, f2], _, [e0, e1, e2], _ =>
    have h0 : 0 ≤ f0 := (hall 0 (by decide)).1
    have g0 : f0 < 32 := (hall 0 (by decide)).2
    have h0' : 0 ≤ e0 := (hall2 0 (by decide)).1
    have g0' : e0 < 32 := (hall2 0 (by decide)).2
    have h1 : 0 ≤ f1 := (hall 1 (by decide)).1
    have g1 : f1 < 32 := (hall 1 (by decide)).2
    have h1' : 0 ≤ e1 := (hall2 1 (by decide)).1
    have g1' : e1 < 32 := (hall2 1 (by decide)).2
    have h2 : 0 ≤ f2 := (hall 2 (by decide)).1
    have g2 : f2 < 32 := (hall 2 (by decide)).2
    have h2' : 0 ≤ e2 := (hall2 2 (by decide)).1
    have g2' : e2 < 32 := (hall2 2 (by decide)).2
    refine ⟨_, _, fun k hk => ?_, Encode_LOP_RRR (by omega) (by omega) (by omega) (by omega) (by omega) (by omega) (by omega) (by omega) (leaf_LOP_RRR h0 g0 h1 g1 h2 g2), fun k hk => ?_, Encode_LOP_RRR (by omega) (by omega) (by omega) (by omega) (by omega) (by omega) (by omega) (by omega) (leaf_LOP_RRR h0' g0' h1' g1' h2' g2'), fun hw => ?_⟩
    · obtain ⟨m, rfl⟩ : ∃ m, k = m + 20 := ⟨k - 20, by omega⟩
      exact word_LOP_RRR m 0 h0 g0 h1 g1 h2 g2
    · obtain ⟨m, rfl⟩ : ∃ m, k = m + 20 := ⟨k - 20, by omega⟩
      exact word_LOP_RRR m 0 h0' g0' h1' g1' h2' g2'
    · obtain ⟨rfl, rfl, rfl⟩ := apart_LOP_RRR h0 g0 h1 g1 h2 g2 h0' g0' h1' g1' h2' g2' hw
      intro j _; rfl

theorem both_LOP_IRR (f g : List Int) (hl : f.length = 3) (hall : ∀ j : Nat, j < 3 → 0 ≤ rd f (j : Int) ∧ rd f (j : Int) < 2 ^ sz_LOP_IRR j) (hl2 : g.length = 3) (hall2 : ∀ j : Nat, j < 3 → 0 ≤ rd g (j : Int) ∧ rd g (j : Int) < 2 ^ sz_LOP_IRR j) :
    ∃ a b, (∀ k, 20 ≤ k → spec_Word.f k (⟨#[76, 79, 80, 95, 73, 82, 82]⟩ : ByteArray) (⟨#[65, 84, 117]⟩ : ByteArray) 0 f = some (a, true)) ∧ (∀ k, 10 ≤ k → impl_Encode.f k (⟨#[76, 79, 80, 95, 73, 82, 82]⟩ : ByteArray) (0 :: f) = some (a, true)) ∧ (∀ k, 20 ≤ k → spec_Word.f k (⟨#[76, 79, 80, 95, 73, 82, 82]⟩ : ByteArray) (⟨#[65, 84, 117]⟩ : ByteArray) 0 g = some (b, true)) ∧ (∀ k, 10 ≤ k → impl_Encode.f k (⟨#[76, 79, 80, 95, 73, 82, 82]⟩ : ByteArray) (0 :: g) = some (b, true)) ∧ (a = b → ∀ j : Nat, j < 3 → rd f (j : Int) = rd g (j : Int)) := by
  match f, hl, g, hl2 with
  | [f0, f1, f2], _, [e0, e1, e2], _ =>
    have h0 : 0 ≤ f0 := (hall 0 (by decide)).1
    have g0 : f0 < 32 := (hall 0 (by decide)).2
    have h0' : 0 ≤ e0 := (hall2 0 (by decide)).1
    have g0' : e0 < 32 := (hall2 0 (by decide)).2
    have h1 : 0 ≤ f1 := (hall 1 (by decide)).1
    have g1 : f1 < 32 := (hall 1 (by decide)).2
    have h1' : 0 ≤ e1 := (hall2 1 (by decide)).1
    have g1' : e1 < 32 := (hall2 1 (by decide)).2
    have h2 : 0 ≤ f2 := (hall 2 (by decide)).1
    have g2 : f2 < 65536 := (hall 2 (by decide)).2
    have h2' : 0 ≤ e2 := (hall2 2 (by decide)).1
    have g2' : e2 < 65536 := (hall2 2 (by decide)).2
    refine ⟨_, _, fun k hk => ?_, Encode_LOP_IRR (by omega) (by omega) (by omega) (by omega) (by omega) (by omega) (by omega) (by omega) (leaf_LOP_IRR h0 g0 h1 g1 h2 g2), fun k hk => ?_, Encode_LOP_IRR (by omega) (by omega) (by omega) (by omega) (by omega) (by omega) (by omega) (by omega) (leaf_LOP_IRR h0' g0' h1' g1' h2' g2'), fun hw => ?_⟩
    · obtain ⟨m, rfl⟩ : ∃ m, k = m + 20 := ⟨k - 20, by omega⟩
      exact word_LOP_IRR m 0 h0 g0 h1 g1 h2 g2
    · obtain ⟨m, rfl⟩ : ∃ m, k = m + 20 := ⟨k - 20, by omega⟩
      exact word_LOP_IRR m 0 h0' g0' h1' g1' h2' g2'
    · obtain ⟨rfl, rfl, rfl⟩ := apart_LOP_IRR h0 g0 h1 g1 h2 g2 h0' g0' h1' g1' h2' g2' hw
      intro j _; rfl

theorem both_OP_BCR (f g : List Int) (hl : f.length = 2) (hall : ∀ j : Nat, j < 2 → 0 ≤ rd f (j : Int) ∧ rd f (j : Int) < 2 ^ sz_OP_BCR j) (hl2 : g.length = 2) (hall2 : ∀ j : Nat, j < 2 → 0 ≤ rd g (j : Int) ∧ rd g (j : Int) < 2 ^ sz_OP_BCR j) :
    ∃ a b, (∀ k, 20 ≤ k → spec_Word.f k (⟨#[79, 80, 95, 66, 67, 82]⟩ : ByteArray) (⟨#[79, 97]⟩ : ByteArray) 0 f = some (a, true)) ∧ (∀ k, 10 ≤ k → impl_Encode.f k (⟨#[79, 80, 95, 66, 67, 82]⟩ : ByteArray) (0 :: f) = some (a, true)) ∧ (∀ k, 20 ≤ k → spec_Word.f k (⟨#[79, 80, 95, 66, 67, 82]⟩ : ByteArray) (⟨#[79, 97]⟩ : ByteArray) 0 g = some (b, true)) ∧ (∀ k, 10 ≤ k → impl_Encode.f k (⟨#[79, 80, 95, 66, 67, 82]⟩ : ByteArray) (0 :: g) = some (b, true)) ∧ (a = b → ∀ j : Nat, j < 2 → rd f (j : Int) = rd g (j : Int)) := by
  match f, hl, g, hl2 with
  | [f0, f1], _, [e0, e1], _ =>
    have h0 : 0 ≤ f0 := (hall 0 (by decide)).1
    have g0 : f0 < 32 := (hall 0 (by decide)).2
    have h0' : 0 ≤ e0 := (hall2 0 (by decide)).1
    have g0' : e0 < 32 := (hall2 0 (by decide)).2
    have h1 : 0 ≤ f1 := (hall 1 (by decide)).1
    have g1 : f1 < 32 := (hall 1 (by decide)).2
    have h1' : 0 ≤ e1 := (hall2 1 (by decide)).1
    have g1' : e1 < 32 := (hall2 1 (by decide)).2
    refine ⟨_, _, fun k hk => ?_, Encode_OP_BCR (by omega) (by omega) (by omega) (by omega) (by omega) (by omega) (leaf_OP_BCR h0 g0 h1 g1), fun k hk => ?_, Encode_OP_BCR (by omega) (by omega) (by omega) (by omega) (by omega) (by omega) (leaf_OP_BCR h0' g0' h1' g1'), fun hw => ?_⟩
    · obtain ⟨m, rfl⟩ : ∃ m, k = m + 20 := ⟨k - 20, by omega⟩
      exact word_OP_BCR m 0 h0 g0 h1 g1
    · obtain ⟨m, rfl⟩ : ∃ m, k = m + 20 := ⟨k - 20, by omega⟩
      exact word_OP_BCR m 0 h0' g0' h1' g1'
    · obtain ⟨rfl, rfl⟩ := apart_OP_BCR h0 g0 h1 g1 h0' g0' h1' g1' hw
      intro j _; rfl

theorem both_OP_RLW (f g : List Int) (hl : f.length = 5) (hall : ∀ j : Nat, j < 5 → 0 ≤ rd f (j : Int) ∧ rd f (j : Int) < 2 ^ sz_OP_RLW j) (hl2 : g.length = 5) (hall2 : ∀ j : Nat, j < 5 → 0 ≤ rd g (j : Int) ∧ rd g (j : Int) < 2 ^ sz_OP_RLW j) :
    ∃ a b, (∀ k, 20 ≤ k → spec_Word.f k (⟨#[79, 80, 95, 82, 76, 87]⟩ : ByteArray) (⟨#[65, 84, 104, 109, 101]⟩ : ByteArray) 0 f = some (a, true)) ∧ (∀ k, 10 ≤ k → impl_Encode.f k (⟨#[79, 80, 95, 82, 76, 87]⟩ : ByteArray) (0 :: f) = some (a, true)) ∧ (∀ k, 20 ≤ k → spec_Word.f k (⟨#[79, 80, 95, 82, 76, 87]⟩ : ByteArray) (⟨#[65, 84, 104, 109, 101]⟩ : ByteArray) 0 g = some (b, true)) ∧ (∀ k, 10 ≤ k → impl_Encode.f k (⟨#[79, 80, 95, 82, 76, 87]⟩ : ByteArray) (0 :: g) = some (b, true)) ∧ (a = b → ∀ j : Nat, j < 5 → rd f (j : Int) = rd g (j : Int)) := by
  match f, hl, g, hl2 with
  | [f0, f1, f2, f3, f4], _, [e0, e1, e2, e3, e4], _ =>
    have h0 : 0 ≤ f0 := (hall 0 (by decide)).1
    have g0 : f0 < 32 := (hall 0 (by decide)).2
    have h0' : 0 ≤ e0 := (hall2 0 (by decide)).1
    have g0' : e0 < 32 := (hall2 0 (by decide)).2
    have h1 : 0 ≤ f1 := (hall 1 (by decide)).1
    have g1 : f1 < 32 := (hall 1 (by decide)).2
    have h1' : 0 ≤ e1 := (hall2 1 (by decide)).1
    have g1' : e1 < 32 := (hall2 1 (by decide)).2
    have h2 : 0 ≤ f2 := (hall 2 (by decide)).1
    have g2 : f2 < 32 := (hall 2 (by decide)).2
    have h2' : 0 ≤ e2 := (hall2 2 (by decide)).1
    have g2' : e2 < 32 := (hall2 2 (by decide)).2
    have h3 : 0 ≤ f3 := (hall 3 (by decide)).1
    have g3 : f3 < 32 := (hall 3 (by decide)).2
    have h3' : 0 ≤ e3 := (hall2 3 (by decide)).1
    have g3' : e3 < 32 := (hall2 3 (by decide)).2
    have h4 : 0 ≤ f4 := (hall 4 (by decide)).1
    have g4 : f4 < 32 := (hall 4 (by decide)).2
    have h4' : 0 ≤ e4 := (hall2 4 (by decide)).1
    have g4' : e4 < 32 := (hall2 4 (by decide)).2
    refine ⟨_, _, fun k hk => ?_, Encode_OP_RLW (by omega) (by omega) (by omega) (by omega) (by omega) (by omega) (by omega) (by omega) (by omega) (by omega) (by omega) (by omega) (leaf_OP_RLW h0 g0 h1 g1 h2 g2 h3 g3 h4 g4), fun k hk => ?_, Encode_OP_RLW (by omega) (by omega) (by omega) (by omega) (by omega) (by omega) (by omega) (by omega) (by omega) (by omega) (by omega) (by omega) (leaf_OP_RLW h0' g0' h1' g1' h2' g2' h3' g3' h4' g4'), fun hw => ?_⟩
    · obtain ⟨m, rfl⟩ : ∃ m, k = m + 20 := ⟨k - 20, by omega⟩
      exact word_OP_RLW m 0 h0 g0 h1 g1 h2 g2 h3 g3 h4 g4
    · obtain ⟨m, rfl⟩ : ∃ m, k = m + 20 := ⟨k - 20, by omega⟩
      exact word_OP_RLW m 0 h0' g0' h1' g1' h2' g2' h3' g3' h4' g4'
    · obtain ⟨rfl, rfl, rfl, rfl, rfl⟩ := apart_OP_RLW h0 g0 h1 g1 h2 g2 h3 g3 h4 g4 h0' g0' h1' g1' h2' g2' h3' g3' h4' g4' hw
      intro j _; rfl

theorem both_AOP_ISEL (f g : List Int) (hl : f.length = 4) (hall : ∀ j : Nat, j < 4 → 0 ≤ rd f (j : Int) ∧ rd f (j : Int) < 2 ^ sz_AOP_ISEL j) (hl2 : g.length = 4) (hall2 : ∀ j : Nat, j < 4 → 0 ≤ rd g (j : Int) ∧ rd g (j : Int) < 2 ^ sz_AOP_ISEL j) :
    ∃ a b, (∀ k, 20 ≤ k → spec_Word.f k (⟨#[65, 79, 80, 95, 73, 83, 69, 76]⟩ : ByteArray) (⟨#[84, 65, 66, 98]⟩ : ByteArray) 0 f = some (a, true)) ∧ (∀ k, 10 ≤ k → impl_Encode.f k (⟨#[65, 79, 80, 95, 73, 83, 69, 76]⟩ : ByteArray) (0 :: f) = some (a, true)) ∧ (∀ k, 20 ≤ k → spec_Word.f k (⟨#[65, 79, 80, 95, 73, 83, 69, 76]⟩ : ByteArray) (⟨#[84, 65, 66, 98]⟩ : ByteArray) 0 g = some (b, true)) ∧ (∀ k, 10 ≤ k → impl_Encode.f k (⟨#[65, 79, 80, 95, 73, 83, 69, 76]⟩ : ByteArray) (0 :: g) = some (b, true)) ∧ (a = b → ∀ j : Nat, j < 4 → rd f (j : Int) = rd g (j : Int)) := by
  match f, hl, g, hl2 with
  | [f0, f1, f2, f3], _, [e0, e1, e2, e3], _ =>
    have h0 : 0 ≤ f0 := (hall 0 (by decide)).1
    have g0 : f0 < 32 := (hall 0 (by decide)).2
    have h0' : 0 ≤ e0 := (hall2 0 (by decide)).1
    have g0' : e0 < 32 := (hall2 0 (by decide)).2
    have h1 : 0 ≤ f1 := (hall 1 (by decide)).1
    have g1 : f1 < 32 := (hall 1 (by decide)).2
    have h1' : 0 ≤ e1 := (hall2 1 (by decide)).1
    have g1' : e1 < 32 := (hall2 1 (by decide)).2
    have h2 : 0 ≤ f2 := (hall 2 (by decide)).1
    have g2 : f2 < 32 := (hall 2 (by decide)).2
    have h2' : 0 ≤ e2 := (hall2 2 (by decide)).1
    have g2' : e2 < 32 := (hall2 2 (by decide)).2
    have h3 : 0 ≤ f3 := (hall 3 (by decide)).1
    have g3 : f3 < 32 := (hall 3 (by decide)).2
    have h3' : 0 ≤ e3 := (hall2 3 (by decide)).1
    have g3' : e3 < 32 := (hall2 3 (by decide)).2
    refine ⟨_, _, fun k hk => ?_, Encode_AOP_ISEL (by omega) (by omega) (by omega) (by omega) (by omega) (by omega) (by omega) (by omega) (by omega) (by omega) (leaf_AOP_ISEL h0 g0 h1 g1 h2 g2 h3 g3), fun k hk => ?_, Encode_AOP_ISEL (by omega) (by omega) (by omega) (by omega) (by omega) (by omega) (by omega) (by omega) (by omega) (by omega) (leaf_AOP_ISEL h0' g0' h1' g1' h2' g2' h3' g3'), fun hw => ?_⟩
    · obtain ⟨m, rfl⟩ : ∃ m, k = m + 20 := ⟨k - 20, by omega⟩
      exact word_AOP_ISEL m 0 h0 g0 h1 g1 h2 g2 h3 g3
    · obtain ⟨m, rfl⟩ : ∃ m, k = m + 20 := ⟨k - 20, by omega⟩
      exact word_AOP_ISEL m 0 h0' g0' h1' g1' h2' g2' h3' g3'
    · obtain ⟨rfl, rfl, rfl, rfl⟩ := apart_AOP_ISEL h0 g0 h1 g1 h2 g2 h3 g3 h0' g0' h1' g1' h2' g2' h3' g3' hw
      intro j _; rfl

theorem both_AOP_MD (f g : List Int) (hl : f.length = 4) (hall : ∀ j : Nat, j < 4 → 0 ≤ rd f (j : Int) ∧ rd f (j : Int) < 2 ^ sz_AOP_MD j) (hl2 : g.length = 4) (hall2 : ∀ j : Nat, j < 4 → 0 ≤ rd g (j : Int) ∧ rd g (j : Int) < 2 ^ sz_AOP_MD j) :
    ∃ a b, (∀ k, 20 ≤ k → spec_Word.f k (⟨#[65, 79, 80, 95, 77, 68]⟩ : ByteArray) (⟨#[65, 84, 103, 77]⟩ : ByteArray) 0 f = some (a, true)) ∧ (∀ k, 10 ≤ k → impl_Encode.f k (⟨#[65, 79, 80, 95, 77, 68]⟩ : ByteArray) (0 :: f) = some (a, true)) ∧ (∀ k, 20 ≤ k → spec_Word.f k (⟨#[65, 79, 80, 95, 77, 68]⟩ : ByteArray) (⟨#[65, 84, 103, 77]⟩ : ByteArray) 0 g = some (b, true)) ∧ (∀ k, 10 ≤ k → impl_Encode.f k (⟨#[65, 79, 80, 95, 77, 68]⟩ : ByteArray) (0 :: g) = some (b, true)) ∧ (a = b → ∀ j : Nat, j < 4 → rd f (j : Int) = rd g (j : Int)) := by
  match f, hl, g, hl2 with
  | [f0, f1, f2, f3], _, [e0, e1, e2, e3], _ =>
    have h0 : 0 ≤ f0 := (hall 0 (by decide)).1
    have g0 : f0 < 32 := (hall 0 (by decide)).2
    have h0' : 0 ≤ e0 := (hall2 0 (by decide)).1
    have g0' : e0 < 32 := (hall2 0 (by decide)).2
    have h1 : 0 ≤ f1 := (hall 1 (by decide)).1
    have g1 : f1 < 32 := (hall 1 (by decide)).2
    have h1' : 0 ≤ e1 := (hall2 1 (by decide)).1
    have g1' : e1 < 32 := (hall2 1 (by decide)).2
    have h2 : 0 ≤ f2 := (hall 2 (by decide)).1
    have g2 : f2 < 64 := (hall 2 (by decide)).2
    have h2' : 0 ≤ e2 := (hall2 2 (by decide)).1
    have g2' : e2 < 64 := (hall2 2 (by decide)).2
    have h3 : 0 ≤ f3 := (hall 3 (by decide)).1
    have g3 : f3 < 64 := (hall 3 (by decide)).2
    have h3' : 0 ≤ e3 := (hall2 3 (by decide)).1
    have g3' : e3 < 64 := (hall2 3 (by decide)).2
    refine ⟨_, _, fun k hk => ?_, Encode_AOP_MD (by omega) (by omega) (by omega) (by omega) (by omega) (by omega) (by omega) (by omega) (by omega) (by omega) (leaf_AOP_MD h0 g0 h1 g1 h2 g2 h3 g3), fun k hk => ?_, Encode_AOP_MD (by omega) (by omega) (by omega) (by omega) (by omega) (by omega) (by omega) (by omega) (by omega) (by omega) (leaf_AOP_MD h0' g0' h1' g1' h2' g2' h3' g3'), fun hw => ?_⟩
    · obtain ⟨m, rfl⟩ : ∃ m, k = m + 20 := ⟨k - 20, by omega⟩
      exact word_AOP_MD m 0 h0 g0 h1 g1 h2 g2 h3 g3
    · obtain ⟨m, rfl⟩ : ∃ m, k = m + 20 := ⟨k - 20, by omega⟩
      exact word_AOP_MD m 0 h0' g0' h1' g1' h2' g2' h3' g3'
    · obtain ⟨rfl, rfl, rfl, rfl⟩ := apart_AOP_MD h0 g0 h1 g1 h2 g2 h3 g3 h0' g0' h1' g1' h2' g2' h3' g3' hw
      intro j _; rfl

theorem both_AOP_MDS (f g : List Int) (hl : f.length = 4) (hall : ∀ j : Nat, j < 4 → 0 ≤ rd f (j : Int) ∧ rd f (j : Int) < 2 ^ sz_AOP_MDS j) (hl2 : g.length = 4) (hall2 : ∀ j : Nat, j < 4 → 0 ≤ rd g (j : Int) ∧ rd g (j : Int) < 2 ^ sz_AOP_MDS j) :
    ∃ a b, (∀ k, 20 ≤ k → spec_Word.f k (⟨#[65, 79, 80, 95, 77, 68, 83]⟩ : ByteArray) (⟨#[65, 84, 66, 77]⟩ : ByteArray) 0 f = some (a, true)) ∧ (∀ k, 10 ≤ k → impl_Encode.f k (⟨#[65, 79, 80, 95, 77, 68, 83]⟩ : ByteArray) (0 :: f) = some (a, true)) ∧ (∀ k, 20 ≤ k → spec_Word.f k (⟨#[65, 79, 80, 95, 77, 68, 83]⟩ : ByteArray) (⟨#[65, 84, 66, 77]⟩ : ByteArray) 0 g = some (b, true)) ∧ (∀ k, 10 ≤ k → impl_Encode.f k (⟨#[65, 79, 80, 95, 77, 68, 83]⟩ : ByteArray) (0 :: g) = some (b, true)) ∧ (a = b → ∀ j : Nat, j < 4 → rd f (j : Int) = rd g (j : Int)) := by
  match f, hl, g, hl2 with
  | [f0, f1, f2, f3], _, [e0, e1, e2, e3], _ =>
    have h0 : 0 ≤ f0 := (hall 0 (by decide)).1
    have g0 : f0 < 32 := (hall 0 (by decide)).2
    have h0' : 0 ≤ e0 := (hall2 0 (by decide)).1
    have g0' : e0 < 32 := (hall2 0 (by decide)).2
    have h1 : 0 ≤ f1 := (hall 1 (by decide)).1
    have g1 : f1 < 32 := (hall 1 (by decide)).2
    have h1' : 0 ≤ e1 := (hall2 1 (by decide)).1
    have g1' : e1 < 32 := (hall2 1 (by decide)).2
    have h2 : 0 ≤ f2 := (hall 2 (by decide)).1
    have g2 : f2 < 32 := (hall 2 (by decide)).2
    have h2' : 0 ≤ e2 := (hall2 2 (by decide)).1
    have g2' : e2 < 32 := (hall2 2 (by decide)).2
    have h3 : 0 ≤ f3 := (hall 3 (by decide)).1
    have g3 : f3 < 64 := (hall 3 (by decide)).2
    have h3' : 0 ≤ e3 := (hall2 3 (by decide)).1
    have g3' : e3 < 64 := (hall2 3 (by decide)).2
    refine ⟨_, _, fun k hk => ?_, Encode_AOP_MDS (by omega) (by omega) (by omega) (by omega) (by omega) (by omega) (by omega) (by omega) (by omega) (by omega) (leaf_AOP_MDS h0 g0 h1 g1 h2 g2 h3 g3), fun k hk => ?_, Encode_AOP_MDS (by omega) (by omega) (by omega) (by omega) (by omega) (by omega) (by omega) (by omega) (by omega) (by omega) (leaf_AOP_MDS h0' g0' h1' g1' h2' g2' h3' g3'), fun hw => ?_⟩
    · obtain ⟨m, rfl⟩ : ∃ m, k = m + 20 := ⟨k - 20, by omega⟩
      exact word_AOP_MDS m 0 h0 g0 h1 g1 h2 g2 h3 g3
    · obtain ⟨m, rfl⟩ : ∃ m, k = m + 20 := ⟨k - 20, by omega⟩
      exact word_AOP_MDS m 0 h0' g0' h1' g1' h2' g2' h3' g3'
    · obtain ⟨rfl, rfl, rfl, rfl⟩ := apart_AOP_MDS h0 g0 h1 g1 h2 g2 h3 g3 h0' g0' h1' g1' h2' g2' h3' g3' hw
      intro j _; rfl
/-- The table of encoders. -/
def table : List S29 := [(⟨(⟨#[65, 79, 80, 95, 82, 82, 82]⟩ : ByteArray), (⟨#[84, 65, 66]⟩ : ByteArray)⟩ : S29), (⟨(⟨#[65, 79, 80, 95, 82, 82]⟩ : ByteArray), (⟨#[84, 66]⟩ : ByteArray)⟩ : S29), (⟨(⟨#[65, 79, 80, 95, 82, 82, 82, 82]⟩ : ByteArray), (⟨#[84, 65, 66, 89]⟩ : ByteArray)⟩ : S29), (⟨(⟨#[65, 79, 80, 95, 73, 82, 82]⟩ : ByteArray), (⟨#[84, 65, 117]⟩ : ByteArray)⟩ : S29), (⟨(⟨#[65, 79, 80, 95, 86, 73, 82, 82]⟩ : ByteArray), (⟨#[84, 66, 85]⟩ : ByteArray)⟩ : S29), (⟨(⟨#[65, 79, 80, 95, 73, 73, 82, 82]⟩ : ByteArray), (⟨#[84, 65, 82, 81]⟩ : ByteArray)⟩ : S29), (⟨(⟨#[65, 79, 80, 95, 73, 82, 82, 82]⟩ : ByteArray), (⟨#[84, 65, 66, 90]⟩ : ByteArray)⟩ : S29), (⟨(⟨#[65, 79, 80, 95, 73, 82]⟩ : ByteArray), (⟨#[84, 85]⟩ : ByteArray)⟩ : S29), (⟨(⟨#[65, 79, 80, 95, 88, 88, 49]⟩ : ByteArray), (⟨#[105, 65, 66]⟩ : ByteArray)⟩ : S29), (⟨(⟨#[65, 79, 80, 95, 88, 88, 50]⟩ : ByteArray), (⟨#[105, 78, 107]⟩ : ByteArray)⟩ : S29), (⟨(⟨#[65, 79, 80, 95, 88, 88, 51]⟩ : ByteArray), (⟨#[105, 106, 107]⟩ : ByteArray)⟩ : S29), (⟨(⟨#[65, 79, 80, 95, 88, 88, 51, 73]⟩ : ByteArray), (⟨#[105, 106, 107, 110]⟩ : ByteArray)⟩ : S29), (⟨(⟨#[65, 79, 80, 95, 88, 88, 52]⟩ : ByteArray), (⟨#[105, 106, 107, 113]⟩ : ByteArray)⟩ : S29), (⟨(⟨#[65, 79, 80, 95, 90, 50, 51, 73]⟩ : ByteArray), (⟨#[84, 65, 66, 122]⟩ : ByteArray)⟩ : S29), (⟨(⟨#[65, 79, 80, 95, 82, 82, 82, 73]⟩ : ByteArray), (⟨#[84, 65, 66, 118]⟩ : ByteArray)⟩ : S29), (⟨(⟨#[76, 79, 80, 95, 82, 82, 82]⟩ : ByteArray), (⟨#[65, 84, 66]⟩ : ByteArray)⟩ : S29), (⟨(⟨#[76, 79, 80, 95, 73, 82, 82]⟩ : ByteArray), (⟨#[65, 84, 117]⟩ : ByteArray)⟩ : S29), (⟨(⟨#[79, 80, 95, 66, 67, 82]⟩ : ByteArray), (⟨#[79, 97]⟩ : ByteArray)⟩ : S29), (⟨(⟨#[79, 80, 95, 82, 76, 87]⟩ : ByteArray), (⟨#[65, 84, 104, 109, 101]⟩ : ByteArray)⟩ : S29), (⟨(⟨#[65, 79, 80, 95, 73, 83, 69, 76]⟩ : ByteArray), (⟨#[84, 65, 66, 98]⟩ : ByteArray)⟩ : S29), (⟨(⟨#[65, 79, 80, 95, 77, 68]⟩ : ByteArray), (⟨#[65, 84, 103, 77]⟩ : ByteArray)⟩ : S29), (⟨(⟨#[65, 79, 80, 95, 77, 68, 83]⟩ : ByteArray), (⟨#[65, 84, 66, 77]⟩ : ByteArray)⟩ : S29)]
theorem table_is : spec_Layouts.f = some table := rfl
theorem apartly_AOP_RRR (f g : List Int) (hlen : f.length ≤ 20) (hlen2 : g.length ≤ 20) : laws_FnApart.j1 43 0 f g table false = some true :=
  apart_of 3 known_AOP_RRR rfl 0 table (by omega) (by decide) rfl rfl f g hlen hlen2 (fun f => ok_AOP_RRR 0 (by omega) (by omega) f) (both_AOP_RRR f g)
theorem apartly_AOP_RR (f g : List Int) (hlen : f.length ≤ 20) (hlen2 : g.length ≤ 20) : laws_FnApart.j1 43 1 f g table false = some true :=
  apart_of 2 known_AOP_RR rfl 1 table (by omega) (by decide) rfl rfl f g hlen hlen2 (fun f => ok_AOP_RR 0 (by omega) (by omega) f) (both_AOP_RR f g)
theorem apartly_AOP_RRRR (f g : List Int) (hlen : f.length ≤ 20) (hlen2 : g.length ≤ 20) : laws_FnApart.j1 43 2 f g table false = some true :=
  apart_of 4 known_AOP_RRRR rfl 2 table (by omega) (by decide) rfl rfl f g hlen hlen2 (fun f => ok_AOP_RRRR 0 (by omega) (by omega) f) (both_AOP_RRRR f g)
theorem apartly_AOP_IRR (f g : List Int) (hlen : f.length ≤ 20) (hlen2 : g.length ≤ 20) : laws_FnApart.j1 43 3 f g table false = some true :=
  apart_of 3 known_AOP_IRR rfl 3 table (by omega) (by decide) rfl rfl f g hlen hlen2 (fun f => ok_AOP_IRR 0 (by omega) (by omega) f) (both_AOP_IRR f g)
theorem apartly_AOP_VIRR (f g : List Int) (hlen : f.length ≤ 20) (hlen2 : g.length ≤ 20) : laws_FnApart.j1 43 4 f g table false = some true :=
  apart_of 3 known_AOP_VIRR rfl 4 table (by omega) (by decide) rfl rfl f g hlen hlen2 (fun f => ok_AOP_VIRR 0 (by omega) (by omega) f) (both_AOP_VIRR f g)
theorem apartly_AOP_IIRR (f g : List Int) (hlen : f.length ≤ 20) (hlen2 : g.length ≤ 20) : laws_FnApart.j1 43 5 f g table false = some true :=
  apart_of 4 known_AOP_IIRR rfl 5 table (by omega) (by decide) rfl rfl f g hlen hlen2 (fun f => ok_AOP_IIRR 0 (by omega) (by omega) f) (both_AOP_IIRR f g)
theorem apartly_AOP_IRRR (f g : List Int) (hlen : f.length ≤ 20) (hlen2 : g.length ≤ 20) : laws_FnApart.j1 43 6 f g table false = some true :=
  apart_of 4 known_AOP_IRRR rfl 6 table (by omega) (by decide) rfl rfl f g hlen hlen2 (fun f => ok_AOP_IRRR 0 (by omega) (by omega) f) (both_AOP_IRRR f g)
theorem apartly_AOP_IR (f g : List Int) (hlen : f.length ≤ 20) (hlen2 : g.length ≤ 20) : laws_FnApart.j1 43 7 f g table false = some true :=
  apart_of 2 known_AOP_IR rfl 7 table (by omega) (by decide) rfl rfl f g hlen hlen2 (fun f => ok_AOP_IR 0 (by omega) (by omega) f) (both_AOP_IR f g)
theorem apartly_AOP_XX1 (f g : List Int) (hlen : f.length ≤ 20) (hlen2 : g.length ≤ 20) : laws_FnApart.j1 43 8 f g table false = some true :=
  apart_of 3 known_AOP_XX1 rfl 8 table (by omega) (by decide) rfl rfl f g hlen hlen2 (fun f => ok_AOP_XX1 0 (by omega) (by omega) f) (both_AOP_XX1 f g)
theorem apartly_AOP_XX2 (f g : List Int) (hlen : f.length ≤ 20) (hlen2 : g.length ≤ 20) : laws_FnApart.j1 43 9 f g table false = some true :=
  apart_of 3 known_AOP_XX2 rfl 9 table (by omega) (by decide) rfl rfl f g hlen hlen2 (fun f => ok_AOP_XX2 0 (by omega) (by omega) f) (both_AOP_XX2 f g)
theorem apartly_AOP_XX3 (f g : List Int) (hlen : f.length ≤ 20) (hlen2 : g.length ≤ 20) : laws_FnApart.j1 43 10 f g table false = some true :=
  apart_of 3 known_AOP_XX3 rfl 10 table (by omega) (by decide) rfl rfl f g hlen hlen2 (fun f => ok_AOP_XX3 0 (by omega) (by omega) f) (both_AOP_XX3 f g)
theorem apartly_AOP_XX3I (f g : List Int) (hlen : f.length ≤ 20) (hlen2 : g.length ≤ 20) : laws_FnApart.j1 43 11 f g table false = some true :=
  apart_of 4 known_AOP_XX3I rfl 11 table (by omega) (by decide) rfl rfl f g hlen hlen2 (fun f => ok_AOP_XX3I 0 (by omega) (by omega) f) (both_AOP_XX3I f g)
theorem apartly_AOP_XX4 (f g : List Int) (hlen : f.length ≤ 20) (hlen2 : g.length ≤ 20) : laws_FnApart.j1 43 12 f g table false = some true :=
  apart_of 4 known_AOP_XX4 rfl 12 table (by omega) (by decide) rfl rfl f g hlen hlen2 (fun f => ok_AOP_XX4 0 (by omega) (by omega) f) (both_AOP_XX4 f g)
theorem apartly_AOP_Z23I (f g : List Int) (hlen : f.length ≤ 20) (hlen2 : g.length ≤ 20) : laws_FnApart.j1 43 13 f g table false = some true :=
  apart_of 4 known_AOP_Z23I rfl 13 table (by omega) (by decide) rfl rfl f g hlen hlen2 (fun f => ok_AOP_Z23I 0 (by omega) (by omega) f) (both_AOP_Z23I f g)
theorem apartly_AOP_RRRI (f g : List Int) (hlen : f.length ≤ 20) (hlen2 : g.length ≤ 20) : laws_FnApart.j1 43 14 f g table false = some true :=
  apart_of 4 known_AOP_RRRI rfl 14 table (by omega) (by decide) rfl rfl f g hlen hlen2 (fun f => ok_AOP_RRRI 0 (by omega) (by omega) f) (both_AOP_RRRI f g)
theorem apartly_LOP_RRR (f g : List Int) (hlen : f.length ≤ 20) (hlen2 : g.length ≤ 20) : laws_FnApart.j1 43 15 f g table false = some true :=
  apart_of 3 known_LOP_RRR rfl 15 table (by omega) (by decide) rfl rfl f g hlen hlen2 (fun f => ok_LOP_RRR 0 (by omega) (by omega) f) (both_LOP_RRR f g)
theorem apartly_LOP_IRR (f g : List Int) (hlen : f.length ≤ 20) (hlen2 : g.length ≤ 20) : laws_FnApart.j1 43 16 f g table false = some true :=
  apart_of 3 known_LOP_IRR rfl 16 table (by omega) (by decide) rfl rfl f g hlen hlen2 (fun f => ok_LOP_IRR 0 (by omega) (by omega) f) (both_LOP_IRR f g)
theorem apartly_OP_BCR (f g : List Int) (hlen : f.length ≤ 20) (hlen2 : g.length ≤ 20) : laws_FnApart.j1 43 17 f g table false = some true :=
  apart_of 2 known_OP_BCR rfl 17 table (by omega) (by decide) rfl rfl f g hlen hlen2 (fun f => ok_OP_BCR 0 (by omega) (by omega) f) (both_OP_BCR f g)
theorem apartly_OP_RLW (f g : List Int) (hlen : f.length ≤ 20) (hlen2 : g.length ≤ 20) : laws_FnApart.j1 43 18 f g table false = some true :=
  apart_of 5 known_OP_RLW rfl 18 table (by omega) (by decide) rfl rfl f g hlen hlen2 (fun f => ok_OP_RLW 0 (by omega) (by omega) f) (both_OP_RLW f g)
theorem apartly_AOP_ISEL (f g : List Int) (hlen : f.length ≤ 20) (hlen2 : g.length ≤ 20) : laws_FnApart.j1 43 19 f g table false = some true :=
  apart_of 4 known_AOP_ISEL rfl 19 table (by omega) (by decide) rfl rfl f g hlen hlen2 (fun f => ok_AOP_ISEL 0 (by omega) (by omega) f) (both_AOP_ISEL f g)
theorem apartly_AOP_MD (f g : List Int) (hlen : f.length ≤ 20) (hlen2 : g.length ≤ 20) : laws_FnApart.j1 43 20 f g table false = some true :=
  apart_of 4 known_AOP_MD rfl 20 table (by omega) (by decide) rfl rfl f g hlen hlen2 (fun f => ok_AOP_MD 0 (by omega) (by omega) f) (both_AOP_MD f g)
theorem apartly_AOP_MDS (f g : List Int) (hlen : f.length ≤ 20) (hlen2 : g.length ≤ 20) : laws_FnApart.j1 43 21 f g table false = some true :=
  apart_of 4 known_AOP_MDS rfl 21 table (by omega) (by decide) rfl rfl f g hlen hlen2 (fun f => ok_AOP_MDS 0 (by omega) (by omega) f) (both_AOP_MDS f g)

theorem FnApart : laws_FnApart.Pure := by
  intro a0 l1 l2 _ _ _ _ _ _ _
  refine ⟨44, ?_⟩
  unfold laws_FnApart.f
  by_cases d1 : (l1.length : Int) > 2147483647
  · rw [if_pos d1]; simp only [laws_FnApart.j0, if_true]
  rw [if_neg d1]
  by_cases d0 : (l2.length : Int) > 2147483647
  · rw [decide_eq_true d0]; simp only [laws_FnApart.j0, if_true]
  rw [decide_eq_false d0]
  simp only [laws_FnApart.j0, Bool.false_eq_true, if_false]
  rw [table_is, Option.bind_some]
  have htrue : laws_FnApart.j1 43 a0 l1 l2 table true = some true := by simp only [laws_FnApart.j1, if_true]
  have hlt : (table.length : Int) = 22 := rfl
  by_cases d2 : a0 < 0
  · rw [if_pos d2, htrue]
  rw [if_neg d2]
  by_cases d3 : a0 ≥ (table.length : Int)
  · rw [if_pos d3, htrue]
  rw [if_neg d3]
  by_cases d4 : (l1.length : Int) > 20
  · rw [if_pos d4, htrue]
  rw [if_neg d4]
  by_cases d5 : (l2.length : Int) > 20
  · rw [decide_eq_true d5, htrue]
  rw [decide_eq_false d5]
  have hz : a0 = 0 ∨ a0 = 1 ∨ a0 = 2 ∨ a0 = 3 ∨ a0 = 4 ∨ a0 = 5 ∨ a0 = 6 ∨ a0 = 7 ∨ a0 = 8 ∨ a0 = 9 ∨ a0 = 10 ∨ a0 = 11 ∨ a0 = 12 ∨ a0 = 13 ∨ a0 = 14 ∨ a0 = 15 ∨ a0 = 16 ∨ a0 = 17 ∨ a0 = 18 ∨ a0 = 19 ∨ a0 = 20 ∨ a0 = 21 := by omega
  rcases hz with rfl | rfl | rfl | rfl | rfl | rfl | rfl | rfl | rfl | rfl | rfl | rfl | rfl | rfl | rfl | rfl | rfl | rfl | rfl | rfl | rfl | rfl
  · exact apartly_AOP_RRR l1 l2 (by omega) (by omega)
  · exact apartly_AOP_RR l1 l2 (by omega) (by omega)
  · exact apartly_AOP_RRRR l1 l2 (by omega) (by omega)
  · exact apartly_AOP_IRR l1 l2 (by omega) (by omega)
  · exact apartly_AOP_VIRR l1 l2 (by omega) (by omega)
  · exact apartly_AOP_IIRR l1 l2 (by omega) (by omega)
  · exact apartly_AOP_IRRR l1 l2 (by omega) (by omega)
  · exact apartly_AOP_IR l1 l2 (by omega) (by omega)
  · exact apartly_AOP_XX1 l1 l2 (by omega) (by omega)
  · exact apartly_AOP_XX2 l1 l2 (by omega) (by omega)
  · exact apartly_AOP_XX3 l1 l2 (by omega) (by omega)
  · exact apartly_AOP_XX3I l1 l2 (by omega) (by omega)
  · exact apartly_AOP_XX4 l1 l2 (by omega) (by omega)
  · exact apartly_AOP_Z23I l1 l2 (by omega) (by omega)
  · exact apartly_AOP_RRRI l1 l2 (by omega) (by omega)
  · exact apartly_LOP_RRR l1 l2 (by omega) (by omega)
  · exact apartly_LOP_IRR l1 l2 (by omega) (by omega)
  · exact apartly_OP_BCR l1 l2 (by omega) (by omega)
  · exact apartly_OP_RLW l1 l2 (by omega) (by omega)
  · exact apartly_AOP_ISEL l1 l2 (by omega) (by omega)
  · exact apartly_AOP_MD l1 l2 (by omega) (by omega)
  · exact apartly_AOP_MDS l1 l2 (by omega) (by omega)

end Go.Proofs.Ytnfkdmoblncclaa.Pure
