/- The call of an encoder by its name. -/
import Derived.Test.YtnfkdmoblncclaaXEnc0
import Derived.Test.YtnfkdmoblncclaaXEnc1
namespace Go.Proofs.Ytnfkdmoblncclaa.X
open Go.RowKit Go.Proofs.YtnfkdmoblncclaaW.PrintWords Go.Proofs.YtnfkdmoblncclaaW.PrintLast Go.Proofs.YtnfkdmoblncclaaW.PrintMore
attribute [local go_sem] max2_int min2_int max_two min_two max_three min_three max_four min_four   -- for this text's walks alone
set_option linter.unusedVariables false
set_option linter.unusedSimpArgs false

def impl_encoded.f (a0 : ByteArray) (l1 : List Int) : Option (Int) := if a0 = (⟨#[79, 80, 86, 88, 88, 49]⟩ : ByteArray) then (if l1.length = 3 then ppc64obj_OPVXX1.f ((rd l1 0) % 4294967296) ((rd l1 1) % 4294967296) ((rd l1 2) % 4294967296) else none) else if a0 = (⟨#[79, 80, 86, 88, 88, 50]⟩ : ByteArray) then (if l1.length = 3 then ppc64obj_OPVXX2.f ((rd l1 0) % 4294967296) ((rd l1 1) % 4294967296) ((rd l1 2) % 4294967296) else none) else if a0 = (⟨#[79, 80, 86, 88, 88, 50, 86, 65]⟩ : ByteArray) then (if l1.length = 3 then ppc64obj_OPVXX2VA.f ((rd l1 0) % 4294967296) ((rd l1 1) % 4294967296) ((rd l1 2) % 4294967296) else none) else if a0 = (⟨#[79, 80, 86, 88, 88, 51]⟩ : ByteArray) then (if l1.length = 3 then ppc64obj_OPVXX3.f ((rd l1 0) % 4294967296) ((rd l1 1) % 4294967296) ((rd l1 2) % 4294967296) else none) else if a0 = (⟨#[79, 80, 86, 88, 88, 52]⟩ : ByteArray) then (if l1.length = 3 then ppc64obj_OPVXX4.f ((rd l1 0) % 4294967296) ((rd l1 1) % 4294967296) ((rd l1 2) % 4294967296) else none) else if a0 = (⟨#[79, 80, 68, 81]⟩ : ByteArray) then (if l1.length = 3 then ppc64obj_OPDQ.f ((rd l1 0) % 4294967296) ((rd l1 1) % 4294967296) ((rd l1 2) % 4294967296) else none) else if a0 = (⟨#[79, 80, 86, 88]⟩ : ByteArray) then (if l1.length = 4 then ppc64obj_OPVX.f ((rd l1 0) % 4294967296) ((rd l1 1) % 4294967296) ((rd l1 2) % 4294967296) ((rd l1 3) % 4294967296) else none) else if a0 = (⟨#[79, 80, 86, 67]⟩ : ByteArray) then (if l1.length = 4 then ppc64obj_OPVC.f ((rd l1 0) % 4294967296) ((rd l1 1) % 4294967296) ((rd l1 2) % 4294967296) ((rd l1 3) % 4294967296) else none) else if a0 = (⟨#[79, 80, 86, 67, 67]⟩ : ByteArray) then (if l1.length = 4 then ppc64obj_OPVCC.f ((rd l1 0) % 4294967296) ((rd l1 1) % 4294967296) ((rd l1 2) % 4294967296) ((rd l1 3) % 4294967296) else none) else if a0 = (⟨#[79, 80, 77, 68]⟩ : ByteArray) then (if l1.length = 3 then ppc64obj_OPMD.f ((rd l1 0) % 4294967296) ((rd l1 1) % 4294967296) ((rd l1 2) % 4294967296) else none) else if a0 = (⟨#[65, 79, 80, 95, 82, 82, 82]⟩ : ByteArray) then (if l1.length = 4 then ppc64obj_AOP_RRR.f ((rd l1 0) % 4294967296) ((rd l1 1) % 4294967296) ((rd l1 2) % 4294967296) ((rd l1 3) % 4294967296) else none) else if a0 = (⟨#[65, 79, 80, 95, 82, 82]⟩ : ByteArray) then (if l1.length = 3 then ppc64obj_AOP_RR.f ((rd l1 0) % 4294967296) ((rd l1 1) % 4294967296) ((rd l1 2) % 4294967296) else none) else if a0 = (⟨#[65, 79, 80, 95, 82, 82, 82, 82]⟩ : ByteArray) then (if l1.length = 5 then ppc64obj_AOP_RRRR.f ((rd l1 0) % 4294967296) ((rd l1 1) % 4294967296) ((rd l1 2) % 4294967296) ((rd l1 3) % 4294967296) ((rd l1 4) % 4294967296) else none) else if a0 = (⟨#[65, 79, 80, 95, 73, 82, 82]⟩ : ByteArray) then (if l1.length = 4 then ppc64obj_AOP_IRR.f ((rd l1 0) % 4294967296) ((rd l1 1) % 4294967296) ((rd l1 2) % 4294967296) ((rd l1 3) % 4294967296) else none) else if a0 = (⟨#[65, 79, 80, 95, 86, 73, 82, 82]⟩ : ByteArray) then (if l1.length = 4 then ppc64obj_AOP_VIRR.f ((rd l1 0) % 4294967296) ((rd l1 1) % 4294967296) ((rd l1 2) % 4294967296) ((rd l1 3) % 4294967296) else none) else if a0 = (⟨#[65, 79, 80, 95, 73, 73, 82, 82]⟩ : ByteArray) then (if l1.length = 5 then ppc64obj_AOP_IIRR.f ((rd l1 0) % 4294967296) ((rd l1 1) % 4294967296) ((rd l1 2) % 4294967296) ((rd l1 3) % 4294967296) ((rd l1 4) % 4294967296) else none) else if a0 = (⟨#[65, 79, 80, 95, 73, 82, 82, 82]⟩ : ByteArray) then (if l1.length = 5 then ppc64obj_AOP_IRRR.f ((rd l1 0) % 4294967296) ((rd l1 1) % 4294967296) ((rd l1 2) % 4294967296) ((rd l1 3) % 4294967296) ((rd l1 4) % 4294967296) else none) else if a0 = (⟨#[65, 79, 80, 95, 73, 82]⟩ : ByteArray) then (if l1.length = 3 then ppc64obj_AOP_IR.f ((rd l1 0) % 4294967296) ((rd l1 1) % 4294967296) ((rd l1 2) % 4294967296) else none) else if a0 = (⟨#[65, 79, 80, 95, 88, 88, 49]⟩ : ByteArray) then (if l1.length = 4 then ppc64obj_AOP_XX1.f ((rd l1 0) % 4294967296) ((rd l1 1) % 4294967296) ((rd l1 2) % 4294967296) ((rd l1 3) % 4294967296) else none) else if a0 = (⟨#[65, 79, 80, 95, 88, 88, 50]⟩ : ByteArray) then (if l1.length = 4 then ppc64obj_AOP_XX2.f ((rd l1 0) % 4294967296) ((rd l1 1) % 4294967296) ((rd l1 2) % 4294967296) ((rd l1 3) % 4294967296) else none) else if a0 = (⟨#[65, 79, 80, 95, 88, 88, 51]⟩ : ByteArray) then (if l1.length = 4 then ppc64obj_AOP_XX3.f ((rd l1 0) % 4294967296) ((rd l1 1) % 4294967296) ((rd l1 2) % 4294967296) ((rd l1 3) % 4294967296) else none) else if a0 = (⟨#[65, 79, 80, 95, 88, 88, 51, 73]⟩ : ByteArray) then (if l1.length = 5 then ppc64obj_AOP_XX3I.f ((rd l1 0) % 4294967296) ((rd l1 1) % 4294967296) ((rd l1 2) % 4294967296) ((rd l1 3) % 4294967296) ((rd l1 4) % 4294967296) else none) else if a0 = (⟨#[65, 79, 80, 95, 88, 88, 52]⟩ : ByteArray) then (if l1.length = 5 then ppc64obj_AOP_XX4.f ((rd l1 0) % 4294967296) ((rd l1 1) % 4294967296) ((rd l1 2) % 4294967296) ((rd l1 3) % 4294967296) ((rd l1 4) % 4294967296) else none) else if a0 = (⟨#[65, 79, 80, 95, 68, 81]⟩ : ByteArray) then (if l1.length = 4 then ppc64obj_AOP_DQ.f ((rd l1 0) % 4294967296) ((rd l1 1) % 4294967296) ((rd l1 2) % 4294967296) ((rd l1 3) % 4294967296) else none) else if a0 = (⟨#[65, 79, 80, 95, 90, 50, 51, 73]⟩ : ByteArray) then (if l1.length = 5 then ppc64obj_AOP_Z23I.f ((rd l1 0) % 4294967296) ((rd l1 1) % 4294967296) ((rd l1 2) % 4294967296) ((rd l1 3) % 4294967296) ((rd l1 4) % 4294967296) else none) else if a0 = (⟨#[65, 79, 80, 95, 82, 82, 82, 73]⟩ : ByteArray) then (if l1.length = 5 then ppc64obj_AOP_RRRI.f ((rd l1 0) % 4294967296) ((rd l1 1) % 4294967296) ((rd l1 2) % 4294967296) ((rd l1 3) % 4294967296) ((rd l1 4) % 4294967296) else none) else if a0 = (⟨#[76, 79, 80, 95, 82, 82, 82]⟩ : ByteArray) then (if l1.length = 4 then ppc64obj_LOP_RRR.f ((rd l1 0) % 4294967296) ((rd l1 1) % 4294967296) ((rd l1 2) % 4294967296) ((rd l1 3) % 4294967296) else none) else if a0 = (⟨#[76, 79, 80, 95, 73, 82, 82]⟩ : ByteArray) then (if l1.length = 4 then ppc64obj_LOP_IRR.f ((rd l1 0) % 4294967296) ((rd l1 1) % 4294967296) ((rd l1 2) % 4294967296) ((rd l1 3) % 4294967296) else none) else if a0 = (⟨#[79, 80, 95, 66, 82]⟩ : ByteArray) then (if l1.length = 3 then ppc64obj_OP_BR.f ((rd l1 0) % 4294967296) ((rd l1 1) % 4294967296) ((rd l1 2) % 4294967296) else none) else if a0 = (⟨#[79, 80, 95, 66, 67]⟩ : ByteArray) then (if l1.length = 5 then ppc64obj_OP_BC.f ((rd l1 0) % 4294967296) ((rd l1 1) % 4294967296) ((rd l1 2) % 4294967296) ((rd l1 3) % 4294967296) ((rd l1 4) % 4294967296) else none) else if a0 = (⟨#[79, 80, 95, 66, 67, 82]⟩ : ByteArray) then (if l1.length = 3 then ppc64obj_OP_BCR.f ((rd l1 0) % 4294967296) ((rd l1 1) % 4294967296) ((rd l1 2) % 4294967296) else none) else if a0 = (⟨#[79, 80, 95, 82, 76, 87]⟩ : ByteArray) then (if l1.length = 6 then ppc64obj_OP_RLW.f ((rd l1 0) % 4294967296) ((rd l1 1) % 4294967296) ((rd l1 2) % 4294967296) ((rd l1 3) % 4294967296) ((rd l1 4) % 4294967296) ((rd l1 5) % 4294967296) else none) else if a0 = (⟨#[65, 79, 80, 95, 69, 88, 84, 83, 87, 83, 76, 73]⟩ : ByteArray) then (if l1.length = 4 then ppc64obj_AOP_EXTSWSLI.f ((rd l1 0) % 4294967296) ((rd l1 1) % 4294967296) ((rd l1 2) % 4294967296) ((rd l1 3) % 4294967296) else none) else if a0 = (⟨#[65, 79, 80, 95, 73, 83, 69, 76]⟩ : ByteArray) then (if l1.length = 5 then ppc64obj_AOP_ISEL.f ((rd l1 0) % 4294967296) ((rd l1 1) % 4294967296) ((rd l1 2) % 4294967296) ((rd l1 3) % 4294967296) ((rd l1 4) % 4294967296) else none) else if a0 = (⟨#[65, 79, 80, 95, 77, 68]⟩ : ByteArray) then (if l1.length = 5 then ppc64obj_AOP_MD.f ((rd l1 0) % 4294967296) ((rd l1 1) % 4294967296) ((rd l1 2) % 4294967296) ((rd l1 3) % 4294967296) ((rd l1 4) % 4294967296) else none) else if a0 = (⟨#[65, 79, 80, 95, 77, 68, 83]⟩ : ByteArray) then (if l1.length = 5 then ppc64obj_AOP_MDS.f ((rd l1 0) % 4294967296) ((rd l1 1) % 4294967296) ((rd l1 2) % 4294967296) ((rd l1 3) % 4294967296) ((rd l1 4) % 4294967296) else none) else if a0 = (⟨#[65, 79, 80, 95, 80, 70, 88, 95, 48, 48, 95, 56, 76, 83]⟩ : ByteArray) then (if l1.length = 2 then ppc64obj_AOP_PFX_00_8LS.f ((rd l1 0) % 4294967296) ((rd l1 1) % 4294967296) else none) else if a0 = (⟨#[65, 79, 80, 95, 80, 70, 88, 95, 49, 48, 95, 77, 76, 83]⟩ : ByteArray) then (if l1.length = 2 then ppc64obj_AOP_PFX_10_MLS.f ((rd l1 0) % 4294967296) ((rd l1 1) % 4294967296) else none) else none
set_option maxRecDepth 100000 in
theorem impl_encoded.calls (a0 : ByteArray) (A1 : Option Addr) (c1 : Nat) (l1 : List Int) (r : Int) (w : World) (hr1 : Kd.C (Kd.int .i64) w A1 l1.length l1) (_hc1 : l1.length ≤ c1) (h : impl_encoded.f a0 l1 = some r) :
    Calls Try.prog 22 #[.string a0, .slice A1 l1.length c1] w fun e w' => e = .returned (.int .u32 r) ∧ Drawn0 w w' := by
  unfold impl_encoded.f at h
  by_cases e : a0 = (⟨#[79, 80, 86, 88, 88, 49]⟩ : ByteArray)
  · rw [if_pos e] at h; subst e
    by_cases hn : l1.length = 3
    · rw [if_pos hn] at h; exact encoded_OPVXX1 A1 c1 l1 r w hr1 hn h
    · rw [if_neg hn] at h; cases h
  rw [if_neg e] at h; clear e
  by_cases e : a0 = (⟨#[79, 80, 86, 88, 88, 50]⟩ : ByteArray)
  · rw [if_pos e] at h; subst e
    by_cases hn : l1.length = 3
    · rw [if_pos hn] at h; exact encoded_OPVXX2 A1 c1 l1 r w hr1 hn h
    · rw [if_neg hn] at h; cases h
  rw [if_neg e] at h; clear e
  by_cases e : a0 = (⟨#[79, 80, 86, 88, 88, 50, 86, 65]⟩ : ByteArray)
  · rw [if_pos e] at h; subst e
    by_cases hn : l1.length = 3
    · rw [if_pos hn] at h; exact encoded_OPVXX2VA A1 c1 l1 r w hr1 hn h
    · rw [if_neg hn] at h; cases h
  rw [if_neg e] at h; clear e
  by_cases e : a0 = (⟨#[79, 80, 86, 88, 88, 51]⟩ : ByteArray)
  · rw [if_pos e] at h; subst e
    by_cases hn : l1.length = 3
    · rw [if_pos hn] at h; exact encoded_OPVXX3 A1 c1 l1 r w hr1 hn h
    · rw [if_neg hn] at h; cases h
  rw [if_neg e] at h; clear e
  by_cases e : a0 = (⟨#[79, 80, 86, 88, 88, 52]⟩ : ByteArray)
  · rw [if_pos e] at h; subst e
    by_cases hn : l1.length = 3
    · rw [if_pos hn] at h; exact encoded_OPVXX4 A1 c1 l1 r w hr1 hn h
    · rw [if_neg hn] at h; cases h
  rw [if_neg e] at h; clear e
  by_cases e : a0 = (⟨#[79, 80, 68, 81]⟩ : ByteArray)
  · rw [if_pos e] at h; subst e
    by_cases hn : l1.length = 3
    · rw [if_pos hn] at h; exact encoded_OPDQ A1 c1 l1 r w hr1 hn h
    · rw [if_neg hn] at h; cases h
  rw [if_neg e] at h; clear e
  by_cases e : a0 = (⟨#[79, 80, 86, 88]⟩ : ByteArray)
  · rw [if_pos e] at h; subst e
    by_cases hn : l1.length = 4
    · rw [if_pos hn] at h; exact encoded_OPVX A1 c1 l1 r w hr1 hn h
    · rw [if_neg hn] at h; cases h
  rw [if_neg e] at h; clear e
  by_cases e : a0 = (⟨#[79, 80, 86, 67]⟩ : ByteArray)
  · rw [if_pos e] at h; subst e
    by_cases hn : l1.length = 4
    · rw [if_pos hn] at h; exact encoded_OPVC A1 c1 l1 r w hr1 hn h
    · rw [if_neg hn] at h; cases h
  rw [if_neg e] at h; clear e
  by_cases e : a0 = (⟨#[79, 80, 86, 67, 67]⟩ : ByteArray)
  · rw [if_pos e] at h; subst e
    by_cases hn : l1.length = 4
    · rw [if_pos hn] at h; exact encoded_OPVCC A1 c1 l1 r w hr1 hn h
    · rw [if_neg hn] at h; cases h
  rw [if_neg e] at h; clear e
  by_cases e : a0 = (⟨#[79, 80, 77, 68]⟩ : ByteArray)
  · rw [if_pos e] at h; subst e
    by_cases hn : l1.length = 3
    · rw [if_pos hn] at h; exact encoded_OPMD A1 c1 l1 r w hr1 hn h
    · rw [if_neg hn] at h; cases h
  rw [if_neg e] at h; clear e
  by_cases e : a0 = (⟨#[65, 79, 80, 95, 82, 82, 82]⟩ : ByteArray)
  · rw [if_pos e] at h; subst e
    by_cases hn : l1.length = 4
    · rw [if_pos hn] at h; exact encoded_AOP_RRR A1 c1 l1 r w hr1 hn h
    · rw [if_neg hn] at h; cases h
  rw [if_neg e] at h; clear e
  by_cases e : a0 = (⟨#[65, 79, 80, 95, 82, 82]⟩ : ByteArray)
  · rw [if_pos e] at h; subst e
    by_cases hn : l1.length = 3
    · rw [if_pos hn] at h; exact encoded_AOP_RR A1 c1 l1 r w hr1 hn h
    · rw [if_neg hn] at h; cases h
  rw [if_neg e] at h; clear e
  by_cases e : a0 = (⟨#[65, 79, 80, 95, 82, 82, 82, 82]⟩ : ByteArray)
  · rw [if_pos e] at h; subst e
    by_cases hn : l1.length = 5
    · rw [if_pos hn] at h; exact encoded_AOP_RRRR A1 c1 l1 r w hr1 hn h
    · rw [if_neg hn] at h; cases h
  rw [if_neg e] at h; clear e
  by_cases e : a0 = (⟨#[65, 79, 80, 95, 73, 82, 82]⟩ : ByteArray)
  · rw [if_pos e] at h; subst e
    by_cases hn : l1.length = 4
    · rw [if_pos hn] at h; exact encoded_AOP_IRR A1 c1 l1 r w hr1 hn h
    · rw [if_neg hn] at h; cases h
  rw [if_neg e] at h; clear e
  by_cases e : a0 = (⟨#[65, 79, 80, 95, 86, 73, 82, 82]⟩ : ByteArray)
  · rw [if_pos e] at h; subst e
    by_cases hn : l1.length = 4
    · rw [if_pos hn] at h; exact encoded_AOP_VIRR A1 c1 l1 r w hr1 hn h
    · rw [if_neg hn] at h; cases h
  rw [if_neg e] at h; clear e
  by_cases e : a0 = (⟨#[65, 79, 80, 95, 73, 73, 82, 82]⟩ : ByteArray)
  · rw [if_pos e] at h; subst e
    by_cases hn : l1.length = 5
    · rw [if_pos hn] at h; exact encoded_AOP_IIRR A1 c1 l1 r w hr1 hn h
    · rw [if_neg hn] at h; cases h
  rw [if_neg e] at h; clear e
  by_cases e : a0 = (⟨#[65, 79, 80, 95, 73, 82, 82, 82]⟩ : ByteArray)
  · rw [if_pos e] at h; subst e
    by_cases hn : l1.length = 5
    · rw [if_pos hn] at h; exact encoded_AOP_IRRR A1 c1 l1 r w hr1 hn h
    · rw [if_neg hn] at h; cases h
  rw [if_neg e] at h; clear e
  by_cases e : a0 = (⟨#[65, 79, 80, 95, 73, 82]⟩ : ByteArray)
  · rw [if_pos e] at h; subst e
    by_cases hn : l1.length = 3
    · rw [if_pos hn] at h; exact encoded_AOP_IR A1 c1 l1 r w hr1 hn h
    · rw [if_neg hn] at h; cases h
  rw [if_neg e] at h; clear e
  by_cases e : a0 = (⟨#[65, 79, 80, 95, 88, 88, 49]⟩ : ByteArray)
  · rw [if_pos e] at h; subst e
    by_cases hn : l1.length = 4
    · rw [if_pos hn] at h; exact encoded_AOP_XX1 A1 c1 l1 r w hr1 hn h
    · rw [if_neg hn] at h; cases h
  rw [if_neg e] at h; clear e
  by_cases e : a0 = (⟨#[65, 79, 80, 95, 88, 88, 50]⟩ : ByteArray)
  · rw [if_pos e] at h; subst e
    by_cases hn : l1.length = 4
    · rw [if_pos hn] at h; exact encoded_AOP_XX2 A1 c1 l1 r w hr1 hn h
    · rw [if_neg hn] at h; cases h
  rw [if_neg e] at h; clear e
  by_cases e : a0 = (⟨#[65, 79, 80, 95, 88, 88, 51]⟩ : ByteArray)
  · rw [if_pos e] at h; subst e
    by_cases hn : l1.length = 4
    · rw [if_pos hn] at h; exact encoded_AOP_XX3 A1 c1 l1 r w hr1 hn h
    · rw [if_neg hn] at h; cases h
  rw [if_neg e] at h; clear e
  by_cases e : a0 = (⟨#[65, 79, 80, 95, 88, 88, 51, 73]⟩ : ByteArray)
  · rw [if_pos e] at h; subst e
    by_cases hn : l1.length = 5
    · rw [if_pos hn] at h; exact encoded_AOP_XX3I A1 c1 l1 r w hr1 hn h
    · rw [if_neg hn] at h; cases h
  rw [if_neg e] at h; clear e
  by_cases e : a0 = (⟨#[65, 79, 80, 95, 88, 88, 52]⟩ : ByteArray)
  · rw [if_pos e] at h; subst e
    by_cases hn : l1.length = 5
    · rw [if_pos hn] at h; exact encoded_AOP_XX4 A1 c1 l1 r w hr1 hn h
    · rw [if_neg hn] at h; cases h
  rw [if_neg e] at h; clear e
  by_cases e : a0 = (⟨#[65, 79, 80, 95, 68, 81]⟩ : ByteArray)
  · rw [if_pos e] at h; subst e
    by_cases hn : l1.length = 4
    · rw [if_pos hn] at h; exact encoded_AOP_DQ A1 c1 l1 r w hr1 hn h
    · rw [if_neg hn] at h; cases h
  rw [if_neg e] at h; clear e
  by_cases e : a0 = (⟨#[65, 79, 80, 95, 90, 50, 51, 73]⟩ : ByteArray)
  · rw [if_pos e] at h; subst e
    by_cases hn : l1.length = 5
    · rw [if_pos hn] at h; exact encoded_AOP_Z23I A1 c1 l1 r w hr1 hn h
    · rw [if_neg hn] at h; cases h
  rw [if_neg e] at h; clear e
  by_cases e : a0 = (⟨#[65, 79, 80, 95, 82, 82, 82, 73]⟩ : ByteArray)
  · rw [if_pos e] at h; subst e
    by_cases hn : l1.length = 5
    · rw [if_pos hn] at h; exact encoded_AOP_RRRI A1 c1 l1 r w hr1 hn h
    · rw [if_neg hn] at h; cases h
  rw [if_neg e] at h; clear e
  by_cases e : a0 = (⟨#[76, 79, 80, 95, 82, 82, 82]⟩ : ByteArray)
  · rw [if_pos e] at h; subst e
    by_cases hn : l1.length = 4
    · rw [if_pos hn] at h; exact encoded_LOP_RRR A1 c1 l1 r w hr1 hn h
    · rw [if_neg hn] at h; cases h
  rw [if_neg e] at h; clear e
  by_cases e : a0 = (⟨#[76, 79, 80, 95, 73, 82, 82]⟩ : ByteArray)
  · rw [if_pos e] at h; subst e
    by_cases hn : l1.length = 4
    · rw [if_pos hn] at h; exact encoded_LOP_IRR A1 c1 l1 r w hr1 hn h
    · rw [if_neg hn] at h; cases h
  rw [if_neg e] at h; clear e
  by_cases e : a0 = (⟨#[79, 80, 95, 66, 82]⟩ : ByteArray)
  · rw [if_pos e] at h; subst e
    by_cases hn : l1.length = 3
    · rw [if_pos hn] at h; exact encoded_OP_BR A1 c1 l1 r w hr1 hn h
    · rw [if_neg hn] at h; cases h
  rw [if_neg e] at h; clear e
  by_cases e : a0 = (⟨#[79, 80, 95, 66, 67]⟩ : ByteArray)
  · rw [if_pos e] at h; subst e
    by_cases hn : l1.length = 5
    · rw [if_pos hn] at h; exact encoded_OP_BC A1 c1 l1 r w hr1 hn h
    · rw [if_neg hn] at h; cases h
  rw [if_neg e] at h; clear e
  by_cases e : a0 = (⟨#[79, 80, 95, 66, 67, 82]⟩ : ByteArray)
  · rw [if_pos e] at h; subst e
    by_cases hn : l1.length = 3
    · rw [if_pos hn] at h; exact encoded_OP_BCR A1 c1 l1 r w hr1 hn h
    · rw [if_neg hn] at h; cases h
  rw [if_neg e] at h; clear e
  by_cases e : a0 = (⟨#[79, 80, 95, 82, 76, 87]⟩ : ByteArray)
  · rw [if_pos e] at h; subst e
    by_cases hn : l1.length = 6
    · rw [if_pos hn] at h; exact encoded_OP_RLW A1 c1 l1 r w hr1 hn h
    · rw [if_neg hn] at h; cases h
  rw [if_neg e] at h; clear e
  by_cases e : a0 = (⟨#[65, 79, 80, 95, 69, 88, 84, 83, 87, 83, 76, 73]⟩ : ByteArray)
  · rw [if_pos e] at h; subst e
    by_cases hn : l1.length = 4
    · rw [if_pos hn] at h; exact encoded_AOP_EXTSWSLI A1 c1 l1 r w hr1 hn h
    · rw [if_neg hn] at h; cases h
  rw [if_neg e] at h; clear e
  by_cases e : a0 = (⟨#[65, 79, 80, 95, 73, 83, 69, 76]⟩ : ByteArray)
  · rw [if_pos e] at h; subst e
    by_cases hn : l1.length = 5
    · rw [if_pos hn] at h; exact encoded_AOP_ISEL A1 c1 l1 r w hr1 hn h
    · rw [if_neg hn] at h; cases h
  rw [if_neg e] at h; clear e
  by_cases e : a0 = (⟨#[65, 79, 80, 95, 77, 68]⟩ : ByteArray)
  · rw [if_pos e] at h; subst e
    by_cases hn : l1.length = 5
    · rw [if_pos hn] at h; exact encoded_AOP_MD A1 c1 l1 r w hr1 hn h
    · rw [if_neg hn] at h; cases h
  rw [if_neg e] at h; clear e
  by_cases e : a0 = (⟨#[65, 79, 80, 95, 77, 68, 83]⟩ : ByteArray)
  · rw [if_pos e] at h; subst e
    by_cases hn : l1.length = 5
    · rw [if_pos hn] at h; exact encoded_AOP_MDS A1 c1 l1 r w hr1 hn h
    · rw [if_neg hn] at h; cases h
  rw [if_neg e] at h; clear e
  by_cases e : a0 = (⟨#[65, 79, 80, 95, 80, 70, 88, 95, 48, 48, 95, 56, 76, 83]⟩ : ByteArray)
  · rw [if_pos e] at h; subst e
    by_cases hn : l1.length = 2
    · rw [if_pos hn] at h; exact encoded_AOP_PFX_00_8LS A1 c1 l1 r w hr1 hn h
    · rw [if_neg hn] at h; cases h
  rw [if_neg e] at h; clear e
  by_cases e : a0 = (⟨#[65, 79, 80, 95, 80, 70, 88, 95, 49, 48, 95, 77, 76, 83]⟩ : ByteArray)
  · rw [if_pos e] at h; subst e
    by_cases hn : l1.length = 2
    · rw [if_pos hn] at h; exact encoded_AOP_PFX_10_MLS A1 c1 l1 r w hr1 hn h
    · rw [if_neg hn] at h; cases h
  rw [if_neg e] at h; clear e
  cases h

end Go.Proofs.Ytnfkdmoblncclaa.X
