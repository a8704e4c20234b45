/-
  No cell of these rows narrows 'for every input' (looked for: loops, veiled, ifaces, maps, wideKeys, modest, calm, conditions, laid).
  DERIVED. THE GIVEN ROWS OF THIS SEAT. 8 by the template 'for every input the law returns true; each argument reads behind the call as it read before'; 0 by the template 'total and deterministic' (their statements: YtnfkdmoblncclaaTotals.lean).
  GIVEN WITH THE SEED: the statements are not yours to turn. If you find one false, say at which input.
  Laid BY PROGRAM, IN A SANDBOX (cutbox-rows.mjs): the forced cells as the released guide's own fill.sh prints them over the translation 12e975bc60f005c3… (all of the seat's roots in one cut). By AI agents, Wed Nov 11 2026. No macro, syntax, notation, axiom, sorry.
-/
import Derived.Test.YtnfkdmoblncclaaChecked
import GoSem.Claim
import GoSem.ClaimJoined
import GoSem.ClaimMapViews
import Derived.JoinedTies
import Derived.KernelRfl
namespace Go.Proofs.Ytnfkdmoblncclaa
/- THE CELL 'sum', in the pinned program and in every row, IS THE sha256 OF THE DUMP (.gsa) THAT YtnfkdmoblncclaaProg.lean LOADS. Nothing in Lean hashes anything: it is a label: what it is worth is what the hold of that sum in a sandbox is worth. -/
noncomputable def Try.pinned : Pinned := { name := "ytnfkdmoblncclaa", sum := "12e975bc60f005c3a546f991d8e71d02d8913ce8e317cd72c9169d20f77e09ab", checked := Try.checked }
namespace Rows
def none {H : Type} : Left H := { results := [], args := [] }

/-- 'laws.FnApart': WHATEVER THE INPUT: true; the input reads as it did. -/
def fnApartSpec : ChangeSpec := { name := "fnApart", fn := fun _ => fun
  | [d1, d2, d3] => { results := [.lit (.bool true)], args := [d1, d2, d3] }
  | _ => none }
def fnApartRow : OpenClaim := { program := "ytnfkdmoblncclaa", sum := "12e975bc60f005c3a546f991d8e71d02d8913ce8e317cd72c9169d20f77e09ab", func := "loop.example/pub-g03353/laws.FnApart", spec := "fnApart", apart := false }
def FnApartSaid : Prop := fnApartRow.holds Try.pinned (OpenSpec.ofChange fnApartSpec)

/-- ITS FALSE NEIGHBOUR: 'it returns false'. Refute it at one input. -/
def fnApartWrong : ChangeSpec := { name := "fnApart", fn := fun _ => fun
  | [d1, d2, d3] => { results := [.lit (.bool false)], args := [d1, d2, d3] }
  | _ => none }
def FnApartWrongFalsely : Prop := fnApartRow.holds Try.pinned (OpenSpec.ofChange fnApartWrong)

/-- 'laws.FnBranch': WHATEVER THE INPUT: true; the input reads as it did. -/
def fnBranchSpec : ChangeSpec := { name := "fnBranch", fn := fun _ => fun
  | [d1, d2, d3] => { results := [.lit (.bool true)], args := [d1, d2, d3] }
  | _ => none }
def fnBranchRow : OpenClaim := { program := "ytnfkdmoblncclaa", sum := "12e975bc60f005c3a546f991d8e71d02d8913ce8e317cd72c9169d20f77e09ab", func := "loop.example/pub-g03353/laws.FnBranch", spec := "fnBranch", apart := false }
def FnBranchSaid : Prop := fnBranchRow.holds Try.pinned (OpenSpec.ofChange fnBranchSpec)

/-- ITS FALSE NEIGHBOUR: 'it returns false'. Refute it at one input. -/
def fnBranchWrong : ChangeSpec := { name := "fnBranch", fn := fun _ => fun
  | [d1, d2, d3] => { results := [.lit (.bool false)], args := [d1, d2, d3] }
  | _ => none }
def FnBranchWrongFalsely : Prop := fnBranchRow.holds Try.pinned (OpenSpec.ofChange fnBranchWrong)

/-- 'laws.FnBranchIf': WHATEVER THE INPUT: true; the input reads as it did. -/
def fnBranchIfSpec : ChangeSpec := { name := "fnBranchIf", fn := fun _ => fun
  | [d1, d2, d3, d4, d5] => { results := [.lit (.bool true)], args := [d1, d2, d3, d4, d5] }
  | _ => none }
def fnBranchIfRow : OpenClaim := { program := "ytnfkdmoblncclaa", sum := "12e975bc60f005c3a546f991d8e71d02d8913ce8e317cd72c9169d20f77e09ab", func := "loop.example/pub-g03353/laws.FnBranchIf", spec := "fnBranchIf", apart := false }
def FnBranchIfSaid : Prop := fnBranchIfRow.holds Try.pinned (OpenSpec.ofChange fnBranchIfSpec)

/-- ITS FALSE NEIGHBOUR: 'it returns false'. Refute it at one input. -/
def fnBranchIfWrong : ChangeSpec := { name := "fnBranchIf", fn := fun _ => fun
  | [d1, d2, d3, d4, d5] => { results := [.lit (.bool false)], args := [d1, d2, d3, d4, d5] }
  | _ => none }
def FnBranchIfWrongFalsely : Prop := fnBranchIfRow.holds Try.pinned (OpenSpec.ofChange fnBranchIfWrong)

/-- 'laws.FnCodes': WHATEVER THE INPUT: true; the input reads as it did. -/
def fnCodesSpec : ChangeSpec := { name := "fnCodes", fn := fun _ => fun
  | [d1, d2] => { results := [.lit (.bool true)], args := [d1, d2] }
  | _ => none }
def fnCodesRow : OpenClaim := { program := "ytnfkdmoblncclaa", sum := "12e975bc60f005c3a546f991d8e71d02d8913ce8e317cd72c9169d20f77e09ab", func := "loop.example/pub-g03353/laws.FnCodes", spec := "fnCodes", apart := false }
def FnCodesSaid : Prop := fnCodesRow.holds Try.pinned (OpenSpec.ofChange fnCodesSpec)

/-- ITS FALSE NEIGHBOUR: 'it returns false'. Refute it at one input. -/
def fnCodesWrong : ChangeSpec := { name := "fnCodes", fn := fun _ => fun
  | [d1, d2] => { results := [.lit (.bool false)], args := [d1, d2] }
  | _ => none }
def FnCodesWrongFalsely : Prop := fnCodesRow.holds Try.pinned (OpenSpec.ofChange fnCodesWrong)

/-- 'laws.FnFields': WHATEVER THE INPUT: true; the input reads as it did. -/
def fnFieldsSpec : ChangeSpec := { name := "fnFields", fn := fun _ => fun
  | [d1, d2, d3] => { results := [.lit (.bool true)], args := [d1, d2, d3] }
  | _ => none }
def fnFieldsRow : OpenClaim := { program := "ytnfkdmoblncclaa", sum := "12e975bc60f005c3a546f991d8e71d02d8913ce8e317cd72c9169d20f77e09ab", func := "loop.example/pub-g03353/laws.FnFields", spec := "fnFields", apart := false }
def FnFieldsSaid : Prop := fnFieldsRow.holds Try.pinned (OpenSpec.ofChange fnFieldsSpec)

/-- ITS FALSE NEIGHBOUR: 'it returns false'. Refute it at one input. -/
def fnFieldsWrong : ChangeSpec := { name := "fnFields", fn := fun _ => fun
  | [d1, d2, d3] => { results := [.lit (.bool false)], args := [d1, d2, d3] }
  | _ => none }
def FnFieldsWrongFalsely : Prop := fnFieldsRow.holds Try.pinned (OpenSpec.ofChange fnFieldsWrong)

/-- 'laws.FnNone': WHATEVER THE INPUT: true; the input reads as it did. -/
def fnNoneSpec : ChangeSpec := { name := "fnNone", fn := fun _ => fun
  | [d1, d2] => { results := [.lit (.bool true)], args := [d1, d2] }
  | _ => none }
def fnNoneRow : OpenClaim := { program := "ytnfkdmoblncclaa", sum := "12e975bc60f005c3a546f991d8e71d02d8913ce8e317cd72c9169d20f77e09ab", func := "loop.example/pub-g03353/laws.FnNone", spec := "fnNone", apart := false }
def FnNoneSaid : Prop := fnNoneRow.holds Try.pinned (OpenSpec.ofChange fnNoneSpec)

/-- ITS FALSE NEIGHBOUR: 'it returns false'. Refute it at one input. -/
def fnNoneWrong : ChangeSpec := { name := "fnNone", fn := fun _ => fun
  | [d1, d2] => { results := [.lit (.bool false)], args := [d1, d2] }
  | _ => none }
def FnNoneWrongFalsely : Prop := fnNoneRow.holds Try.pinned (OpenSpec.ofChange fnNoneWrong)

/-- 'laws.FnPrefix': WHATEVER THE INPUT: true; the input reads as it did. -/
def fnPrefixSpec : ChangeSpec := { name := "fnPrefix", fn := fun _ => fun
  | [d1, d2] => { results := [.lit (.bool true)], args := [d1, d2] }
  | _ => none }
def fnPrefixRow : OpenClaim := { program := "ytnfkdmoblncclaa", sum := "12e975bc60f005c3a546f991d8e71d02d8913ce8e317cd72c9169d20f77e09ab", func := "loop.example/pub-g03353/laws.FnPrefix", spec := "fnPrefix", apart := false }
def FnPrefixSaid : Prop := fnPrefixRow.holds Try.pinned (OpenSpec.ofChange fnPrefixSpec)

/-- ITS FALSE NEIGHBOUR: 'it returns false'. Refute it at one input. -/
def fnPrefixWrong : ChangeSpec := { name := "fnPrefix", fn := fun _ => fun
  | [d1, d2] => { results := [.lit (.bool false)], args := [d1, d2] }
  | _ => none }
def FnPrefixWrongFalsely : Prop := fnPrefixRow.holds Try.pinned (OpenSpec.ofChange fnPrefixWrong)

/-- 'laws.FnSixteens': WHATEVER THE INPUT: true; the input reads as it did. -/
def fnSixteensSpec : ChangeSpec := { name := "fnSixteens", fn := fun _ => fun
  | [d1, d2, d3, d4] => { results := [.lit (.bool true)], args := [d1, d2, d3, d4] }
  | _ => none }
def fnSixteensRow : OpenClaim := { program := "ytnfkdmoblncclaa", sum := "12e975bc60f005c3a546f991d8e71d02d8913ce8e317cd72c9169d20f77e09ab", func := "loop.example/pub-g03353/laws.FnSixteens", spec := "fnSixteens", apart := false }
def FnSixteensSaid : Prop := fnSixteensRow.holds Try.pinned (OpenSpec.ofChange fnSixteensSpec)

/-- ITS FALSE NEIGHBOUR: 'it returns false'. Refute it at one input. -/
def fnSixteensWrong : ChangeSpec := { name := "fnSixteens", fn := fun _ => fun
  | [d1, d2, d3, d4] => { results := [.lit (.bool false)], args := [d1, d2, d3, d4] }
  | _ => none }
def FnSixteensWrongFalsely : Prop := fnSixteensRow.holds Try.pinned (OpenSpec.ofChange fnSixteensWrong)

/- THE SECOND FORM. 'bulk': how many values and letters a reading holds, each counted each time it is reached (what is shared counts as often as it is met; a slice's spare places count too). A statement '..UptoSaid' is the law's where the arguments, and the package variables that the reading takes, are together of bulk at most 1048576: NARROWER than '..Said'. Prove '..Said' where nothing that the law and all that it calls make is longer than what came in: it says more and counts as full. Else prove '..UptoSaid'. A law counts once. -/
mutual
def uptoBulk {H : Type} : DataW H → Nat
  | .lit (.string bytes) => bytes.length + 1
  | .lit _ => 1
  | .nil => 1
  | .ptr d => uptoBulk d + 1
  | .slice elems spare => uptoBulkAll elems + uptoBulkAll spare + 1
  | .agg parts => uptoBulkAll parts + 1
  | .iface _ d => uptoBulk d + 1
  | .map entries => uptoBulkEntries entries + 1
  | .held _ => 1
def uptoBulkAll {H : Type} : List (DataW H) → Nat
  | [] => 0
  | d :: r => uptoBulk d + uptoBulkAll r
def uptoBulkEntries {H : Type} : List (Lit × DataW H) → Nat
  | [] => 0
  | x :: r => uptoBulkEntry x + uptoBulkEntries r
def uptoBulkEntry {H : Type} : Lit × DataW H → Nat
  | (.string bytes, d) => bytes.length + uptoBulk d + 1
  | (_, d) => uptoBulk d + 1
 end
def uptoSmall : (H : Type) → List (DataW H) → Bool := fun _ ds => decide (uptoBulkAll ds ≤ 1048576)
def OpenSpec.upto (s : _root_.Go.ChangeSpec) : _root_.Go.OpenSpec := { _root_.Go.OpenSpec.ofChange s with cond := some uptoSmall }

/-- 'laws.FnApart', WHERE WHAT IT READS IS OF BULK AT MOST 1048576: true; the input reads as it did. -/
def fnApartUptoRow : OpenClaim := { program := "ytnfkdmoblncclaa", sum := "12e975bc60f005c3a546f991d8e71d02d8913ce8e317cd72c9169d20f77e09ab", func := "loop.example/pub-g03353/laws.FnApart", spec := "fnApart", apart := false, narrowed := true }
def FnApartUptoSaid : Prop := fnApartUptoRow.holds Try.pinned (OpenSpec.upto fnApartSpec)

/-- 'laws.FnBranch', WHERE WHAT IT READS IS OF BULK AT MOST 1048576: true; the input reads as it did. -/
def fnBranchUptoRow : OpenClaim := { program := "ytnfkdmoblncclaa", sum := "12e975bc60f005c3a546f991d8e71d02d8913ce8e317cd72c9169d20f77e09ab", func := "loop.example/pub-g03353/laws.FnBranch", spec := "fnBranch", apart := false, narrowed := true }
def FnBranchUptoSaid : Prop := fnBranchUptoRow.holds Try.pinned (OpenSpec.upto fnBranchSpec)

/-- 'laws.FnBranchIf', WHERE WHAT IT READS IS OF BULK AT MOST 1048576: true; the input reads as it did. -/
def fnBranchIfUptoRow : OpenClaim := { program := "ytnfkdmoblncclaa", sum := "12e975bc60f005c3a546f991d8e71d02d8913ce8e317cd72c9169d20f77e09ab", func := "loop.example/pub-g03353/laws.FnBranchIf", spec := "fnBranchIf", apart := false, narrowed := true }
def FnBranchIfUptoSaid : Prop := fnBranchIfUptoRow.holds Try.pinned (OpenSpec.upto fnBranchIfSpec)

/-- 'laws.FnCodes', WHERE WHAT IT READS IS OF BULK AT MOST 1048576: true; the input reads as it did. -/
def fnCodesUptoRow : OpenClaim := { program := "ytnfkdmoblncclaa", sum := "12e975bc60f005c3a546f991d8e71d02d8913ce8e317cd72c9169d20f77e09ab", func := "loop.example/pub-g03353/laws.FnCodes", spec := "fnCodes", apart := false, narrowed := true }
def FnCodesUptoSaid : Prop := fnCodesUptoRow.holds Try.pinned (OpenSpec.upto fnCodesSpec)

/-- 'laws.FnFields', WHERE WHAT IT READS IS OF BULK AT MOST 1048576: true; the input reads as it did. -/
def fnFieldsUptoRow : OpenClaim := { program := "ytnfkdmoblncclaa", sum := "12e975bc60f005c3a546f991d8e71d02d8913ce8e317cd72c9169d20f77e09ab", func := "loop.example/pub-g03353/laws.FnFields", spec := "fnFields", apart := false, narrowed := true }
def FnFieldsUptoSaid : Prop := fnFieldsUptoRow.holds Try.pinned (OpenSpec.upto fnFieldsSpec)

/-- 'laws.FnNone', WHERE WHAT IT READS IS OF BULK AT MOST 1048576: true; the input reads as it did. -/
def fnNoneUptoRow : OpenClaim := { program := "ytnfkdmoblncclaa", sum := "12e975bc60f005c3a546f991d8e71d02d8913ce8e317cd72c9169d20f77e09ab", func := "loop.example/pub-g03353/laws.FnNone", spec := "fnNone", apart := false, narrowed := true }
def FnNoneUptoSaid : Prop := fnNoneUptoRow.holds Try.pinned (OpenSpec.upto fnNoneSpec)

/-- 'laws.FnPrefix', WHERE WHAT IT READS IS OF BULK AT MOST 1048576: true; the input reads as it did. -/
def fnPrefixUptoRow : OpenClaim := { program := "ytnfkdmoblncclaa", sum := "12e975bc60f005c3a546f991d8e71d02d8913ce8e317cd72c9169d20f77e09ab", func := "loop.example/pub-g03353/laws.FnPrefix", spec := "fnPrefix", apart := false, narrowed := true }
def FnPrefixUptoSaid : Prop := fnPrefixUptoRow.holds Try.pinned (OpenSpec.upto fnPrefixSpec)

/-- 'laws.FnSixteens', WHERE WHAT IT READS IS OF BULK AT MOST 1048576: true; the input reads as it did. -/
def fnSixteensUptoRow : OpenClaim := { program := "ytnfkdmoblncclaa", sum := "12e975bc60f005c3a546f991d8e71d02d8913ce8e317cd72c9169d20f77e09ab", func := "loop.example/pub-g03353/laws.FnSixteens", spec := "fnSixteens", apart := false, narrowed := true }
def FnSixteensUptoSaid : Prop := fnSixteensUptoRow.holds Try.pinned (OpenSpec.upto fnSixteensSpec)

end Rows
end Go.Proofs.Ytnfkdmoblncclaa
