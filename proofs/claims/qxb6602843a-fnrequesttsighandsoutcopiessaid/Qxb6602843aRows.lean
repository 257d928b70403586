/-
  No cell of these rows narrows 'for every input' (looked for: loops, veiled, ifaces, maps, wideKeys, modest, calm, conditions, laid).
  DERIVED. THE GIVEN ROWS OF THIS SEAT. 6 by the template 'for every input the law returns true; each argument reads behind the call as it read before'; 0 by the template 'total and deterministic' (their statements: Qxb6602843aTotals.lean).
  GIVEN WITH THE SEED: the statements are not yours to turn. If you find one false, say at which input.
  Laid BY PROGRAM, IN A SANDBOX (cutbox-rows.mjs): the forced cells as the released guide's own fill.sh prints them over the translation 1f0ff171f55c0d09… (all of the seat's roots in one cut). By AI agents, Wed Nov 11 2026. No macro, syntax, notation, axiom, sorry.
-/
import Derived.Test.Qxb6602843aChecked
import GoSem.Claim
import GoSem.ClaimJoined
import GoSem.ClaimMapViews
import Derived.JoinedTies
import Derived.KernelRfl
namespace Go.Proofs.Qxb6602843a
/- THE CELL 'sum', in the pinned program and in every row, IS THE sha256 OF THE DUMP (.gsa) THAT Qxb6602843aProg.lean LOADS. Nothing in Lean hashes anything: it is a label: what it is worth is what the hold of that sum in a sandbox is worth. -/
noncomputable def Try.pinned : Pinned := { name := "qxb6602843a", sum := "1f0ff171f55c0d09955fef1ecb971c0e9537459d1a76935ef0dab042e4a8087b", checked := Try.checked }
namespace Rows
def none {H : Type} : Left H := { results := [], args := [] }

/-- 'zzlaws_root_b1.FnEqualFoldASCIIIsAnEquivalence': WHATEVER THE INPUT: true; the input reads as it did. -/
def fnEqualFoldASCIIIsAnEquivalenceSpec : ChangeSpec := { name := "fnEqualFoldASCIIIsAnEquivalence", fn := fun _ => fun
  | [d1, d2, d3] => { results := [.lit (.bool true)], args := [d1, d2, d3] }
  | _ => none }
def fnEqualFoldASCIIIsAnEquivalenceRow : OpenClaim := { program := "qxb6602843a", sum := "1f0ff171f55c0d09955fef1ecb971c0e9537459d1a76935ef0dab042e4a8087b", func := "example.com/sealwright/sealwright/zzlaws_root_b1.FnEqualFoldASCIIIsAnEquivalence", spec := "fnEqualFoldASCIIIsAnEquivalence", apart := false }
def FnEqualFoldASCIIIsAnEquivalenceSaid : Prop := fnEqualFoldASCIIIsAnEquivalenceRow.holds Try.pinned (OpenSpec.ofChange fnEqualFoldASCIIIsAnEquivalenceSpec)

/-- ITS FALSE NEIGHBOUR: 'it returns false'. Refute it at one input. -/
def fnEqualFoldASCIIIsAnEquivalenceWrong : ChangeSpec := { name := "fnEqualFoldASCIIIsAnEquivalence", fn := fun _ => fun
  | [d1, d2, d3] => { results := [.lit (.bool false)], args := [d1, d2, d3] }
  | _ => none }
def FnEqualFoldASCIIIsAnEquivalenceWrongFalsely : Prop := fnEqualFoldASCIIIsAnEquivalenceRow.holds Try.pinned (OpenSpec.ofChange fnEqualFoldASCIIIsAnEquivalenceWrong)

/-- 'zzlaws_root_b1.FnEqualFoldASCIIIgnoresLetterCase': WHATEVER THE INPUT: true; the input reads as it did. -/
def fnEqualFoldASCIIIgnoresLetterCaseSpec : ChangeSpec := { name := "fnEqualFoldASCIIIgnoresLetterCase", fn := fun _ => fun
  | [d1, d2] => { results := [.lit (.bool true)], args := [d1, d2] }
  | _ => none }
def fnEqualFoldASCIIIgnoresLetterCaseRow : OpenClaim := { program := "qxb6602843a", sum := "1f0ff171f55c0d09955fef1ecb971c0e9537459d1a76935ef0dab042e4a8087b", func := "example.com/sealwright/sealwright/zzlaws_root_b1.FnEqualFoldASCIIIgnoresLetterCase", spec := "fnEqualFoldASCIIIgnoresLetterCase", apart := false }
def FnEqualFoldASCIIIgnoresLetterCaseSaid : Prop := fnEqualFoldASCIIIgnoresLetterCaseRow.holds Try.pinned (OpenSpec.ofChange fnEqualFoldASCIIIgnoresLetterCaseSpec)

/-- ITS FALSE NEIGHBOUR: 'it returns false'. Refute it at one input. -/
def fnEqualFoldASCIIIgnoresLetterCaseWrong : ChangeSpec := { name := "fnEqualFoldASCIIIgnoresLetterCase", fn := fun _ => fun
  | [d1, d2] => { results := [.lit (.bool false)], args := [d1, d2] }
  | _ => none }
def FnEqualFoldASCIIIgnoresLetterCaseWrongFalsely : Prop := fnEqualFoldASCIIIgnoresLetterCaseRow.holds Try.pinned (OpenSpec.ofChange fnEqualFoldASCIIIgnoresLetterCaseWrong)

/-- 'zzlaws_root_b1.FnSectionNeverGoesBack': WHATEVER THE INPUT: true; the input reads as it did. -/
def fnSectionNeverGoesBackSpec : ChangeSpec := { name := "fnSectionNeverGoesBack", fn := fun _ => fun
  | [d1, d2, d3, d4] => { results := [.lit (.bool true)], args := [d1, d2, d3, d4] }
  | _ => none }
def fnSectionNeverGoesBackRow : OpenClaim := { program := "qxb6602843a", sum := "1f0ff171f55c0d09955fef1ecb971c0e9537459d1a76935ef0dab042e4a8087b", func := "example.com/sealwright/sealwright/zzlaws_root_b1.FnSectionNeverGoesBack", spec := "fnSectionNeverGoesBack", apart := false }
def FnSectionNeverGoesBackSaid : Prop := fnSectionNeverGoesBackRow.holds Try.pinned (OpenSpec.ofChange fnSectionNeverGoesBackSpec)

/-- ITS FALSE NEIGHBOUR: 'it returns false'. Refute it at one input. -/
def fnSectionNeverGoesBackWrong : ChangeSpec := { name := "fnSectionNeverGoesBack", fn := fun _ => fun
  | [d1, d2, d3, d4] => { results := [.lit (.bool false)], args := [d1, d2, d3, d4] }
  | _ => none }
def FnSectionNeverGoesBackWrongFalsely : Prop := fnSectionNeverGoesBackRow.holds Try.pinned (OpenSpec.ofChange fnSectionNeverGoesBackWrong)

/-- 'zzlaws_root_b1.FnSectionPartitionsByHeaderCounts': WHATEVER THE INPUT: true; the input reads as it did. -/
def fnSectionPartitionsByHeaderCountsSpec : ChangeSpec := { name := "fnSectionPartitionsByHeaderCounts", fn := fun _ => fun
  | [d1, d2, d3] => { results := [.lit (.bool true)], args := [d1, d2, d3] }
  | _ => none }
def fnSectionPartitionsByHeaderCountsRow : OpenClaim := { program := "qxb6602843a", sum := "1f0ff171f55c0d09955fef1ecb971c0e9537459d1a76935ef0dab042e4a8087b", func := "example.com/sealwright/sealwright/zzlaws_root_b1.FnSectionPartitionsByHeaderCounts", spec := "fnSectionPartitionsByHeaderCounts", apart := false }
def FnSectionPartitionsByHeaderCountsSaid : Prop := fnSectionPartitionsByHeaderCountsRow.holds Try.pinned (OpenSpec.ofChange fnSectionPartitionsByHeaderCountsSpec)

/-- ITS FALSE NEIGHBOUR: 'it returns false'. Refute it at one input. -/
def fnSectionPartitionsByHeaderCountsWrong : ChangeSpec := { name := "fnSectionPartitionsByHeaderCounts", fn := fun _ => fun
  | [d1, d2, d3] => { results := [.lit (.bool false)], args := [d1, d2, d3] }
  | _ => none }
def FnSectionPartitionsByHeaderCountsWrongFalsely : Prop := fnSectionPartitionsByHeaderCountsRow.holds Try.pinned (OpenSpec.ofChange fnSectionPartitionsByHeaderCountsWrong)

/-- 'zzlaws_root_b1.FnRequestTSIGReturnsItsRecord': WHATEVER THE INPUT: true; the input reads as it did. -/
def fnRequestTSIGReturnsItsRecordSpec : ChangeSpec := { name := "fnRequestTSIGReturnsItsRecord", fn := fun _ => fun
  | [d1, d2, d3, d4, d5, d6, d7, d8, d9, d10, d11, d12] => { results := [.lit (.bool true)], args := [d1, d2, d3, d4, d5, d6, d7, d8, d9, d10, d11, d12] }
  | _ => none }
def fnRequestTSIGReturnsItsRecordRow : OpenClaim := { program := "qxb6602843a", sum := "1f0ff171f55c0d09955fef1ecb971c0e9537459d1a76935ef0dab042e4a8087b", func := "example.com/sealwright/sealwright/zzlaws_root_b1.FnRequestTSIGReturnsItsRecord", spec := "fnRequestTSIGReturnsItsRecord", apart := false }
def FnRequestTSIGReturnsItsRecordSaid : Prop := fnRequestTSIGReturnsItsRecordRow.holds Try.pinned (OpenSpec.ofChange fnRequestTSIGReturnsItsRecordSpec)

/-- ITS FALSE NEIGHBOUR: 'it returns false'. Refute it at one input. -/
def fnRequestTSIGReturnsItsRecordWrong : ChangeSpec := { name := "fnRequestTSIGReturnsItsRecord", fn := fun _ => fun
  | [d1, d2, d3, d4, d5, d6, d7, d8, d9, d10, d11, d12] => { results := [.lit (.bool false)], args := [d1, d2, d3, d4, d5, d6, d7, d8, d9, d10, d11, d12] }
  | _ => none }
def FnRequestTSIGReturnsItsRecordWrongFalsely : Prop := fnRequestTSIGReturnsItsRecordRow.holds Try.pinned (OpenSpec.ofChange fnRequestTSIGReturnsItsRecordWrong)

/-- 'zzlaws_root_b1.FnRequestTSIGHandsOutCopies': WHATEVER THE INPUT: true; the input reads as it did. -/
def fnRequestTSIGHandsOutCopiesSpec : ChangeSpec := { name := "fnRequestTSIGHandsOutCopies", fn := fun _ => fun
  | [d1, d2, d3, d4, d5, d6, d7, d8, d9, d10, d11, d12] => { results := [.lit (.bool true)], args := [d1, d2, d3, d4, d5, d6, d7, d8, d9, d10, d11, d12] }
  | _ => none }
def fnRequestTSIGHandsOutCopiesRow : OpenClaim := { program := "qxb6602843a", sum := "1f0ff171f55c0d09955fef1ecb971c0e9537459d1a76935ef0dab042e4a8087b", func := "example.com/sealwright/sealwright/zzlaws_root_b1.FnRequestTSIGHandsOutCopies", spec := "fnRequestTSIGHandsOutCopies", apart := false }
def FnRequestTSIGHandsOutCopiesSaid : Prop := fnRequestTSIGHandsOutCopiesRow.holds Try.pinned (OpenSpec.ofChange fnRequestTSIGHandsOutCopiesSpec)

/-- ITS FALSE NEIGHBOUR: 'it returns false'. Refute it at one input. -/
def fnRequestTSIGHandsOutCopiesWrong : ChangeSpec := { name := "fnRequestTSIGHandsOutCopies", fn := fun _ => fun
  | [d1, d2, d3, d4, d5, d6, d7, d8, d9, d10, d11, d12] => { results := [.lit (.bool false)], args := [d1, d2, d3, d4, d5, d6, d7, d8, d9, d10, d11, d12] }
  | _ => none }
def FnRequestTSIGHandsOutCopiesWrongFalsely : Prop := fnRequestTSIGHandsOutCopiesRow.holds Try.pinned (OpenSpec.ofChange fnRequestTSIGHandsOutCopiesWrong)

end Rows
end Go.Proofs.Qxb6602843a
