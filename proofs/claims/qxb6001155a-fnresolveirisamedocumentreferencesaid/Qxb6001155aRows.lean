/-
  No cell of these rows narrows 'for every input' (looked for: loops, veiled, ifaces, maps, wideKeys, modest, calm, conditions, laid).
  DERIVED. THE GIVEN ROWS OF THIS SEAT. 8 by the template 'for every input the law returns true; each argument reads behind the call as it read before'; 0 by the template 'total and deterministic' (their statements: Qxb6001155aTotals.lean).
  GIVEN WITH THE SEED: the statements are not yours to turn. If you find one false, say at which input.
  Laid BY PROGRAM, IN A SANDBOX (cutbox-rows.mjs): the forced cells as the released guide's own fill.sh prints them over the translation 27b3f095f9f35d92… (all of the seat's roots in one cut). By AI agents, Wed Nov 11 2026. No macro, syntax, notation, axiom, sorry.
-/
import Derived.Test.Qxb6001155aChecked
import GoSem.Claim
import GoSem.ClaimJoined
import GoSem.ClaimMapViews
import Derived.JoinedTies
import Derived.KernelRfl
namespace Go.Proofs.Qxb6001155a
/- THE CELL 'sum', in the pinned program and in every row, IS THE sha256 OF THE DUMP (.gsa) THAT Qxb6001155aProg.lean LOADS. Nothing in Lean hashes anything: it is a label: what it is worth is what the hold of that sum in a sandbox is worth. -/
noncomputable def Try.pinned : Pinned := { name := "qxb6001155a", sum := "27b3f095f9f35d9268f2e9c61d060edeea0eb1aea062cdb445bbd852671bd97d", checked := Try.checked }
namespace Rows
def none {H : Type} : Left H := { results := [], args := [] }

/-- 'zzlaws_rdf_b1.FnSplitIRIJoinsBack': WHATEVER THE INPUT: true; the input reads as it did. -/
def fnSplitIRIJoinsBackSpec : ChangeSpec := { name := "fnSplitIRIJoinsBack", fn := fun _ => fun
  | [d] => { results := [.lit (.bool true)], args := [d] }
  | _ => none }
def fnSplitIRIJoinsBackRow : OpenClaim := { program := "qxb6001155a", sum := "27b3f095f9f35d9268f2e9c61d060edeea0eb1aea062cdb445bbd852671bd97d", func := "example.com/triplehive/triplehive/zzlaws_rdf_b1.FnSplitIRIJoinsBack", spec := "fnSplitIRIJoinsBack", inPlace := ["internal/bytealg.IndexByteString"], apart := false }
def FnSplitIRIJoinsBackSaid : Prop := fnSplitIRIJoinsBackRow.holds Try.pinned (OpenSpec.ofChange fnSplitIRIJoinsBackSpec)

/-- ITS FALSE NEIGHBOUR: 'it returns false'. Refute it at one input. -/
def fnSplitIRIJoinsBackWrong : ChangeSpec := { name := "fnSplitIRIJoinsBack", fn := fun _ => fun
  | [d] => { results := [.lit (.bool false)], args := [d] }
  | _ => none }
def FnSplitIRIJoinsBackWrongFalsely : Prop := fnSplitIRIJoinsBackRow.holds Try.pinned (OpenSpec.ofChange fnSplitIRIJoinsBackWrong)

/-- 'zzlaws_rdf_b1.FnSplitIRIPartsAreWellFormed': WHATEVER THE INPUT: true; the input reads as it did. -/
def fnSplitIRIPartsAreWellFormedSpec : ChangeSpec := { name := "fnSplitIRIPartsAreWellFormed", fn := fun _ => fun
  | [d] => { results := [.lit (.bool true)], args := [d] }
  | _ => none }
def fnSplitIRIPartsAreWellFormedRow : OpenClaim := { program := "qxb6001155a", sum := "27b3f095f9f35d9268f2e9c61d060edeea0eb1aea062cdb445bbd852671bd97d", func := "example.com/triplehive/triplehive/zzlaws_rdf_b1.FnSplitIRIPartsAreWellFormed", spec := "fnSplitIRIPartsAreWellFormed", inPlace := ["internal/bytealg.IndexByteString"], apart := false }
def FnSplitIRIPartsAreWellFormedSaid : Prop := fnSplitIRIPartsAreWellFormedRow.holds Try.pinned (OpenSpec.ofChange fnSplitIRIPartsAreWellFormedSpec)

/-- ITS FALSE NEIGHBOUR: 'it returns false'. Refute it at one input. -/
def fnSplitIRIPartsAreWellFormedWrong : ChangeSpec := { name := "fnSplitIRIPartsAreWellFormed", fn := fun _ => fun
  | [d] => { results := [.lit (.bool false)], args := [d] }
  | _ => none }
def FnSplitIRIPartsAreWellFormedWrongFalsely : Prop := fnSplitIRIPartsAreWellFormedRow.holds Try.pinned (OpenSpec.ofChange fnSplitIRIPartsAreWellFormedWrong)

/-- 'zzlaws_rdf_b1.FnRemoveDotSegmentsLeavesCleanPathAlone': WHATEVER THE INPUT: true; the input reads as it did. -/
def fnRemoveDotSegmentsLeavesCleanPathAloneSpec : ChangeSpec := { name := "fnRemoveDotSegmentsLeavesCleanPathAlone", fn := fun _ => fun
  | [d] => { results := [.lit (.bool true)], args := [d] }
  | _ => none }
def fnRemoveDotSegmentsLeavesCleanPathAloneRow : OpenClaim := { program := "qxb6001155a", sum := "27b3f095f9f35d9268f2e9c61d060edeea0eb1aea062cdb445bbd852671bd97d", func := "example.com/triplehive/triplehive/zzlaws_rdf_b1.FnRemoveDotSegmentsLeavesCleanPathAlone", spec := "fnRemoveDotSegmentsLeavesCleanPathAlone", inPlace := ["internal/bytealg.IndexByteString"], apart := false }
def FnRemoveDotSegmentsLeavesCleanPathAloneSaid : Prop := fnRemoveDotSegmentsLeavesCleanPathAloneRow.holds Try.pinned (OpenSpec.ofChange fnRemoveDotSegmentsLeavesCleanPathAloneSpec)

/-- ITS FALSE NEIGHBOUR: 'it returns false'. Refute it at one input. -/
def fnRemoveDotSegmentsLeavesCleanPathAloneWrong : ChangeSpec := { name := "fnRemoveDotSegmentsLeavesCleanPathAlone", fn := fun _ => fun
  | [d] => { results := [.lit (.bool false)], args := [d] }
  | _ => none }
def FnRemoveDotSegmentsLeavesCleanPathAloneWrongFalsely : Prop := fnRemoveDotSegmentsLeavesCleanPathAloneRow.holds Try.pinned (OpenSpec.ofChange fnRemoveDotSegmentsLeavesCleanPathAloneWrong)

/-- 'zzlaws_rdf_b1.FnRemoveDotSegmentsIsIdempotentAndClean': WHATEVER THE INPUT: true; the input reads as it did. -/
def fnRemoveDotSegmentsIsIdempotentAndCleanSpec : ChangeSpec := { name := "fnRemoveDotSegmentsIsIdempotentAndClean", fn := fun _ => fun
  | [d] => { results := [.lit (.bool true)], args := [d] }
  | _ => none }
def fnRemoveDotSegmentsIsIdempotentAndCleanRow : OpenClaim := { program := "qxb6001155a", sum := "27b3f095f9f35d9268f2e9c61d060edeea0eb1aea062cdb445bbd852671bd97d", func := "example.com/triplehive/triplehive/zzlaws_rdf_b1.FnRemoveDotSegmentsIsIdempotentAndClean", spec := "fnRemoveDotSegmentsIsIdempotentAndClean", inPlace := ["internal/bytealg.IndexByteString"], apart := false }
def FnRemoveDotSegmentsIsIdempotentAndCleanSaid : Prop := fnRemoveDotSegmentsIsIdempotentAndCleanRow.holds Try.pinned (OpenSpec.ofChange fnRemoveDotSegmentsIsIdempotentAndCleanSpec)

/-- ITS FALSE NEIGHBOUR: 'it returns false'. Refute it at one input. -/
def fnRemoveDotSegmentsIsIdempotentAndCleanWrong : ChangeSpec := { name := "fnRemoveDotSegmentsIsIdempotentAndClean", fn := fun _ => fun
  | [d] => { results := [.lit (.bool false)], args := [d] }
  | _ => none }
def FnRemoveDotSegmentsIsIdempotentAndCleanWrongFalsely : Prop := fnRemoveDotSegmentsIsIdempotentAndCleanRow.holds Try.pinned (OpenSpec.ofChange fnRemoveDotSegmentsIsIdempotentAndCleanWrong)

/-- 'zzlaws_rdf_b1.FnRemoveDotSegmentsNeverGrowsAndKeepsRoot': WHATEVER THE INPUT: true; the input reads as it did. -/
def fnRemoveDotSegmentsNeverGrowsAndKeepsRootSpec : ChangeSpec := { name := "fnRemoveDotSegmentsNeverGrowsAndKeepsRoot", fn := fun _ => fun
  | [d] => { results := [.lit (.bool true)], args := [d] }
  | _ => none }
def fnRemoveDotSegmentsNeverGrowsAndKeepsRootRow : OpenClaim := { program := "qxb6001155a", sum := "27b3f095f9f35d9268f2e9c61d060edeea0eb1aea062cdb445bbd852671bd97d", func := "example.com/triplehive/triplehive/zzlaws_rdf_b1.FnRemoveDotSegmentsNeverGrowsAndKeepsRoot", spec := "fnRemoveDotSegmentsNeverGrowsAndKeepsRoot", inPlace := ["internal/bytealg.IndexByteString"], apart := false }
def FnRemoveDotSegmentsNeverGrowsAndKeepsRootSaid : Prop := fnRemoveDotSegmentsNeverGrowsAndKeepsRootRow.holds Try.pinned (OpenSpec.ofChange fnRemoveDotSegmentsNeverGrowsAndKeepsRootSpec)

/-- ITS FALSE NEIGHBOUR: 'it returns false'. Refute it at one input. -/
def fnRemoveDotSegmentsNeverGrowsAndKeepsRootWrong : ChangeSpec := { name := "fnRemoveDotSegmentsNeverGrowsAndKeepsRoot", fn := fun _ => fun
  | [d] => { results := [.lit (.bool false)], args := [d] }
  | _ => none }
def FnRemoveDotSegmentsNeverGrowsAndKeepsRootWrongFalsely : Prop := fnRemoveDotSegmentsNeverGrowsAndKeepsRootRow.holds Try.pinned (OpenSpec.ofChange fnRemoveDotSegmentsNeverGrowsAndKeepsRootWrong)

/-- 'zzlaws_rdf_b1.FnResolveIRIIsAbsoluteWithBaseSchemeAndRefFragment': WHATEVER THE INPUT: true; the input reads as it did. -/
def fnResolveIRIIsAbsoluteWithBaseSchemeAndRefFragmentSpec : ChangeSpec := { name := "fnResolveIRIIsAbsoluteWithBaseSchemeAndRefFragment", fn := fun _ => fun
  | [d1, d2] => { results := [.lit (.bool true)], args := [d1, d2] }
  | _ => none }
def fnResolveIRIIsAbsoluteWithBaseSchemeAndRefFragmentRow : OpenClaim := { program := "qxb6001155a", sum := "27b3f095f9f35d9268f2e9c61d060edeea0eb1aea062cdb445bbd852671bd97d", func := "example.com/triplehive/triplehive/zzlaws_rdf_b1.FnResolveIRIIsAbsoluteWithBaseSchemeAndRefFragment", spec := "fnResolveIRIIsAbsoluteWithBaseSchemeAndRefFragment", inPlace := ["internal/bytealg.IndexByteString"], apart := false }
def FnResolveIRIIsAbsoluteWithBaseSchemeAndRefFragmentSaid : Prop := fnResolveIRIIsAbsoluteWithBaseSchemeAndRefFragmentRow.holds Try.pinned (OpenSpec.ofChange fnResolveIRIIsAbsoluteWithBaseSchemeAndRefFragmentSpec)

/-- ITS FALSE NEIGHBOUR: 'it returns false'. Refute it at one input. -/
def fnResolveIRIIsAbsoluteWithBaseSchemeAndRefFragmentWrong : ChangeSpec := { name := "fnResolveIRIIsAbsoluteWithBaseSchemeAndRefFragment", fn := fun _ => fun
  | [d1, d2] => { results := [.lit (.bool false)], args := [d1, d2] }
  | _ => none }
def FnResolveIRIIsAbsoluteWithBaseSchemeAndRefFragmentWrongFalsely : Prop := fnResolveIRIIsAbsoluteWithBaseSchemeAndRefFragmentRow.holds Try.pinned (OpenSpec.ofChange fnResolveIRIIsAbsoluteWithBaseSchemeAndRefFragmentWrong)

/-- 'zzlaws_rdf_b1.FnResolveIRISameDocumentReference': WHATEVER THE INPUT: true; the input reads as it did. -/
def fnResolveIRISameDocumentReferenceSpec : ChangeSpec := { name := "fnResolveIRISameDocumentReference", fn := fun _ => fun
  | [d1, d2] => { results := [.lit (.bool true)], args := [d1, d2] }
  | _ => none }
def fnResolveIRISameDocumentReferenceRow : OpenClaim := { program := "qxb6001155a", sum := "27b3f095f9f35d9268f2e9c61d060edeea0eb1aea062cdb445bbd852671bd97d", func := "example.com/triplehive/triplehive/zzlaws_rdf_b1.FnResolveIRISameDocumentReference", spec := "fnResolveIRISameDocumentReference", inPlace := ["internal/bytealg.IndexByteString"], apart := false }
def FnResolveIRISameDocumentReferenceSaid : Prop := fnResolveIRISameDocumentReferenceRow.holds Try.pinned (OpenSpec.ofChange fnResolveIRISameDocumentReferenceSpec)

/-- ITS FALSE NEIGHBOUR: 'it returns false'. Refute it at one input. -/
def fnResolveIRISameDocumentReferenceWrong : ChangeSpec := { name := "fnResolveIRISameDocumentReference", fn := fun _ => fun
  | [d1, d2] => { results := [.lit (.bool false)], args := [d1, d2] }
  | _ => none }
def FnResolveIRISameDocumentReferenceWrongFalsely : Prop := fnResolveIRISameDocumentReferenceRow.holds Try.pinned (OpenSpec.ofChange fnResolveIRISameDocumentReferenceWrong)

/-- 'zzlaws_rdf_b1.FnResolveIRIAbsolutePathReference': WHATEVER THE INPUT: true; the input reads as it did. -/
def fnResolveIRIAbsolutePathReferenceSpec : ChangeSpec := { name := "fnResolveIRIAbsolutePathReference", fn := fun _ => fun
  | [d1, d2] => { results := [.lit (.bool true)], args := [d1, d2] }
  | _ => none }
def fnResolveIRIAbsolutePathReferenceRow : OpenClaim := { program := "qxb6001155a", sum := "27b3f095f9f35d9268f2e9c61d060edeea0eb1aea062cdb445bbd852671bd97d", func := "example.com/triplehive/triplehive/zzlaws_rdf_b1.FnResolveIRIAbsolutePathReference", spec := "fnResolveIRIAbsolutePathReference", inPlace := ["internal/bytealg.IndexByteString"], apart := false }
def FnResolveIRIAbsolutePathReferenceSaid : Prop := fnResolveIRIAbsolutePathReferenceRow.holds Try.pinned (OpenSpec.ofChange fnResolveIRIAbsolutePathReferenceSpec)

/-- ITS FALSE NEIGHBOUR: 'it returns false'. Refute it at one input. -/
def fnResolveIRIAbsolutePathReferenceWrong : ChangeSpec := { name := "fnResolveIRIAbsolutePathReference", fn := fun _ => fun
  | [d1, d2] => { results := [.lit (.bool false)], args := [d1, d2] }
  | _ => none }
def FnResolveIRIAbsolutePathReferenceWrongFalsely : Prop := fnResolveIRIAbsolutePathReferenceRow.holds Try.pinned (OpenSpec.ofChange fnResolveIRIAbsolutePathReferenceWrong)

end Rows
end Go.Proofs.Qxb6001155a
