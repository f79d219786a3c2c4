/-
  No cell of these rows narrows 'for every input' (looked for: loops, veiled, ifaces, maps, wideKeys, modest, calm, conditions, laid).
  DERIVED. THE GIVEN ROWS OF THIS SEAT. 9 by the template 'for every input the law returns true; each argument reads behind the call as it read before'; 0 by the template 'total and deterministic' (their statements: Qxb6602061aTotals.lean).
  GIVEN WITH THE SEED: the statements are not yours to turn. If you find one false, say at which input.
  Laid BY PROGRAM, IN A SANDBOX (cutbox-rows.mjs): the forced cells as the released guide's own fill.sh prints them over the translation f52aadd7c33129c1… (all of the seat's roots in one cut). By AI agents, Wed Nov 11 2026. No macro, syntax, notation, axiom, sorry.
-/
import Derived.Test.Qxb6602061aChecked
import GoSem.Claim
import GoSem.ClaimJoined
import GoSem.ClaimMapViews
import Derived.JoinedTies
import Derived.KernelRfl
namespace Go.Proofs.Qxb6602061a
/- THE CELL 'sum', in the pinned program and in every row, IS THE sha256 OF THE DUMP (.gsa) THAT Qxb6602061aProg.lean LOADS. Nothing in Lean hashes anything: it is a label: what it is worth is what the hold of that sum in a sandbox is worth. -/
noncomputable def Try.pinned : Pinned := { name := "qxb6602061a", sum := "f52aadd7c33129c13fc9415f4c274133f179860c9f9c8881ecffc0ed12d05f67", checked := Try.checked }
namespace Rows
def none {H : Type} : Left H := { results := [], args := [] }

/-- 'zzlaws_internal_uri_b1.FnNormalizeSchemeTable': WHATEVER THE INPUT: true; the input reads as it did. -/
def fnNormalizeSchemeTableSpec : ChangeSpec := { name := "fnNormalizeSchemeTable", fn := fun _ => fun
  | [d] => { results := [.lit (.bool true)], args := [d] }
  | _ => none }
def fnNormalizeSchemeTableRow : OpenClaim := { program := "qxb6602061a", sum := "f52aadd7c33129c13fc9415f4c274133f179860c9f9c8881ecffc0ed12d05f67", func := "example.com/ostraca/ostraca/zzlaws_internal_uri_b1.FnNormalizeSchemeTable", spec := "fnNormalizeSchemeTable", inPlace := ["internal/bytealg.IndexByteString", "internal/bytealg.IndexString"], named := ["internal/bytealg.MaxLen"], apart := false }
def FnNormalizeSchemeTableSaid : Prop := fnNormalizeSchemeTableRow.holds Try.pinned (OpenSpec.ofChange fnNormalizeSchemeTableSpec)

/-- ITS FALSE NEIGHBOUR: 'it returns false'. Refute it at one input. -/
def fnNormalizeSchemeTableWrong : ChangeSpec := { name := "fnNormalizeSchemeTable", fn := fun _ => fun
  | [d] => { results := [.lit (.bool false)], args := [d] }
  | _ => none }
def FnNormalizeSchemeTableWrongFalsely : Prop := fnNormalizeSchemeTableRow.holds Try.pinned (OpenSpec.ofChange fnNormalizeSchemeTableWrong)

/-- 'zzlaws_internal_uri_b1.FnNormalizeIdempotent': WHATEVER THE INPUT: true; the input reads as it did. -/
def fnNormalizeIdempotentSpec : ChangeSpec := { name := "fnNormalizeIdempotent", fn := fun _ => fun
  | [d] => { results := [.lit (.bool true)], args := [d] }
  | _ => none }
def fnNormalizeIdempotentRow : OpenClaim := { program := "qxb6602061a", sum := "f52aadd7c33129c13fc9415f4c274133f179860c9f9c8881ecffc0ed12d05f67", func := "example.com/ostraca/ostraca/zzlaws_internal_uri_b1.FnNormalizeIdempotent", spec := "fnNormalizeIdempotent", inPlace := ["internal/bytealg.IndexByteString", "internal/bytealg.IndexString"], named := ["internal/bytealg.MaxLen"], apart := false }
def FnNormalizeIdempotentSaid : Prop := fnNormalizeIdempotentRow.holds Try.pinned (OpenSpec.ofChange fnNormalizeIdempotentSpec)

/-- ITS FALSE NEIGHBOUR: 'it returns false'. Refute it at one input. -/
def fnNormalizeIdempotentWrong : ChangeSpec := { name := "fnNormalizeIdempotent", fn := fun _ => fun
  | [d] => { results := [.lit (.bool false)], args := [d] }
  | _ => none }
def FnNormalizeIdempotentWrongFalsely : Prop := fnNormalizeIdempotentRow.holds Try.pinned (OpenSpec.ofChange fnNormalizeIdempotentWrong)

/-- 'zzlaws_internal_uri_b1.FnAppendNormalIndependentOfDst': WHATEVER THE INPUT: true; the input reads as it did. -/
def fnAppendNormalIndependentOfDstSpec : ChangeSpec := { name := "fnAppendNormalIndependentOfDst", fn := fun _ => fun
  | [d1, d2, d3] => { results := [.lit (.bool true)], args := [d1, d2, d3] }
  | _ => none }
def fnAppendNormalIndependentOfDstRow : OpenClaim := { program := "qxb6602061a", sum := "f52aadd7c33129c13fc9415f4c274133f179860c9f9c8881ecffc0ed12d05f67", func := "example.com/ostraca/ostraca/zzlaws_internal_uri_b1.FnAppendNormalIndependentOfDst", spec := "fnAppendNormalIndependentOfDst", apart := false }
def FnAppendNormalIndependentOfDstSaid : Prop := fnAppendNormalIndependentOfDstRow.holds Try.pinned (OpenSpec.ofChange fnAppendNormalIndependentOfDstSpec)

/-- ITS FALSE NEIGHBOUR: 'it returns false'. Refute it at one input. -/
def fnAppendNormalIndependentOfDstWrong : ChangeSpec := { name := "fnAppendNormalIndependentOfDst", fn := fun _ => fun
  | [d1, d2, d3] => { results := [.lit (.bool false)], args := [d1, d2, d3] }
  | _ => none }
def FnAppendNormalIndependentOfDstWrongFalsely : Prop := fnAppendNormalIndependentOfDstRow.holds Try.pinned (OpenSpec.ofChange fnAppendNormalIndependentOfDstWrong)

/-- 'zzlaws_internal_uri_b1.FnAppendNormalKeepsMeaning': WHATEVER THE INPUT: true; the input reads as it did. -/
def fnAppendNormalKeepsMeaningSpec : ChangeSpec := { name := "fnAppendNormalKeepsMeaning", fn := fun _ => fun
  | [d1, d2] => { results := [.lit (.bool true)], args := [d1, d2] }
  | _ => none }
def fnAppendNormalKeepsMeaningRow : OpenClaim := { program := "qxb6602061a", sum := "f52aadd7c33129c13fc9415f4c274133f179860c9f9c8881ecffc0ed12d05f67", func := "example.com/ostraca/ostraca/zzlaws_internal_uri_b1.FnAppendNormalKeepsMeaning", spec := "fnAppendNormalKeepsMeaning", apart := false }
def FnAppendNormalKeepsMeaningSaid : Prop := fnAppendNormalKeepsMeaningRow.holds Try.pinned (OpenSpec.ofChange fnAppendNormalKeepsMeaningSpec)

/-- ITS FALSE NEIGHBOUR: 'it returns false'. Refute it at one input. -/
def fnAppendNormalKeepsMeaningWrong : ChangeSpec := { name := "fnAppendNormalKeepsMeaning", fn := fun _ => fun
  | [d1, d2] => { results := [.lit (.bool false)], args := [d1, d2] }
  | _ => none }
def FnAppendNormalKeepsMeaningWrongFalsely : Prop := fnAppendNormalKeepsMeaningRow.holds Try.pinned (OpenSpec.ofChange fnAppendNormalKeepsMeaningWrong)

/-- 'zzlaws_internal_uri_b1.FnAppendNormalIdempotent': WHATEVER THE INPUT: true; the input reads as it did. -/
def fnAppendNormalIdempotentSpec : ChangeSpec := { name := "fnAppendNormalIdempotent", fn := fun _ => fun
  | [d1, d2] => { results := [.lit (.bool true)], args := [d1, d2] }
  | _ => none }
def fnAppendNormalIdempotentRow : OpenClaim := { program := "qxb6602061a", sum := "f52aadd7c33129c13fc9415f4c274133f179860c9f9c8881ecffc0ed12d05f67", func := "example.com/ostraca/ostraca/zzlaws_internal_uri_b1.FnAppendNormalIdempotent", spec := "fnAppendNormalIdempotent", apart := false }
def FnAppendNormalIdempotentSaid : Prop := fnAppendNormalIdempotentRow.holds Try.pinned (OpenSpec.ofChange fnAppendNormalIdempotentSpec)

/-- ITS FALSE NEIGHBOUR: 'it returns false'. Refute it at one input. -/
def fnAppendNormalIdempotentWrong : ChangeSpec := { name := "fnAppendNormalIdempotent", fn := fun _ => fun
  | [d1, d2] => { results := [.lit (.bool false)], args := [d1, d2] }
  | _ => none }
def FnAppendNormalIdempotentWrongFalsely : Prop := fnAppendNormalIdempotentRow.holds Try.pinned (OpenSpec.ofChange fnAppendNormalIdempotentWrong)

/-- 'zzlaws_internal_uri_b1.FnRemoveDotSegmentsMatchesStackModel': WHATEVER THE INPUT: true; the input reads as it did. -/
def fnRemoveDotSegmentsMatchesStackModelSpec : ChangeSpec := { name := "fnRemoveDotSegmentsMatchesStackModel", fn := fun _ => fun
  | [d] => { results := [.lit (.bool true)], args := [d] }
  | _ => none }
def fnRemoveDotSegmentsMatchesStackModelRow : OpenClaim := { program := "qxb6602061a", sum := "f52aadd7c33129c13fc9415f4c274133f179860c9f9c8881ecffc0ed12d05f67", func := "example.com/ostraca/ostraca/zzlaws_internal_uri_b1.FnRemoveDotSegmentsMatchesStackModel", spec := "fnRemoveDotSegmentsMatchesStackModel", inPlace := ["internal/bytealg.IndexByteString", "internal/bytealg.IndexString"], named := ["internal/bytealg.MaxLen"], apart := false }
def FnRemoveDotSegmentsMatchesStackModelSaid : Prop := fnRemoveDotSegmentsMatchesStackModelRow.holds Try.pinned (OpenSpec.ofChange fnRemoveDotSegmentsMatchesStackModelSpec)

/-- ITS FALSE NEIGHBOUR: 'it returns false'. Refute it at one input. -/
def fnRemoveDotSegmentsMatchesStackModelWrong : ChangeSpec := { name := "fnRemoveDotSegmentsMatchesStackModel", fn := fun _ => fun
  | [d] => { results := [.lit (.bool false)], args := [d] }
  | _ => none }
def FnRemoveDotSegmentsMatchesStackModelWrongFalsely : Prop := fnRemoveDotSegmentsMatchesStackModelRow.holds Try.pinned (OpenSpec.ofChange fnRemoveDotSegmentsMatchesStackModelWrong)

/-- 'zzlaws_internal_uri_b1.FnRemoveDotSegmentsIdempotent': WHATEVER THE INPUT: true; the input reads as it did. -/
def fnRemoveDotSegmentsIdempotentSpec : ChangeSpec := { name := "fnRemoveDotSegmentsIdempotent", fn := fun _ => fun
  | [d] => { results := [.lit (.bool true)], args := [d] }
  | _ => none }
def fnRemoveDotSegmentsIdempotentRow : OpenClaim := { program := "qxb6602061a", sum := "f52aadd7c33129c13fc9415f4c274133f179860c9f9c8881ecffc0ed12d05f67", func := "example.com/ostraca/ostraca/zzlaws_internal_uri_b1.FnRemoveDotSegmentsIdempotent", spec := "fnRemoveDotSegmentsIdempotent", inPlace := ["internal/bytealg.IndexByteString", "internal/bytealg.IndexString"], named := ["internal/bytealg.MaxLen"], apart := false }
def FnRemoveDotSegmentsIdempotentSaid : Prop := fnRemoveDotSegmentsIdempotentRow.holds Try.pinned (OpenSpec.ofChange fnRemoveDotSegmentsIdempotentSpec)

/-- ITS FALSE NEIGHBOUR: 'it returns false'. Refute it at one input. -/
def fnRemoveDotSegmentsIdempotentWrong : ChangeSpec := { name := "fnRemoveDotSegmentsIdempotent", fn := fun _ => fun
  | [d] => { results := [.lit (.bool false)], args := [d] }
  | _ => none }
def FnRemoveDotSegmentsIdempotentWrongFalsely : Prop := fnRemoveDotSegmentsIdempotentRow.holds Try.pinned (OpenSpec.ofChange fnRemoveDotSegmentsIdempotentWrong)

/-- 'zzlaws_internal_uri_b1.FnRemoveDotSegmentsLeavesNoDotSegment': WHATEVER THE INPUT: true; the input reads as it did. -/
def fnRemoveDotSegmentsLeavesNoDotSegmentSpec : ChangeSpec := { name := "fnRemoveDotSegmentsLeavesNoDotSegment", fn := fun _ => fun
  | [d] => { results := [.lit (.bool true)], args := [d] }
  | _ => none }
def fnRemoveDotSegmentsLeavesNoDotSegmentRow : OpenClaim := { program := "qxb6602061a", sum := "f52aadd7c33129c13fc9415f4c274133f179860c9f9c8881ecffc0ed12d05f67", func := "example.com/ostraca/ostraca/zzlaws_internal_uri_b1.FnRemoveDotSegmentsLeavesNoDotSegment", spec := "fnRemoveDotSegmentsLeavesNoDotSegment", inPlace := ["internal/bytealg.IndexByteString", "internal/bytealg.IndexString"], named := ["internal/bytealg.MaxLen"], apart := false }
def FnRemoveDotSegmentsLeavesNoDotSegmentSaid : Prop := fnRemoveDotSegmentsLeavesNoDotSegmentRow.holds Try.pinned (OpenSpec.ofChange fnRemoveDotSegmentsLeavesNoDotSegmentSpec)

/-- ITS FALSE NEIGHBOUR: 'it returns false'. Refute it at one input. -/
def fnRemoveDotSegmentsLeavesNoDotSegmentWrong : ChangeSpec := { name := "fnRemoveDotSegmentsLeavesNoDotSegment", fn := fun _ => fun
  | [d] => { results := [.lit (.bool false)], args := [d] }
  | _ => none }
def FnRemoveDotSegmentsLeavesNoDotSegmentWrongFalsely : Prop := fnRemoveDotSegmentsLeavesNoDotSegmentRow.holds Try.pinned (OpenSpec.ofChange fnRemoveDotSegmentsLeavesNoDotSegmentWrong)

/-- 'zzlaws_internal_uri_b1.FnNormalizeIgnoresCaseOfSchemeAndEscapes': WHATEVER THE INPUT: true; the input reads as it did. -/
def fnNormalizeIgnoresCaseOfSchemeAndEscapesSpec : ChangeSpec := { name := "fnNormalizeIgnoresCaseOfSchemeAndEscapes", fn := fun _ => fun
  | [d] => { results := [.lit (.bool true)], args := [d] }
  | _ => none }
def fnNormalizeIgnoresCaseOfSchemeAndEscapesRow : OpenClaim := { program := "qxb6602061a", sum := "f52aadd7c33129c13fc9415f4c274133f179860c9f9c8881ecffc0ed12d05f67", func := "example.com/ostraca/ostraca/zzlaws_internal_uri_b1.FnNormalizeIgnoresCaseOfSchemeAndEscapes", spec := "fnNormalizeIgnoresCaseOfSchemeAndEscapes", inPlace := ["internal/bytealg.IndexByteString", "internal/bytealg.IndexString"], named := ["internal/bytealg.MaxLen"], apart := false }
def FnNormalizeIgnoresCaseOfSchemeAndEscapesSaid : Prop := fnNormalizeIgnoresCaseOfSchemeAndEscapesRow.holds Try.pinned (OpenSpec.ofChange fnNormalizeIgnoresCaseOfSchemeAndEscapesSpec)

/-- ITS FALSE NEIGHBOUR: 'it returns false'. Refute it at one input. -/
def fnNormalizeIgnoresCaseOfSchemeAndEscapesWrong : ChangeSpec := { name := "fnNormalizeIgnoresCaseOfSchemeAndEscapes", fn := fun _ => fun
  | [d] => { results := [.lit (.bool false)], args := [d] }
  | _ => none }
def FnNormalizeIgnoresCaseOfSchemeAndEscapesWrongFalsely : Prop := fnNormalizeIgnoresCaseOfSchemeAndEscapesRow.holds Try.pinned (OpenSpec.ofChange fnNormalizeIgnoresCaseOfSchemeAndEscapesWrong)

end Rows
end Go.Proofs.Qxb6602061a
