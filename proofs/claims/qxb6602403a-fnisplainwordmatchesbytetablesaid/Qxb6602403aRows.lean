/-
  No cell of these rows narrows 'for every input' (looked for: loops, veiled, ifaces, maps, wideKeys, modest, calm, conditions, laid).
  DERIVED. THE GIVEN ROWS OF THIS SEAT. 8 by the template 'for every input the law returns true; each argument reads behind the call as it read before'; 0 by the template 'total and deterministic' (their statements: Qxb6602403aTotals.lean).
  GIVEN WITH THE SEED: the statements are not yours to turn. If you find one false, say at which input.
  Laid BY PROGRAM, IN A SANDBOX (cutbox-rows.mjs): the forced cells as the released guide's own fill.sh prints them over the translation 6059e31813948ca6… (all of the seat's roots in one cut). By AI agents, Wed Nov 11 2026. No macro, syntax, notation, axiom, sorry.
-/
import Derived.Test.Qxb6602403aChecked
import GoSem.Claim
import GoSem.ClaimJoined
import GoSem.ClaimMapViews
import Derived.JoinedTies
import Derived.KernelRfl
namespace Go.Proofs.Qxb6602403a
/- THE CELL 'sum', in the pinned program and in every row, IS THE sha256 OF THE DUMP (.gsa) THAT Qxb6602403aProg.lean LOADS. Nothing in Lean hashes anything: it is a label: what it is worth is what the hold of that sum in a sandbox is worth. -/
noncomputable def Try.pinned : Pinned := { name := "qxb6602403a", sum := "6059e31813948ca6ff60a24f6e595d16f34bfbe90cd7df3a746c88056a488f66", checked := Try.checked }
namespace Rows
def none {H : Type} : Left H := { results := [], args := [] }

/-- 'zzlaws_internal_kubeconfig_b1.FnQuotedEndMatchesModel': WHATEVER THE INPUT: true; the input reads as it did. -/
def fnQuotedEndMatchesModelSpec : ChangeSpec := { name := "fnQuotedEndMatchesModel", fn := fun _ => fun
  | [d1, d2] => { results := [.lit (.bool true)], args := [d1, d2] }
  | _ => none }
def fnQuotedEndMatchesModelRow : OpenClaim := { program := "qxb6602403a", sum := "6059e31813948ca6ff60a24f6e595d16f34bfbe90cd7df3a746c88056a488f66", func := "example.com/rudderbook/rudderbook/zzlaws_internal_kubeconfig_b1.FnQuotedEndMatchesModel", spec := "fnQuotedEndMatchesModel", apart := false }
def FnQuotedEndMatchesModelSaid : Prop := fnQuotedEndMatchesModelRow.holds Try.pinned (OpenSpec.ofChange fnQuotedEndMatchesModelSpec)

/-- ITS FALSE NEIGHBOUR: 'it returns false'. Refute it at one input. -/
def fnQuotedEndMatchesModelWrong : ChangeSpec := { name := "fnQuotedEndMatchesModel", fn := fun _ => fun
  | [d1, d2] => { results := [.lit (.bool false)], args := [d1, d2] }
  | _ => none }
def FnQuotedEndMatchesModelWrongFalsely : Prop := fnQuotedEndMatchesModelRow.holds Try.pinned (OpenSpec.ofChange fnQuotedEndMatchesModelWrong)

/-- 'zzlaws_internal_kubeconfig_b1.FnQuotedEndFindsEndOfWrittenScalar': WHATEVER THE INPUT: true; the input reads as it did. -/
def fnQuotedEndFindsEndOfWrittenScalarSpec : ChangeSpec := { name := "fnQuotedEndFindsEndOfWrittenScalar", fn := fun _ => fun
  | [d1, d2, d3] => { results := [.lit (.bool true)], args := [d1, d2, d3] }
  | _ => none }
def fnQuotedEndFindsEndOfWrittenScalarRow : OpenClaim := { program := "qxb6602403a", sum := "6059e31813948ca6ff60a24f6e595d16f34bfbe90cd7df3a746c88056a488f66", func := "example.com/rudderbook/rudderbook/zzlaws_internal_kubeconfig_b1.FnQuotedEndFindsEndOfWrittenScalar", spec := "fnQuotedEndFindsEndOfWrittenScalar", apart := false }
def FnQuotedEndFindsEndOfWrittenScalarSaid : Prop := fnQuotedEndFindsEndOfWrittenScalarRow.holds Try.pinned (OpenSpec.ofChange fnQuotedEndFindsEndOfWrittenScalarSpec)

/-- ITS FALSE NEIGHBOUR: 'it returns false'. Refute it at one input. -/
def fnQuotedEndFindsEndOfWrittenScalarWrong : ChangeSpec := { name := "fnQuotedEndFindsEndOfWrittenScalar", fn := fun _ => fun
  | [d1, d2, d3] => { results := [.lit (.bool false)], args := [d1, d2, d3] }
  | _ => none }
def FnQuotedEndFindsEndOfWrittenScalarWrongFalsely : Prop := fnQuotedEndFindsEndOfWrittenScalarRow.holds Try.pinned (OpenSpec.ofChange fnQuotedEndFindsEndOfWrittenScalarWrong)

/-- 'zzlaws_internal_kubeconfig_b1.FnQuotedEndIgnoresBytesAfterClose': WHATEVER THE INPUT: true; the input reads as it did. -/
def fnQuotedEndIgnoresBytesAfterCloseSpec : ChangeSpec := { name := "fnQuotedEndIgnoresBytesAfterClose", fn := fun _ => fun
  | [d1, d2, d3] => { results := [.lit (.bool true)], args := [d1, d2, d3] }
  | _ => none }
def fnQuotedEndIgnoresBytesAfterCloseRow : OpenClaim := { program := "qxb6602403a", sum := "6059e31813948ca6ff60a24f6e595d16f34bfbe90cd7df3a746c88056a488f66", func := "example.com/rudderbook/rudderbook/zzlaws_internal_kubeconfig_b1.FnQuotedEndIgnoresBytesAfterClose", spec := "fnQuotedEndIgnoresBytesAfterClose", apart := false }
def FnQuotedEndIgnoresBytesAfterCloseSaid : Prop := fnQuotedEndIgnoresBytesAfterCloseRow.holds Try.pinned (OpenSpec.ofChange fnQuotedEndIgnoresBytesAfterCloseSpec)

/-- ITS FALSE NEIGHBOUR: 'it returns false'. Refute it at one input. -/
def fnQuotedEndIgnoresBytesAfterCloseWrong : ChangeSpec := { name := "fnQuotedEndIgnoresBytesAfterClose", fn := fun _ => fun
  | [d1, d2, d3] => { results := [.lit (.bool false)], args := [d1, d2, d3] }
  | _ => none }
def FnQuotedEndIgnoresBytesAfterCloseWrongFalsely : Prop := fnQuotedEndIgnoresBytesAfterCloseRow.holds Try.pinned (OpenSpec.ofChange fnQuotedEndIgnoresBytesAfterCloseWrong)

/-- 'zzlaws_internal_kubeconfig_b1.FnIsPlainWordMatchesByteTable': WHATEVER THE INPUT: true; the input reads as it did. -/
def fnIsPlainWordMatchesByteTableSpec : ChangeSpec := { name := "fnIsPlainWordMatchesByteTable", fn := fun _ => fun
  | [d] => { results := [.lit (.bool true)], args := [d] }
  | _ => none }
def fnIsPlainWordMatchesByteTableRow : OpenClaim := { program := "qxb6602403a", sum := "6059e31813948ca6ff60a24f6e595d16f34bfbe90cd7df3a746c88056a488f66", func := "example.com/rudderbook/rudderbook/zzlaws_internal_kubeconfig_b1.FnIsPlainWordMatchesByteTable", spec := "fnIsPlainWordMatchesByteTable", inPlace := ["internal/bytealg.IndexByteString", "internal/bytealg.IndexString"], named := ["internal/bytealg.MaxLen"], apart := false }
def FnIsPlainWordMatchesByteTableSaid : Prop := fnIsPlainWordMatchesByteTableRow.holds Try.pinned (OpenSpec.ofChange fnIsPlainWordMatchesByteTableSpec)

/-- ITS FALSE NEIGHBOUR: 'it returns false'. Refute it at one input. -/
def fnIsPlainWordMatchesByteTableWrong : ChangeSpec := { name := "fnIsPlainWordMatchesByteTable", fn := fun _ => fun
  | [d] => { results := [.lit (.bool false)], args := [d] }
  | _ => none }
def FnIsPlainWordMatchesByteTableWrongFalsely : Prop := fnIsPlainWordMatchesByteTableRow.holds Try.pinned (OpenSpec.ofChange fnIsPlainWordMatchesByteTableWrong)

/-- 'zzlaws_internal_kubeconfig_b1.FnIsPlainWordConcat': WHATEVER THE INPUT: true; the input reads as it did. -/
def fnIsPlainWordConcatSpec : ChangeSpec := { name := "fnIsPlainWordConcat", fn := fun _ => fun
  | [d1, d2] => { results := [.lit (.bool true)], args := [d1, d2] }
  | _ => none }
def fnIsPlainWordConcatRow : OpenClaim := { program := "qxb6602403a", sum := "6059e31813948ca6ff60a24f6e595d16f34bfbe90cd7df3a746c88056a488f66", func := "example.com/rudderbook/rudderbook/zzlaws_internal_kubeconfig_b1.FnIsPlainWordConcat", spec := "fnIsPlainWordConcat", inPlace := ["internal/bytealg.IndexByteString", "internal/bytealg.IndexString"], named := ["internal/bytealg.MaxLen"], apart := false }
def FnIsPlainWordConcatSaid : Prop := fnIsPlainWordConcatRow.holds Try.pinned (OpenSpec.ofChange fnIsPlainWordConcatSpec)

/-- ITS FALSE NEIGHBOUR: 'it returns false'. Refute it at one input. -/
def fnIsPlainWordConcatWrong : ChangeSpec := { name := "fnIsPlainWordConcat", fn := fun _ => fun
  | [d1, d2] => { results := [.lit (.bool false)], args := [d1, d2] }
  | _ => none }
def FnIsPlainWordConcatWrongFalsely : Prop := fnIsPlainWordConcatRow.holds Try.pinned (OpenSpec.ofChange fnIsPlainWordConcatWrong)

/-- 'zzlaws_internal_kubeconfig_b1.FnIsTempOfMatchesRebuild': WHATEVER THE INPUT: true; the input reads as it did. -/
def fnIsTempOfMatchesRebuildSpec : ChangeSpec := { name := "fnIsTempOfMatchesRebuild", fn := fun _ => fun
  | [d1, d2] => { results := [.lit (.bool true)], args := [d1, d2] }
  | _ => none }
def fnIsTempOfMatchesRebuildRow : OpenClaim := { program := "qxb6602403a", sum := "6059e31813948ca6ff60a24f6e595d16f34bfbe90cd7df3a746c88056a488f66", func := "example.com/rudderbook/rudderbook/zzlaws_internal_kubeconfig_b1.FnIsTempOfMatchesRebuild", spec := "fnIsTempOfMatchesRebuild", inPlace := ["internal/bytealg.IndexByteString", "internal/bytealg.IndexString"], named := ["internal/bytealg.MaxLen"], apart := false }
def FnIsTempOfMatchesRebuildSaid : Prop := fnIsTempOfMatchesRebuildRow.holds Try.pinned (OpenSpec.ofChange fnIsTempOfMatchesRebuildSpec)

/-- ITS FALSE NEIGHBOUR: 'it returns false'. Refute it at one input. -/
def fnIsTempOfMatchesRebuildWrong : ChangeSpec := { name := "fnIsTempOfMatchesRebuild", fn := fun _ => fun
  | [d1, d2] => { results := [.lit (.bool false)], args := [d1, d2] }
  | _ => none }
def FnIsTempOfMatchesRebuildWrongFalsely : Prop := fnIsTempOfMatchesRebuildRow.holds Try.pinned (OpenSpec.ofChange fnIsTempOfMatchesRebuildWrong)

/-- 'zzlaws_internal_kubeconfig_b1.FnIsTempOfOwnerIsUnique': WHATEVER THE INPUT: true; the input reads as it did. -/
def fnIsTempOfOwnerIsUniqueSpec : ChangeSpec := { name := "fnIsTempOfOwnerIsUnique", fn := fun _ => fun
  | [d1, d2, d3] => { results := [.lit (.bool true)], args := [d1, d2, d3] }
  | _ => none }
def fnIsTempOfOwnerIsUniqueRow : OpenClaim := { program := "qxb6602403a", sum := "6059e31813948ca6ff60a24f6e595d16f34bfbe90cd7df3a746c88056a488f66", func := "example.com/rudderbook/rudderbook/zzlaws_internal_kubeconfig_b1.FnIsTempOfOwnerIsUnique", spec := "fnIsTempOfOwnerIsUnique", inPlace := ["internal/bytealg.IndexByteString", "internal/bytealg.IndexString"], named := ["internal/bytealg.MaxLen"], apart := false }
def FnIsTempOfOwnerIsUniqueSaid : Prop := fnIsTempOfOwnerIsUniqueRow.holds Try.pinned (OpenSpec.ofChange fnIsTempOfOwnerIsUniqueSpec)

/-- ITS FALSE NEIGHBOUR: 'it returns false'. Refute it at one input. -/
def fnIsTempOfOwnerIsUniqueWrong : ChangeSpec := { name := "fnIsTempOfOwnerIsUnique", fn := fun _ => fun
  | [d1, d2, d3] => { results := [.lit (.bool false)], args := [d1, d2, d3] }
  | _ => none }
def FnIsTempOfOwnerIsUniqueWrongFalsely : Prop := fnIsTempOfOwnerIsUniqueRow.holds Try.pinned (OpenSpec.ofChange fnIsTempOfOwnerIsUniqueWrong)

/-- 'zzlaws_internal_kubeconfig_b1.FnIsTempOfRefusesTempOfLongerName': WHATEVER THE INPUT: true; the input reads as it did. -/
def fnIsTempOfRefusesTempOfLongerNameSpec : ChangeSpec := { name := "fnIsTempOfRefusesTempOfLongerName", fn := fun _ => fun
  | [d1, d2, d3] => { results := [.lit (.bool true)], args := [d1, d2, d3] }
  | _ => none }
def fnIsTempOfRefusesTempOfLongerNameRow : OpenClaim := { program := "qxb6602403a", sum := "6059e31813948ca6ff60a24f6e595d16f34bfbe90cd7df3a746c88056a488f66", func := "example.com/rudderbook/rudderbook/zzlaws_internal_kubeconfig_b1.FnIsTempOfRefusesTempOfLongerName", spec := "fnIsTempOfRefusesTempOfLongerName", inPlace := ["internal/bytealg.IndexByteString", "internal/bytealg.IndexString"], named := ["internal/bytealg.MaxLen"], apart := false }
def FnIsTempOfRefusesTempOfLongerNameSaid : Prop := fnIsTempOfRefusesTempOfLongerNameRow.holds Try.pinned (OpenSpec.ofChange fnIsTempOfRefusesTempOfLongerNameSpec)

/-- ITS FALSE NEIGHBOUR: 'it returns false'. Refute it at one input. -/
def fnIsTempOfRefusesTempOfLongerNameWrong : ChangeSpec := { name := "fnIsTempOfRefusesTempOfLongerName", fn := fun _ => fun
  | [d1, d2, d3] => { results := [.lit (.bool false)], args := [d1, d2, d3] }
  | _ => none }
def FnIsTempOfRefusesTempOfLongerNameWrongFalsely : Prop := fnIsTempOfRefusesTempOfLongerNameRow.holds Try.pinned (OpenSpec.ofChange fnIsTempOfRefusesTempOfLongerNameWrong)

end Rows
end Go.Proofs.Qxb6602403a
