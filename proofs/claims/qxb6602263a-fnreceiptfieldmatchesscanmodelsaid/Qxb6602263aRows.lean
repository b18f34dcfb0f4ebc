/-
  No cell of these rows narrows 'for every input' (looked for: loops, veiled, ifaces, maps, wideKeys, modest, calm, conditions, laid).
  DERIVED. THE GIVEN ROWS OF THIS SEAT. 5 by the template 'for every input the law returns true; each argument reads behind the call as it read before'; 0 by the template 'total and deterministic' (their statements: Qxb6602263aTotals.lean).
  GIVEN WITH THE SEED: the statements are not yours to turn. If you find one false, say at which input.
  Laid BY PROGRAM, IN A SANDBOX (cutbox-rows.mjs): the forced cells as the released guide's own fill.sh prints them over the translation 2788f5d1560474bf… (all of the seat's roots in one cut). By AI agents, Wed Nov 11 2026. No macro, syntax, notation, axiom, sorry.
-/
import Derived.Test.Qxb6602263aChecked
import GoSem.Claim
import GoSem.ClaimJoined
import GoSem.ClaimMapViews
import Derived.JoinedTies
import Derived.KernelRfl
namespace Go.Proofs.Qxb6602263a
/- THE CELL 'sum', in the pinned program and in every row, IS THE sha256 OF THE DUMP (.gsa) THAT Qxb6602263aProg.lean LOADS. Nothing in Lean hashes anything: it is a label: what it is worth is what the hold of that sum in a sandbox is worth. -/
noncomputable def Try.pinned : Pinned := { name := "qxb6602263a", sum := "2788f5d1560474bfc3e2b4a17327e5571ee34d6d2f454b0947e62506b37aefe4", checked := Try.checked }
namespace Rows
def none {H : Type} : Left H := { results := [], args := [] }

/-- 'zzlaws_pkg_pdu_b1.FnReceiptFieldMatchesScanModel': WHATEVER THE INPUT: true; the input reads as it did. -/
def fnReceiptFieldMatchesScanModelSpec : ChangeSpec := { name := "fnReceiptFieldMatchesScanModel", fn := fun _ => fun
  | [d1, d2] => { results := [.lit (.bool true)], args := [d1, d2] }
  | _ => none }
def fnReceiptFieldMatchesScanModelRow : OpenClaim := { program := "qxb6602263a", sum := "2788f5d1560474bfc3e2b4a17327e5571ee34d6d2f454b0947e62506b37aefe4", func := "example.com/shortwire/shortwire/zzlaws_pkg_pdu_b1.FnReceiptFieldMatchesScanModel", spec := "fnReceiptFieldMatchesScanModel", inPlace := ["internal/bytealg.IndexByteString", "internal/bytealg.IndexString"], named := ["internal/bytealg.MaxLen"], apart := false }
def FnReceiptFieldMatchesScanModelSaid : Prop := fnReceiptFieldMatchesScanModelRow.holds Try.pinned (OpenSpec.ofChange fnReceiptFieldMatchesScanModelSpec)

/-- ITS FALSE NEIGHBOUR: 'it returns false'. Refute it at one input. -/
def fnReceiptFieldMatchesScanModelWrong : ChangeSpec := { name := "fnReceiptFieldMatchesScanModel", fn := fun _ => fun
  | [d1, d2] => { results := [.lit (.bool false)], args := [d1, d2] }
  | _ => none }
def FnReceiptFieldMatchesScanModelWrongFalsely : Prop := fnReceiptFieldMatchesScanModelRow.holds Try.pinned (OpenSpec.ofChange fnReceiptFieldMatchesScanModelWrong)

/-- 'zzlaws_pkg_pdu_b1.FnReceiptFieldReadsLeadingField': WHATEVER THE INPUT: true; the input reads as it did. -/
def fnReceiptFieldReadsLeadingFieldSpec : ChangeSpec := { name := "fnReceiptFieldReadsLeadingField", fn := fun _ => fun
  | [d1, d2, d3] => { results := [.lit (.bool true)], args := [d1, d2, d3] }
  | _ => none }
def fnReceiptFieldReadsLeadingFieldRow : OpenClaim := { program := "qxb6602263a", sum := "2788f5d1560474bfc3e2b4a17327e5571ee34d6d2f454b0947e62506b37aefe4", func := "example.com/shortwire/shortwire/zzlaws_pkg_pdu_b1.FnReceiptFieldReadsLeadingField", spec := "fnReceiptFieldReadsLeadingField", inPlace := ["internal/bytealg.IndexByteString", "internal/bytealg.IndexString"], named := ["internal/bytealg.MaxLen"], apart := false }
def FnReceiptFieldReadsLeadingFieldSaid : Prop := fnReceiptFieldReadsLeadingFieldRow.holds Try.pinned (OpenSpec.ofChange fnReceiptFieldReadsLeadingFieldSpec)

/-- ITS FALSE NEIGHBOUR: 'it returns false'. Refute it at one input. -/
def fnReceiptFieldReadsLeadingFieldWrong : ChangeSpec := { name := "fnReceiptFieldReadsLeadingField", fn := fun _ => fun
  | [d1, d2, d3] => { results := [.lit (.bool false)], args := [d1, d2, d3] }
  | _ => none }
def FnReceiptFieldReadsLeadingFieldWrongFalsely : Prop := fnReceiptFieldReadsLeadingFieldRow.holds Try.pinned (OpenSpec.ofChange fnReceiptFieldReadsLeadingFieldWrong)

/-- 'zzlaws_pkg_pdu_b1.FnReceiptFieldShiftsUnderLeadingSpace': WHATEVER THE INPUT: true; the input reads as it did. -/
def fnReceiptFieldShiftsUnderLeadingSpaceSpec : ChangeSpec := { name := "fnReceiptFieldShiftsUnderLeadingSpace", fn := fun _ => fun
  | [d1, d2] => { results := [.lit (.bool true)], args := [d1, d2] }
  | _ => none }
def fnReceiptFieldShiftsUnderLeadingSpaceRow : OpenClaim := { program := "qxb6602263a", sum := "2788f5d1560474bfc3e2b4a17327e5571ee34d6d2f454b0947e62506b37aefe4", func := "example.com/shortwire/shortwire/zzlaws_pkg_pdu_b1.FnReceiptFieldShiftsUnderLeadingSpace", spec := "fnReceiptFieldShiftsUnderLeadingSpace", inPlace := ["internal/bytealg.IndexByteString", "internal/bytealg.IndexString"], named := ["internal/bytealg.MaxLen"], apart := false }
def FnReceiptFieldShiftsUnderLeadingSpaceSaid : Prop := fnReceiptFieldShiftsUnderLeadingSpaceRow.holds Try.pinned (OpenSpec.ofChange fnReceiptFieldShiftsUnderLeadingSpaceSpec)

/-- ITS FALSE NEIGHBOUR: 'it returns false'. Refute it at one input. -/
def fnReceiptFieldShiftsUnderLeadingSpaceWrong : ChangeSpec := { name := "fnReceiptFieldShiftsUnderLeadingSpace", fn := fun _ => fun
  | [d1, d2] => { results := [.lit (.bool false)], args := [d1, d2] }
  | _ => none }
def FnReceiptFieldShiftsUnderLeadingSpaceWrongFalsely : Prop := fnReceiptFieldShiftsUnderLeadingSpaceRow.holds Try.pinned (OpenSpec.ofChange fnReceiptFieldShiftsUnderLeadingSpaceWrong)

/-- 'zzlaws_pkg_pdu_b1.FnReceiptWantedOnSuccessImpliesOnFailure': WHATEVER THE INPUT: true; the input reads as it did. -/
def fnReceiptWantedOnSuccessImpliesOnFailureSpec : ChangeSpec := { name := "fnReceiptWantedOnSuccessImpliesOnFailure", fn := fun _ => fun
  | [d] => { results := [.lit (.bool true)], args := [d] }
  | _ => none }
def fnReceiptWantedOnSuccessImpliesOnFailureRow : OpenClaim := { program := "qxb6602263a", sum := "2788f5d1560474bfc3e2b4a17327e5571ee34d6d2f454b0947e62506b37aefe4", func := "example.com/shortwire/shortwire/zzlaws_pkg_pdu_b1.FnReceiptWantedOnSuccessImpliesOnFailure", spec := "fnReceiptWantedOnSuccessImpliesOnFailure", apart := false }
def FnReceiptWantedOnSuccessImpliesOnFailureSaid : Prop := fnReceiptWantedOnSuccessImpliesOnFailureRow.holds Try.pinned (OpenSpec.ofChange fnReceiptWantedOnSuccessImpliesOnFailureSpec)

/-- ITS FALSE NEIGHBOUR: 'it returns false'. Refute it at one input. -/
def fnReceiptWantedOnSuccessImpliesOnFailureWrong : ChangeSpec := { name := "fnReceiptWantedOnSuccessImpliesOnFailure", fn := fun _ => fun
  | [d] => { results := [.lit (.bool false)], args := [d] }
  | _ => none }
def FnReceiptWantedOnSuccessImpliesOnFailureWrongFalsely : Prop := fnReceiptWantedOnSuccessImpliesOnFailureRow.holds Try.pinned (OpenSpec.ofChange fnReceiptWantedOnSuccessImpliesOnFailureWrong)

/-- 'zzlaws_pkg_pdu_b1.FnReceiptWantedReadsOnlyLowTwoBits': WHATEVER THE INPUT: true; the input reads as it did. -/
def fnReceiptWantedReadsOnlyLowTwoBitsSpec : ChangeSpec := { name := "fnReceiptWantedReadsOnlyLowTwoBits", fn := fun _ => fun
  | [d1, d2, d3] => { results := [.lit (.bool true)], args := [d1, d2, d3] }
  | _ => none }
def fnReceiptWantedReadsOnlyLowTwoBitsRow : OpenClaim := { program := "qxb6602263a", sum := "2788f5d1560474bfc3e2b4a17327e5571ee34d6d2f454b0947e62506b37aefe4", func := "example.com/shortwire/shortwire/zzlaws_pkg_pdu_b1.FnReceiptWantedReadsOnlyLowTwoBits", spec := "fnReceiptWantedReadsOnlyLowTwoBits", apart := false }
def FnReceiptWantedReadsOnlyLowTwoBitsSaid : Prop := fnReceiptWantedReadsOnlyLowTwoBitsRow.holds Try.pinned (OpenSpec.ofChange fnReceiptWantedReadsOnlyLowTwoBitsSpec)

/-- ITS FALSE NEIGHBOUR: 'it returns false'. Refute it at one input. -/
def fnReceiptWantedReadsOnlyLowTwoBitsWrong : ChangeSpec := { name := "fnReceiptWantedReadsOnlyLowTwoBits", fn := fun _ => fun
  | [d1, d2, d3] => { results := [.lit (.bool false)], args := [d1, d2, d3] }
  | _ => none }
def FnReceiptWantedReadsOnlyLowTwoBitsWrongFalsely : Prop := fnReceiptWantedReadsOnlyLowTwoBitsRow.holds Try.pinned (OpenSpec.ofChange fnReceiptWantedReadsOnlyLowTwoBitsWrong)

end Rows
end Go.Proofs.Qxb6602263a
