/-
  No cell of these rows narrows 'for every input' (looked for: loops, veiled, ifaces, maps, wideKeys, modest, calm, conditions, laid).
  DERIVED. THE GIVEN ROWS OF THIS SEAT. 2 by the template 'for every input the law returns true; each argument reads behind the call as it read before'; 0 by the template 'total and deterministic' (their statements: Qxb6602628aTotals.lean).
  GIVEN WITH THE SEED: the statements are not yours to turn. If you find one false, say at which input.
  Laid BY PROGRAM, IN A SANDBOX (cutbox-rows.mjs): the forced cells as the released guide's own fill.sh prints them over the translation 3f775095e5266b2d… (all of the seat's roots in one cut). By AI agents, Wed Nov 11 2026. No macro, syntax, notation, axiom, sorry.
-/
import Derived.Test.Qxb6602628aChecked
import GoSem.Claim
import GoSem.ClaimJoined
import GoSem.ClaimMapViews
import Derived.JoinedTies
import Derived.KernelRfl
namespace Go.Proofs.Qxb6602628a
/- THE CELL 'sum', in the pinned program and in every row, IS THE sha256 OF THE DUMP (.gsa) THAT Qxb6602628aProg.lean LOADS. Nothing in Lean hashes anything: it is a label: what it is worth is what the hold of that sum in a sandbox is worth. -/
noncomputable def Try.pinned : Pinned := { name := "qxb6602628a", sum := "3f775095e5266b2d49f4a2372676f3f88070c8947b8c8cb71220b374e4f61a1e", checked := Try.checked }
namespace Rows
def none {H : Type} : Left H := { results := [], args := [] }

/-- 'zzlaws_internal_subject_b1.FnValidFilterMatchesByteScan': WHATEVER THE INPUT: true; the input reads as it did. -/
def fnValidFilterMatchesByteScanSpec : ChangeSpec := { name := "fnValidFilterMatchesByteScan", fn := fun _ => fun
  | [d] => { results := [.lit (.bool true)], args := [d] }
  | _ => none }
def fnValidFilterMatchesByteScanRow : OpenClaim := { program := "qxb6602628a", sum := "3f775095e5266b2d49f4a2372676f3f88070c8947b8c8cb71220b374e4f61a1e", func := "example.com/inflight/inflight/zzlaws_internal_subject_b1.FnValidFilterMatchesByteScan", spec := "fnValidFilterMatchesByteScan", inPlace := ["internal/bytealg.IndexByteString", "internal/bytealg.IndexString"], named := ["internal/bytealg.MaxLen"], apart := false }
def FnValidFilterMatchesByteScanSaid : Prop := fnValidFilterMatchesByteScanRow.holds Try.pinned (OpenSpec.ofChange fnValidFilterMatchesByteScanSpec)

/-- ITS FALSE NEIGHBOUR: 'it returns false'. Refute it at one input. -/
def fnValidFilterMatchesByteScanWrong : ChangeSpec := { name := "fnValidFilterMatchesByteScan", fn := fun _ => fun
  | [d] => { results := [.lit (.bool false)], args := [d] }
  | _ => none }
def FnValidFilterMatchesByteScanWrongFalsely : Prop := fnValidFilterMatchesByteScanRow.holds Try.pinned (OpenSpec.ofChange fnValidFilterMatchesByteScanWrong)

/-- 'zzlaws_internal_subject_b1.FnOverlapModel': WHATEVER THE INPUT: true; the input reads as it did. -/
def fnOverlapModelSpec : ChangeSpec := { name := "fnOverlapModel", fn := fun _ => fun
  | [d1, d2] => { results := [.lit (.bool true)], args := [d1, d2] }
  | _ => none }
def fnOverlapModelRow : OpenClaim := { program := "qxb6602628a", sum := "3f775095e5266b2d49f4a2372676f3f88070c8947b8c8cb71220b374e4f61a1e", func := "example.com/inflight/inflight/zzlaws_internal_subject_b1.FnOverlapModel", spec := "fnOverlapModel", inPlace := ["internal/bytealg.IndexByteString", "internal/bytealg.IndexString"], named := ["internal/bytealg.MaxLen"], apart := false }
def FnOverlapModelSaid : Prop := fnOverlapModelRow.holds Try.pinned (OpenSpec.ofChange fnOverlapModelSpec)

/-- ITS FALSE NEIGHBOUR: 'it returns false'. Refute it at one input. -/
def fnOverlapModelWrong : ChangeSpec := { name := "fnOverlapModel", fn := fun _ => fun
  | [d1, d2] => { results := [.lit (.bool false)], args := [d1, d2] }
  | _ => none }
def FnOverlapModelWrongFalsely : Prop := fnOverlapModelRow.holds Try.pinned (OpenSpec.ofChange fnOverlapModelWrong)

end Rows
end Go.Proofs.Qxb6602628a
