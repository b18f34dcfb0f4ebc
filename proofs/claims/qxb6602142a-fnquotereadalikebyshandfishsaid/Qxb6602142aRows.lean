/-
  No cell of these rows narrows 'for every input' (looked for: loops, veiled, ifaces, maps, wideKeys, modest, calm, conditions, laid).
  DERIVED. THE GIVEN ROWS OF THIS SEAT. 3 by the template 'for every input the law returns true; each argument reads behind the call as it read before'; 0 by the template 'total and deterministic' (their statements: Qxb6602142aTotals.lean).
  GIVEN WITH THE SEED: the statements are not yours to turn. If you find one false, say at which input.
  Laid BY PROGRAM, IN A SANDBOX (cutbox-rows.mjs): the forced cells as the released guide's own fill.sh prints them over the translation 3e3e9de50fa3dd16… (all of the seat's roots in one cut). By AI agents, Wed Nov 11 2026. No macro, syntax, notation, axiom, sorry.
-/
import Derived.Test.Qxb6602142aChecked
import GoSem.Claim
import GoSem.ClaimJoined
import GoSem.ClaimMapViews
import Derived.JoinedTies
import Derived.KernelRfl
namespace Go.Proofs.Qxb6602142a
/- THE CELL 'sum', in the pinned program and in every row, IS THE sha256 OF THE DUMP (.gsa) THAT Qxb6602142aProg.lean LOADS. Nothing in Lean hashes anything: it is a label: what it is worth is what the hold of that sum in a sandbox is worth. -/
noncomputable def Try.pinned : Pinned := { name := "qxb6602142a", sum := "3e3e9de50fa3dd1692d641fb3780b08de6bec186e9910ab23c522828a3b3235f", checked := Try.checked }
namespace Rows
def none {H : Type} : Left H := { results := [], args := [] }

/-- 'zzlaws_internal_shell_b1.FnQuoteExactForm': WHATEVER THE INPUT: true; the input reads as it did. -/
def fnQuoteExactFormSpec : ChangeSpec := { name := "fnQuoteExactForm", fn := fun _ => fun
  | [d] => { results := [.lit (.bool true)], args := [d] }
  | _ => none }
def fnQuoteExactFormRow : OpenClaim := { program := "qxb6602142a", sum := "3e3e9de50fa3dd1692d641fb3780b08de6bec186e9910ab23c522828a3b3235f", func := "example.com/halyard/halyard/zzlaws_internal_shell_b1.FnQuoteExactForm", spec := "fnQuoteExactForm", inPlace := ["internal/bytealg.IndexByteString", "internal/bytealg.IndexString", "internal/abi.NoEscape", "internal/bytealg.MakeNoZero"], unfollowed := true, recurses := true, named := ["internal/bytealg.MaxLen"], apart := false }
def FnQuoteExactFormSaid : Prop := fnQuoteExactFormRow.holds Try.pinned (OpenSpec.ofChange fnQuoteExactFormSpec)

/-- ITS FALSE NEIGHBOUR: 'it returns false'. Refute it at one input. -/
def fnQuoteExactFormWrong : ChangeSpec := { name := "fnQuoteExactForm", fn := fun _ => fun
  | [d] => { results := [.lit (.bool false)], args := [d] }
  | _ => none }
def FnQuoteExactFormWrongFalsely : Prop := fnQuoteExactFormRow.holds Try.pinned (OpenSpec.ofChange fnQuoteExactFormWrong)

/-- 'zzlaws_internal_shell_b1.FnQuoteReadAlikeByShAndFish': WHATEVER THE INPUT: true; the input reads as it did. -/
def fnQuoteReadAlikeByShAndFishSpec : ChangeSpec := { name := "fnQuoteReadAlikeByShAndFish", fn := fun _ => fun
  | [d] => { results := [.lit (.bool true)], args := [d] }
  | _ => none }
def fnQuoteReadAlikeByShAndFishRow : OpenClaim := { program := "qxb6602142a", sum := "3e3e9de50fa3dd1692d641fb3780b08de6bec186e9910ab23c522828a3b3235f", func := "example.com/halyard/halyard/zzlaws_internal_shell_b1.FnQuoteReadAlikeByShAndFish", spec := "fnQuoteReadAlikeByShAndFish", inPlace := ["internal/bytealg.IndexByteString", "internal/bytealg.IndexString", "internal/abi.NoEscape", "internal/bytealg.MakeNoZero"], unfollowed := true, recurses := true, named := ["internal/bytealg.MaxLen"], apart := false }
def FnQuoteReadAlikeByShAndFishSaid : Prop := fnQuoteReadAlikeByShAndFishRow.holds Try.pinned (OpenSpec.ofChange fnQuoteReadAlikeByShAndFishSpec)

/-- ITS FALSE NEIGHBOUR: 'it returns false'. Refute it at one input. -/
def fnQuoteReadAlikeByShAndFishWrong : ChangeSpec := { name := "fnQuoteReadAlikeByShAndFish", fn := fun _ => fun
  | [d] => { results := [.lit (.bool false)], args := [d] }
  | _ => none }
def FnQuoteReadAlikeByShAndFishWrongFalsely : Prop := fnQuoteReadAlikeByShAndFishRow.holds Try.pinned (OpenSpec.ofChange fnQuoteReadAlikeByShAndFishWrong)

/-- 'zzlaws_internal_shell_b1.FnQuoteInjective': WHATEVER THE INPUT: true; the input reads as it did. -/
def fnQuoteInjectiveSpec : ChangeSpec := { name := "fnQuoteInjective", fn := fun _ => fun
  | [d1, d2] => { results := [.lit (.bool true)], args := [d1, d2] }
  | _ => none }
def fnQuoteInjectiveRow : OpenClaim := { program := "qxb6602142a", sum := "3e3e9de50fa3dd1692d641fb3780b08de6bec186e9910ab23c522828a3b3235f", func := "example.com/halyard/halyard/zzlaws_internal_shell_b1.FnQuoteInjective", spec := "fnQuoteInjective", inPlace := ["internal/bytealg.IndexByteString", "internal/bytealg.IndexString", "internal/abi.NoEscape", "internal/bytealg.MakeNoZero"], unfollowed := true, recurses := true, named := ["internal/bytealg.MaxLen"], apart := false }
def FnQuoteInjectiveSaid : Prop := fnQuoteInjectiveRow.holds Try.pinned (OpenSpec.ofChange fnQuoteInjectiveSpec)

/-- ITS FALSE NEIGHBOUR: 'it returns false'. Refute it at one input. -/
def fnQuoteInjectiveWrong : ChangeSpec := { name := "fnQuoteInjective", fn := fun _ => fun
  | [d1, d2] => { results := [.lit (.bool false)], args := [d1, d2] }
  | _ => none }
def FnQuoteInjectiveWrongFalsely : Prop := fnQuoteInjectiveRow.holds Try.pinned (OpenSpec.ofChange fnQuoteInjectiveWrong)

end Rows
end Go.Proofs.Qxb6602142a
