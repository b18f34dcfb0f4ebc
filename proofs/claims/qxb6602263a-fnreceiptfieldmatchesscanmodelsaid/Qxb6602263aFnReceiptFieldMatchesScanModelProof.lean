/-
  THE PROOF OF 'Rows.FnReceiptFieldMatchesScanModelSaid', in the kit's shell for this law; the walk's end is told by 'Below'.
-/
import Derived.Test.Qxb6602263aScan
import Derived.Test.Qxb6602263aClosed
import Derived.HandedShaped
import Derived.WalkKit
import Derived.ProofKit
import Derived.OpenShut
import Derived.ShutString
namespace Go.Proofs.Qxb6602263a.fnReceiptFieldMatchesScanModel
open Go.ChangeShapes Go.WideShapes Go.ChangeAt Go.RowKit
open Go.ChangeMaps (open_string shut_string)
set_option linter.unusedVariables false      -- a walk need not use every 'w<i>' (that an integer argument fits its kind)

theorem own : ownKnob Try.prog.godebug = none := by kernel_rfl

/-! ### STEP 1: THE WALK: the Go text returns true; of what was there nothing turns. -/
theorem below_drewN (w : World) : ∀ n, Below w.heap.size w (w.drewN n)
  | 0 => Below.refl _ _
  | n + 1 => (below_drewN w n).drew

set_option maxHeartbeats 1000000 in
theorem walk (a0 : ByteArray) (a1 : ByteArray) (w0 : a0.size ≤ maxLen) (w1 : a1.size ≤ maxLen) (w : World) (hsh : w.ShapedOpen Try.prog) :
    Calls Try.prog 3 #[.string a0, .string a1] w fun e w' => e = .returned (.bool true) ∧ Below w.heap.size w w' := by
  have z := zz8 a0 a1 w w0 w1
  unfold maxLen at w0 w1
  by_cases h0 : (a0.size : Int) ≤ 65536
  · by_cases h1 : (a1.size : Int) ≤ 65536
    · have cR := rf9 a0 a1 w hsh (by omega) (by omega)
      have cS := fun W => sc10 a0 a1 W (by omega) (by omega)
      generalize Plain.rS a0.data.toList a1.data.toList = rs at cR cS
      generalize Plain.rE a0.data.toList a1.data.toList = re at cR cS
      generalize Plain.rB a0.data.toList a1.data.toList = rb at cR cS
      go_enter Try.func3, Try.ntmps3
      go_wp2_with fail
      refine z.mono ?_
      rintro e w' ⟨⟨r, rfl⟩, rfl⟩
      clear z
      cases r
      · go_wp2_with fail
        go_ret
        exact ⟨rfl, Below.refl _ _⟩
      · go_wp2_with (first | (go_at_call 9; refine cR.mono ?_; rintro e w' ⟨rfl, hw⟩; subst hw) | (go_at_call 10; refine (cS _).mono ?_; rintro e w' ⟨rfl, n, rfl⟩))
        go_ret
        exact ⟨rfl, below_drewN _ _⟩
    · go_enter Try.func3, Try.ntmps3
      go_wp2_with fail
      refine z.mono ?_
      rintro e w' ⟨⟨r, rfl⟩, rfl⟩
      clear z
      cases r
      all_goals
        go_wp2_with fail
        go_ret
        exact ⟨rfl, Below.refl _ _⟩
  · go_enter Try.func3, Try.ntmps3
    go_wp2_with fail
    refine z.mono ?_
    rintro e w' ⟨⟨r, rfl⟩, rfl⟩
    clear z
    cases r
    all_goals
      go_wp2_with fail
      go_ret
      exact ⟨rfl, Below.refl _ _⟩


/-! ### THE ROW's STEP: WRITTEN OUT: LEAVE IT -/
set_option maxRecDepth 100000 in
theorem lifted (os : Os) (started : os.Started) (H : Type) (enc : TypeId × Value → H) :
    ReturnsInHanded {} Try.checked os 3 .any (Rows.fnReceiptFieldMatchesScanModelSpec.pre6 enc Try.prog Try.f3 Rows.fnReceiptFieldMatchesScanModelRow.domain false) (Rows.fnReceiptFieldMatchesScanModelSpec.post enc Try.prog Try.f3 false true false false) := by
  refine returnsInHanded_of_change_shaped (C := Try.checked) own started (by kernel_rfl) Try.func3
    (ChangeSpec.witness6 (enc := enc) (C := Try.checked) false ⟨#[], #[.string ByteArray.empty, .string ByteArray.empty], []⟩ 8 (by kernel_rfl) (by kernel_rfl) (by kernel_rfl) (by kernel_rfl)) ?_
  intro W base args ds gs before hval0 hW hcnd _ hsh _
  have hval : ∀ (j : Nat) t v, Try.f3.params[j]? = some t → args[j]? = some v → Value.okWide Try.prog W .any base t v := hval0
  have hW' := hW
  obtain ⟨p, q, hA0, hV, rfl, hfz, hnd⟩ := hW
  have hA : DataW.TrodAll enc Try.prog W 0 (fun _ => true) true Try.f3.params.toList args.toList ds p := hA0
  rw [Try.params3] at hA hval
  obtain ⟨v0, vs0, d0, ds0, p0, q0, hargs, rfl, rfl, h0, r0⟩ := trodAll_cons hA
  obtain ⟨v1, vs1, d1, ds1, p1, q1, rfl, rfl, rfl, h1, r1⟩ := trodAll_cons r0
  obtain ⟨rfl, rfl, rfl⟩ := trodAll_nil r1
  obtain rfl : args = #[v0, v1] := by cases args; simp_all
  obtain ⟨rfl, rfl⟩ := trodVars_none hV
  obtain ⟨a0, rfl, rfl, rfl, w0⟩ := open_string Try.underlying9 (hval 0 9 v0 rfl rfl) h0
  obtain ⟨a1, rfl, rfl, rfl, w1⟩ := open_string Try.underlying9 (hval 1 9 v1 rfl rfl) h1
  clear hA0 hval0
  simp only [List.append_nil] at hW'
  refine (walk a0 a1 w0 w1 W hsh).mono fun e W' ⟨he, bel⟩ => ?_
  subst he
  exact ⟨_, rfl, _, _, _, [], _, [], hW', (trodAll_cons_mk (shut_bool Try.underlying4 _) trodAll_mk0), (trodAll_cons_mk (shut_string Try.underlying9 w0) (trodAll_cons_mk (shut_string Try.underlying9 w1) trodAll_mk0)), rfl, bel.frame _, fun h => by cases h⟩

theorem over : Rows.fnReceiptFieldMatchesScanModelRow.holds Try.pinned (OpenSpec.ofChange Rows.fnReceiptFieldMatchesScanModelSpec) :=
  OpenClaim.holds_of_wide 3 Try.f3 rfl rfl rfl rfl rfl rfl rfl ⟨rfl, rfl, rfl, rfl, rfl⟩ rfl rfl rfl rfl rfl (by kernel_rfl) Try.func3 closed3
    (of_decide_eq_true (by kernel_rfl)) (by unfold Func.isWrapper; first | (rw [if_pos (by decide +kernel)]; kernel_rfl) | (rw [if_neg (by decide +kernel)]; exact ⟨rfl, rfl⟩))
    (fun os started H enc _ => lifted os started H enc)

/-- ████ THE STATEMENT ████ -/
theorem proved : Rows.FnReceiptFieldMatchesScanModelSaid :=
  over
#print axioms proved
end Go.Proofs.Qxb6602263a.fnReceiptFieldMatchesScanModel
