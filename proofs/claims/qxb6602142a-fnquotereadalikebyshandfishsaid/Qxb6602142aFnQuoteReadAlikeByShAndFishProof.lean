/-
  THE PROOF OF 'Rows.FnQuoteReadAlikeByShAndFishSaid', in the kit's shell for this law; the walk's end is told by 'Below'.
-/
import Derived.Test.Qxb6602142aQuote
import Derived.Test.Qxb6602142aRead
import Derived.WalkKit
import Derived.ProofKit
import Derived.OpenShut
import Derived.ShutString
namespace Go.Proofs.Qxb6602142a.fnQuoteReadAlikeByShAndFish
open Go.ChangeShapes Go.WideShapes Go.ChangeAt Go.RowKit
open Go.ChangeMaps (open_string shut_string)
set_option linter.unusedVariables false      -- a walk need not use every 'w<i>' (that an integer argument fits its kind)

theorem own : ownKnob Try.prog.godebug = none := by kernel_rfl

theorem data_mk (l : List UInt8) : (ByteArray.mk l.toArray).data.toList = l := rfl

theorem quote_pos (l : List UInt8) : 0 < (Plain.quote l).length := by
  unfold Plain.quote
  split
  · simp
  next h =>
    split
    · exact List.length_pos_iff.2 h
    · cases l with
      | nil => exact absurd rfl h
      | cons c r => unfold Plain.qgo; split <;> simp

/-! ### STEP 1: THE WALK: the Go text returns true; of what was there nothing turns. -/
set_option maxHeartbeats 1000000 in
theorem walk (a0 : ByteArray) (w0 : a0.size ≤ maxLen) (w : World) :
    Calls Try.prog 4 #[.string a0] w fun e w' => e = .returned (.bool true) ∧ Below w.heap.size w w' := by
  have z := zz10 a0 w w0
  unfold maxLen at w0
  go_enter Try.func4, Try.ntmps4
  go_wp2_with fail
  refine z.mono ?_
  rintro e w' ⟨⟨r, rfl⟩, rfl⟩
  clear z
  cases r
  · go_wp2_with fail
    go_ret
    exact ⟨rfl, Below.refl _ _⟩
  · by_cases h0 : (a0.size : Int) ≤ 65536
    · go_wp2_with fail
      refine (quote7 a0 _ (by omega)).mono ?_
      rintro e W1 ⟨rfl, hb1⟩
      have hlen := Plain.quote_len a0.data.toList
      have h2 : a0.data.toList.length = a0.size := by simp
      have hsz : (ByteArray.mk (Plain.quote a0.data.toList).toArray).size ≤ 1000000 := by
        rw [size_of (data_mk _)]
        omega
      have hsz0 : 0 < (ByteArray.mk (Plain.quote a0.data.toList).toArray).size := by
        rw [size_of (data_mk _)]
        exact quote_pos _
      have c11 := fun f W => rd11 f (Plain.toks a0.data.toList) ⟨(Plain.quote a0.data.toList).toArray⟩ W (by rw [data_mk]; exact (Plain.enc_toks _).symm) hsz hsz0 (Plain.ok_toks _)
      rw [Plain.dec_toks] at c11
      clear hlen h2 hsz hsz0
      go_wp2_with fail
      refine (c11 false _).mono ?_
      rintro e W2 ⟨rfl, hb2⟩
      go_wp2_with fail
      refine (c11 true _).mono ?_
      rintro e W3 ⟨rfl, hb3⟩
      have hb12 := hb1.trans (hb2.mono hb1.size)
      have hb13 := hb12.trans (hb3.mono hb12.size)
      go_wp2_with fail
      go_ret
      exact ⟨rfl, hb13⟩
    · go_wp2_with fail
      go_ret
      exact ⟨rfl, Below.refl _ _⟩


/-! ### THE ROW's STEP: WRITTEN OUT: LEAVE IT -/
set_option maxRecDepth 100000 in
theorem lifted (os : Os) (started : os.Started) (H : Type) (enc : TypeId × Value → H) :
    ReturnsInHanded {} Try.checked os 4 .any (Rows.fnQuoteReadAlikeByShAndFishSpec.pre6 enc Try.prog Try.f4 Rows.fnQuoteReadAlikeByShAndFishRow.domain false) (Rows.fnQuoteReadAlikeByShAndFishSpec.post enc Try.prog Try.f4 false true false false) := by
  refine returnsInHanded_of_change (C := Try.checked) own started (by kernel_rfl) Try.func4
    (ChangeSpec.witness6 (enc := enc) (C := Try.checked) false ⟨#[], #[.string ByteArray.empty], []⟩ 8 (by kernel_rfl) (by kernel_rfl) (by kernel_rfl) (by kernel_rfl)) ?_
  intro W base args ds gs before hval0 hW hcnd _
  have hval : ∀ (j : Nat) t v, Try.f4.params[j]? = some t → args[j]? = some v → Value.okWide Try.prog W .any base t v := hval0
  have hW' := hW
  obtain ⟨p, q, hA0, hV, rfl, hfz, hnd⟩ := hW
  have hA : DataW.TrodAll enc Try.prog W 0 (fun _ => true) true Try.f4.params.toList args.toList ds p := hA0
  rw [Try.params4] at hA hval
  obtain ⟨v0, vs0, d0, ds0, p0, q0, hargs, rfl, rfl, h0, r0⟩ := trodAll_cons hA
  obtain ⟨rfl, rfl, rfl⟩ := trodAll_nil r0
  obtain rfl : args = #[v0] := by cases args; simp_all
  obtain ⟨rfl, rfl⟩ := trodVars_none hV
  obtain ⟨a0, rfl, rfl, rfl, w0⟩ := open_string Try.underlying9 (hval 0 9 v0 rfl rfl) h0
  clear hA0 hval0
  simp only [List.append_nil] at hW'
  refine (walk a0 w0 W).mono fun e W' ⟨he, bel⟩ => ?_
  subst he
  exact ⟨_, rfl, _, _, _, [], _, [], hW', (trodAll_cons_mk (shut_bool Try.underlying4 _) trodAll_mk0), (trodAll_cons_mk (shut_string Try.underlying9 w0) trodAll_mk0), rfl, bel.frame _, fun h => by cases h⟩

theorem over : Rows.fnQuoteReadAlikeByShAndFishRow.holds Try.pinned (OpenSpec.ofChange Rows.fnQuoteReadAlikeByShAndFishSpec) :=
  OpenClaim.holds_of_wide 4 Try.f4 rfl rfl rfl rfl rfl rfl rfl ⟨rfl, rfl, rfl, rfl, rfl⟩ rfl rfl rfl rfl rfl (by kernel_rfl) Try.func4 (by kernel_rfl)
    (of_decide_eq_true (by kernel_rfl)) (by unfold Func.isWrapper; first | (rw [if_pos (by decide +kernel)]; kernel_rfl) | (rw [if_neg (by decide +kernel)]; exact ⟨rfl, rfl⟩))
    (fun os started H enc _ => lifted os started H enc)

/-- ████ THE STATEMENT ████ -/
theorem proved : Rows.FnQuoteReadAlikeByShAndFishSaid :=
  over
#print axioms proved
end Go.Proofs.Qxb6602142a.fnQuoteReadAlikeByShAndFish
