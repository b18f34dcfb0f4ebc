/-
  THE PROOF OF 'Rows.FnQuoteExactFormSaid', in the kit's shell for this law; the walk's end is told by 'Below'.
-/
import Derived.Test.Qxb6602142aQuote
import Derived.Test.Qxb6602142aDecode
import Derived.WalkKit
import Derived.ProofKit
import Derived.OpenShut
import Derived.ShutString
namespace Go.Proofs.Qxb6602142a.fnQuoteExactForm
open Go.ChangeShapes Go.WideShapes Go.ChangeAt Go.RowKit
open Go.ChangeMaps (open_string shut_string)
set_option linter.unusedVariables false      -- a walk need not use every 'w<i>' (that an integer argument fits its kind)

theorem own : ownKnob Try.prog.godebug = none := by kernel_rfl

theorem all_snoc (s : ByteArray) (k : Nat) (h : k < s.size) : Plain.allSafe (s.data.toList.take (k + 1)) = (Plain.allSafe (s.data.toList.take k) && Plain.safeB s[k]) := by
  have : s.data.toList.take (k + 1) = s.data.toList.take k ++ [s[k]] := by
    rw [List.take_succ_eq_append_getElem (by simpa using h)]; rfl
  rw [this]
  simp [Plain.allSafe]

theorem data_mk (l : List UInt8) : (ByteArray.mk l.toArray).data.toList = l := rfl

set_option maxHeartbeats 1000000 in
/-- From the call of Quote on, the text being not empty. -/
theorem walk_full (a0 : ByteArray) (h0 : a0.size ≤ 65536) (hne : a0.data.toList ≠ []) (w : World) :
    Calls Try.prog 3 #[.string a0] w fun e w' => e = .returned (.bool true) ∧ Below w.heap.size w w' := by
  have h0' : (a0.size : Int) ≤ 65536 := by omega
  have z := zz6 a0 w (by unfold maxLen; omega)
  have hem := notEmpty hne
  go_enter Try.func3, Try.ntmps3
  go_wp2_with fail
  refine z.mono ?_
  rintro e w' ⟨⟨r, rfl⟩, rfl⟩
  clear z
  cases r
  · go_wp2_with fail
    go_ret
    exact ⟨rfl, Below.refl _ _⟩
  · go_wp2_with fail
    refine (quote7 a0 _ h0).mono ?_
    rintro e W1 ⟨rfl, hb1⟩
    go_wp2_with fail
    go_loop [4, 5] (fun o i => ∃ k : Nat, k ≤ a0.size ∧ i = .int .i64 k ∧ o = .bool (Plain.allSafe (a0.data.toList.take k))) (fun _ i => a0.size - (intOf i).toNat)
    case atStart => exact ⟨0, Nat.zero_le _, rfl, rfl⟩
    case round =>
      obtain ⟨k, hk, rfl, rfl⟩ := hrel
      by_cases hlt : k < a0.size
      · have HA : Hid (Plain.allSafe (a0.data.toList.take (k + 1)) = (Plain.allSafe (a0.data.toList.take k) && Plain.safeB a0[k])) := all_snoc a0 k hlt
        have c8 := safe8 (a0[k])
        cases hsb : Plain.safeB a0[k]
        all_goals
          rw [hsb] at c8
          rw [hsb] at HA
          go_wp2_with (go_at_call 8; refine (c8 _).mono ?_; rintro e w' ⟨rfl, rfl⟩)
          go_round
          case rel => exact ⟨k + 1, by omega, by go_num, by rw [HA.out]; simp⟩
          case measure => simp [intOf]; omega
      · have hall : a0.data.toList.take k = a0.data.toList := List.take_of_length_le (by simp; exact Nat.le_of_not_lt hlt)
        rw [hall]
        clear hall
        cases ha : Plain.allSafe a0.data.toList
        · have hq : Plain.quote a0.data.toList = Plain.enc (Plain.rt a0.data.toList) := by
            rw [(Plain.enc_rt _).1]
            simp [Plain.quote, hne, ha]
          have hsz : (ByteArray.mk (Plain.quote a0.data.toList).toArray).size ≤ 1000000 := by
            have := Plain.quote_len a0.data.toList
            have h2 : a0.data.toList.length = a0.size := by simp
            rw [size_of (data_mk _)]
            omega
          have c9 := fun W => dec9 (Plain.rt a0.data.toList) ⟨(Plain.quote a0.data.toList).toArray⟩ W (by rw [data_mk]; exact hq) hsz (Plain.ok_rt _) (Plain.canon_rt _)
          rw [Plain.dec_rt] at c9
          clear hq hsz
          go_wp2_with (go_at_call 9; refine (c9 _).mono ?_; rintro e w' ⟨rfl, hb2⟩)
          go_ret
          exact ⟨rfl, hb1.trans (hb2.mono hb1.size)⟩
        · have hq : Plain.quote a0.data.toList = a0.data.toList := by simp [Plain.quote, hne, ha]
          go_wp2_with fail
          go_ret
          exact ⟨rfl, hb1⟩

/-! ### STEP 1: THE WALK: the Go text returns true; of what was there nothing turns. -/
set_option maxHeartbeats 1000000 in
theorem walk (a0 : ByteArray) (w0 : a0.size ≤ maxLen) (w : World) :
    Calls Try.prog 3 #[.string a0] w fun e w' => e = .returned (.bool true) ∧ Below w.heap.size w w' := by
  by_cases h0 : (a0.size : Int) ≤ 65536
  · by_cases hne : a0.data.toList = []
    · have hs0 : a0 = ⟨#[]⟩ := by
        obtain ⟨⟨l⟩⟩ := a0
        simp at hne
        subst hne
        rfl
      subst hs0
      have z := zz6 ⟨#[]⟩ w w0
      go_enter Try.func3, Try.ntmps3
      go_wp2_with fail
      refine z.mono ?_
      rintro e w' ⟨⟨r, rfl⟩, rfl⟩
      clear z
      cases r
      · go_wp2_with fail
        go_ret
        exact ⟨rfl, Below.refl _ _⟩
      · go_wp2_with fail
        refine (quote7_empty _).mono ?_
        rintro e W1 ⟨rfl, hb1⟩
        go_wp2_with fail
        go_ret
        exact ⟨rfl, hb1⟩
    · exact walk_full a0 (by omega) hne w
  · have z := zz6 a0 w w0
    unfold maxLen at w0
    go_enter Try.func3, Try.ntmps3
    go_wp2_with fail
    refine z.mono ?_
    rintro e w' ⟨⟨r, rfl⟩, rfl⟩
    clear z
    cases r
    all_goals
      go_wp2_with fail
      go_ret
      exact ⟨rfl, Below.refl _ _⟩


/-! ### THE ROW's STEP: WRITTEN OUT: LEAVE IT -/
set_option maxRecDepth 100000 in
theorem lifted (os : Os) (started : os.Started) (H : Type) (enc : TypeId × Value → H) :
    ReturnsInHanded {} Try.checked os 3 .any (Rows.fnQuoteExactFormSpec.pre6 enc Try.prog Try.f3 Rows.fnQuoteExactFormRow.domain false) (Rows.fnQuoteExactFormSpec.post enc Try.prog Try.f3 false true false false) := by
  refine returnsInHanded_of_change (C := Try.checked) own started (by kernel_rfl) Try.func3
    (ChangeSpec.witness6 (enc := enc) (C := Try.checked) false ⟨#[], #[.string ByteArray.empty], []⟩ 8 (by kernel_rfl) (by kernel_rfl) (by kernel_rfl) (by kernel_rfl)) ?_
  intro W base args ds gs before hval0 hW hcnd _
  have hval : ∀ (j : Nat) t v, Try.f3.params[j]? = some t → args[j]? = some v → Value.okWide Try.prog W .any base t v := hval0
  have hW' := hW
  obtain ⟨p, q, hA0, hV, rfl, hfz, hnd⟩ := hW
  have hA : DataW.TrodAll enc Try.prog W 0 (fun _ => true) true Try.f3.params.toList args.toList ds p := hA0
  rw [Try.params3] at hA hval
  obtain ⟨v0, vs0, d0, ds0, p0, q0, hargs, rfl, rfl, h0, r0⟩ := trodAll_cons hA
  obtain ⟨rfl, rfl, rfl⟩ := trodAll_nil r0
  obtain rfl : args = #[v0] := by cases args; simp_all
  obtain ⟨rfl, rfl⟩ := trodVars_none hV
  obtain ⟨a0, rfl, rfl, rfl, w0⟩ := open_string Try.underlying9 (hval 0 9 v0 rfl rfl) h0
  clear hA0 hval0
  simp only [List.append_nil] at hW'
  refine (walk a0 w0 W).mono fun e W' ⟨he, bel⟩ => ?_
  subst he
  exact ⟨_, rfl, _, _, _, [], _, [], hW', (trodAll_cons_mk (shut_bool Try.underlying4 _) trodAll_mk0), (trodAll_cons_mk (shut_string Try.underlying9 w0) trodAll_mk0), rfl, bel.frame _, fun h => by cases h⟩

theorem over : Rows.fnQuoteExactFormRow.holds Try.pinned (OpenSpec.ofChange Rows.fnQuoteExactFormSpec) :=
  OpenClaim.holds_of_wide 3 Try.f3 rfl rfl rfl rfl rfl rfl rfl ⟨rfl, rfl, rfl, rfl, rfl⟩ rfl rfl rfl rfl rfl (by kernel_rfl) Try.func3 (by kernel_rfl)
    (of_decide_eq_true (by kernel_rfl)) (by unfold Func.isWrapper; first | (rw [if_pos (by decide +kernel)]; kernel_rfl) | (rw [if_neg (by decide +kernel)]; exact ⟨rfl, rfl⟩))
    (fun os started H enc _ => lifted os started H enc)

/-- ████ THE STATEMENT ████ -/
theorem proved : Rows.FnQuoteExactFormSaid :=
  over
#print axioms proved
end Go.Proofs.Qxb6602142a.fnQuoteExactForm
