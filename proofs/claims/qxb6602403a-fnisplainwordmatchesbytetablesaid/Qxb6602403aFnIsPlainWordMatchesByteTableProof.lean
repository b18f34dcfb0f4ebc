/-
  THE PROOF OF 'Rows.FnIsPlainWordMatchesByteTableSaid', in the kit's shell for this law; the walk's end is told by 'Below'.
-/
import Derived.Test.Qxb6602403aWord
import Derived.Test.Qxb6602403aClosed
import Derived.WalkKit
import Derived.ProofKit
import Derived.OpenShut
import Derived.ShutString
namespace Go.Proofs.Qxb6602403a.fnIsPlainWordMatchesByteTable
open Go.ChangeShapes Go.WideShapes Go.ChangeAt Go.RowKit
open Go.ChangeMaps (open_string shut_string)
set_option linter.unusedVariables false      -- a walk need not use every 'w<i>' (that an integer argument fits its kind)

theorem own : ownKnob Try.prog.godebug = none := by kernel_rfl

theorem all_take (s : ByteArray) (k : Nat) (h : k < s.size) (hp : plainB s[k] = false) : allPlain s.data.toList = false := by
  have : s[k] ∈ s.data.toList := byte_mem s k h
  rw [← Bool.not_eq_true]
  intro ha
  have := List.all_eq_true.1 ha _ this
  rw [hp] at this
  exact absurd this (by decide)

theorem all_of (s : ByteArray) (h : ∀ (i : Nat) (hi : i < s.size), plainB s[i] = true) : allPlain s.data.toList = true := by
  refine List.all_eq_true.2 fun x hx => ?_
  rw [Array.mem_toList_iff, Array.mem_iff_getElem] at hx
  obtain ⟨i, hi, rfl⟩ := hx
  exact h i hi

/-! ### STEP 1: THE WALK: the Go text returns true; of what was there nothing turns. -/
set_option maxHeartbeats 1000000 in
theorem walk (a0 : ByteArray) (w0 : a0.size ≤ maxLen) (w : World) :
    Calls Try.prog 6 #[.string a0] w fun e w' => e = .returned (.bool true) ∧ Below w.heap.size w w' := by
  have z := zz18 a0 w w0
  unfold maxLen at w0
  go_enter Try.func6, Try.ntmps6
  go_wp2_with fail
  refine z.mono ?_
  rintro e w' ⟨⟨r, rfl⟩, rfl⟩
  clear z
  cases r
  · go_wp2_with fail
    go_ret
    exact ⟨rfl, Below.refl _ _⟩
  · by_cases h0 : (a0.size : Int) ≤ 1048576
    · go_wp2_with fail
      go_loop [3, 4] (fun o i => ∃ k : Nat, k ≤ a0.size ∧ i = .int .i64 k ∧ o = .bool true ∧ Hid (∀ (j : Nat) (h : j < a0.size), j < k → plainB a0[j] = true)) (fun _ i => a0.size - (intOf i).toNat)
      case atStart => exact ⟨0, Nat.zero_le _, rfl, rfl, fun _ _ h => absurd h (Nat.not_lt_zero _)⟩
      case round =>
        obtain ⟨k, hk, rfl, rfl, HA⟩ := hrel
        by_cases hlt : k < a0.size
        · have c19 := pb19 (a0[k])
          cases hpb : plainB a0[k]
          · rw [hpb] at c19
            have c20 := ipw20 a0
            rw [all_take a0 k hlt hpb] at c20
            clear hpb
            go_wp2_with (first | (go_at_call 19; refine (c19 _).mono ?_; rintro e w' ⟨rfl, hw⟩; subst hw) | (go_at_call 20; refine (c20 _).mono ?_; rintro e W2 ⟨rfl, hbc⟩))
            go_ret
            exact ⟨rfl, hbc⟩
          · rw [hpb] at c19
            have HN : Hid (∀ (j : Nat) (h : j < a0.size), j < k + 1 → plainB a0[j] = true) := by
              intro j h hj
              by_cases e : j = k
              · subst e; exact hpb
              · exact HA.out j h (by omega)
            clear hpb HA
            go_wp2_with (go_at_call 19; refine (c19 _).mono ?_; rintro e w' ⟨rfl, hw⟩; subst hw)
            go_round
            case rel => exact ⟨k + 1, by omega, by go_num, rfl, HN⟩
            case measure => simp [intOf]; omega
        · have c20 := ipw20 a0
          rw [all_of a0 (fun i hi => HA.out i hi (by omega))] at c20
          clear HA
          go_wp2_with (go_at_call 20; refine (c20 _).mono ?_; rintro e W2 ⟨rfl, hbc⟩)
          go_ret
          exact ⟨rfl, hbc⟩
    · go_wp2_with fail
      go_ret
      exact ⟨rfl, Below.refl _ _⟩


/-! ### THE ROW's STEP: WRITTEN OUT: LEAVE IT -/
set_option maxRecDepth 100000 in
theorem lifted (os : Os) (started : os.Started) (H : Type) (enc : TypeId × Value → H) :
    ReturnsInHanded {} Try.checked os 6 .any (Rows.fnIsPlainWordMatchesByteTableSpec.pre6 enc Try.prog Try.f6 Rows.fnIsPlainWordMatchesByteTableRow.domain false) (Rows.fnIsPlainWordMatchesByteTableSpec.post enc Try.prog Try.f6 false true false false) := by
  refine returnsInHanded_of_change (C := Try.checked) own started (by kernel_rfl) Try.func6
    (ChangeSpec.witness6 (enc := enc) (C := Try.checked) false ⟨#[], #[.string ByteArray.empty], []⟩ 8 (by kernel_rfl) (by kernel_rfl) (by kernel_rfl) (by kernel_rfl)) ?_
  intro W base args ds gs before hval0 hW hcnd _
  have hval : ∀ (j : Nat) t v, Try.f6.params[j]? = some t → args[j]? = some v → Value.okWide Try.prog W .any base t v := hval0
  have hW' := hW
  obtain ⟨p, q, hA0, hV, rfl, hfz, hnd⟩ := hW
  have hA : DataW.TrodAll enc Try.prog W 0 (fun _ => true) true Try.f6.params.toList args.toList ds p := hA0
  rw [Try.params6] at hA hval
  obtain ⟨v0, vs0, d0, ds0, p0, q0, hargs, rfl, rfl, h0, r0⟩ := trodAll_cons hA
  obtain ⟨rfl, rfl, rfl⟩ := trodAll_nil r0
  obtain rfl : args = #[v0] := by cases args; simp_all
  obtain ⟨rfl, rfl⟩ := trodVars_none hV
  obtain ⟨a0, rfl, rfl, rfl, w0⟩ := open_string Try.underlying9 (hval 0 9 v0 rfl rfl) h0
  clear hA0 hval0
  simp only [List.append_nil] at hW'
  refine (walk a0 w0 W).mono fun e W' ⟨he, bel⟩ => ?_
  subst he
  exact ⟨_, rfl, _, _, _, [], _, [], hW', (trodAll_cons_mk (shut_bool Try.underlying4 _) trodAll_mk0), (trodAll_cons_mk (shut_string Try.underlying9 w0) trodAll_mk0), rfl, bel.frame _, fun h => by cases h⟩

theorem over : Rows.fnIsPlainWordMatchesByteTableRow.holds Try.pinned (OpenSpec.ofChange Rows.fnIsPlainWordMatchesByteTableSpec) :=
  OpenClaim.holds_of_wide 6 Try.f6 rfl rfl rfl rfl rfl rfl rfl ⟨rfl, rfl, rfl, rfl, rfl⟩ rfl rfl rfl rfl rfl (by kernel_rfl) Try.func6 closed6
    (of_decide_eq_true (by kernel_rfl)) (by unfold Func.isWrapper; first | (rw [if_pos (by decide +kernel)]; kernel_rfl) | (rw [if_neg (by decide +kernel)]; exact ⟨rfl, rfl⟩))
    (fun os started H enc _ => lifted os started H enc)

/-- ████ THE STATEMENT ████ -/
theorem proved : Rows.FnIsPlainWordMatchesByteTableSaid :=
  over
#print axioms proved
end Go.Proofs.Qxb6602403a.fnIsPlainWordMatchesByteTable
