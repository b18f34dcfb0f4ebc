/-
  THE PROOF OF 'Rows.FnReceiptFieldReadsLeadingFieldSaid', in the kit's shell for this law; the walk's end is told by 'Below'.
-/
import Derived.Test.Qxb6602263aField
import Derived.Test.Qxb6602263aClosed
import Derived.HandedShaped
import Derived.WalkKit
import Derived.ProofKit
import Derived.OpenShut
import Derived.ShutString
namespace Go.Proofs.Qxb6602263a.fnReceiptFieldReadsLeadingField
open Go.ChangeShapes Go.WideShapes Go.ChangeAt Go.RowKit
open Go.ChangeMaps (open_string shut_string)
set_option linter.unusedVariables false      -- a walk need not use every 'w<i>' (that an integer argument fits its kind)

theorem own : ownKnob Try.prog.godebug = none := by kernel_rfl

theorem ret_bool {a b : Bool} (h : a = b) : Ending.returned (.bool a) = .returned (.bool b) := by rw [h]

theorem text_data (a b c : ByteArray) : (a ++ (⟨#[58]⟩ : ByteArray) ++ b ++ c).data.toList = a.data.toList ++ [58] ++ b.data.toList ++ c.data.toList := by simp

theorem rest_form (c : ByteArray) (h : c.size = 0 ∨ ∃ h0 : 0 < c.size, c[0]'h0 = 32) : c.data.toList = [] ∨ ∃ r, c.data.toList = 32 :: r := by
  rcases h with h | ⟨h0, h1⟩
  · left
    have : c.data.toList.length = 0 := by simpa using h
    exact List.eq_nil_of_length_eq_zero this
  · right
    have := get? c 0 h0
    rw [h1] at this
    cases hl : c.data.toList with
    | nil => rw [hl] at this; simp at this
    | cons x r => rw [hl] at this; simp at this; exact ⟨r, by rw [this]⟩

set_option maxHeartbeats 2000000 in
/-- From the text's making on. -/
theorem walk_main (a0 a1 a2 : ByteArray) (w : World) (hsh : w.ShapedOpen Try.prog) (h0 : (a0.size : Int) ≤ 65536) (h1 : (a1.size : Int) ≤ 65536) (h2 : (a2.size : Int) ≤ 65536)
    (hc : a2.size = 0 ∨ ∃ h0 : 0 < a2.size, a2[0]'h0 = 32) :
    Calls Try.prog 4 #[.string a0, .string a1, .string a2] w fun e w' => e = .returned (.bool true) ∧ Below w.heap.size w w' := by
  have z := zz11 a0 a1 a2 w (by unfold maxLen; omega) (by unfold maxLen; omega) (by unfold maxLen; omega)
  have c12 := hs12 a1 w (by unfold maxLen; omega)
  have HR := Hid.mk' (rest_form a2 hc)
  have hd := text_data a0 a1 a2
  have hTs : (a0 ++ (⟨#[58]⟩ : ByteArray) ++ a1 ++ a2).size = a0.size + 1 + a1.size + a2.size := by
    rw [size_of hd]; simp; omega
  have cR := rf9 (a0 ++ (⟨#[58]⟩ : ByteArray) ++ a1 ++ a2) a0 w hsh (by omega) (by omega)
  rw [hd] at cR
  have HD := Hid.mk' hd
  have HT := Hid.mk' hTs
  have hl0 : a0.data.toList.length = a0.size := by simp
  have hl1 : a1.data.toList.length = a1.size := by simp
  have HL0 := Hid.mk' hl0
  have HL1 := Hid.mk' hl1
  have t2 : (0 < (a2.size : Int)) ∨ ¬ (0 < (a2.size : Int)) := by omega
  have hc32 : ∀ h0 : 0 < a2.size, (((a2[0]'h0).toNat : Int) != 32) = false := by
    intro h0
    rcases hc with h | ⟨h0', h1⟩
    · omega
    · rw [h1]; rfl
  clear hd hTs hl0 hl1 hc
  go_enter Try.func4, Try.ntmps4
  go_wp2_with fail
  refine z.mono ?_
  rintro e w' ⟨⟨r, rfl⟩, rfl⟩
  clear z
  cases r
  · go_wp2_with fail
    go_ret
    exact ⟨rfl, Below.refl _ _⟩
  · go_wp2_with fail
    refine c12.mono ?_
    rintro e w' ⟨he, rfl⟩
    clear c12
    rcases he with rfl | ⟨rfl, hV⟩
    · go_wp2_with fail
      go_ret
      exact ⟨rfl, Below.refl _ _⟩
    · obtain ⟨r1, r2, r3⟩ := Plain.lead a0.data.toList a1.data.toList a2.data.toList hV HR.out
      rw [r1, r2, r3, HL0.out, HL1.out, isText_eq] at cR
      have hlen : (a0.data.toList ++ [58] ++ a1.data.toList ++ a2.data.toList).length = (a0 ++ (⟨#[58]⟩ : ByteArray) ++ a1 ++ a2).size := (size_of HD.out).symm
      rw [hlen] at cR
      clear hlen r1 r2 r3 hV HR HL0 HL1 HD HT
      cases htx : (a0.toList == [84, 101, 120, 116])
      all_goals
        rw [htx] at cR
        simp only [if_true, Bool.false_eq_true, if_false] at cR
        rcases t2 with t2 | t2
        all_goals
          try have t2' := hc32 (by omega)
          clear hc32
          go_wp2_with (go_at_call 9; refine cR.mono ?_; rintro e w' ⟨rfl, hw⟩; subst hw)
          go_ret
          exact ⟨rfl, Below.refl _ _⟩

/-! ### STEP 1: THE WALK: the Go text returns true; of what was there nothing turns. -/
set_option maxHeartbeats 1000000 in
theorem walk (a0 : ByteArray) (a1 : ByteArray) (a2 : ByteArray) (w0 : a0.size ≤ maxLen) (w1 : a1.size ≤ maxLen) (w2 : a2.size ≤ maxLen) (w : World) (hsh : w.ShapedOpen Try.prog) :
    Calls Try.prog 4 #[.string a0, .string a1, .string a2] w fun e w' => e = .returned (.bool true) ∧ Below w.heap.size w w' := by
  by_cases hbig : (a0.size : Int) ≤ 65536 ∧ (a1.size : Int) ≤ 65536 ∧ (a2.size : Int) ≤ 65536
  · obtain ⟨h0, h1, h2⟩ := hbig
    by_cases hc : a2.size = 0 ∨ ∃ h0 : 0 < a2.size, a2[0]'h0 = 32
    · exact walk_main a0 a1 a2 w hsh h0 h1 h2 hc
    · have hp : 0 < a2.size := by
        rcases Nat.eq_zero_or_pos a2.size with h | h
        · exact absurd (.inl h) hc
        · exact h
      have hp' : (0 : Int) < a2.size := by omega
      have t2 : (((a2[0]'hp).toNat : Int) != 32) = true := by
        simp only [bne_iff_ne]
        intro h
        refine hc (.inr ⟨hp, ?_⟩)
        rw [← UInt8.toNat_inj]
        simp
        omega
      have z := zz11 a0 a1 a2 w w0 w1 w2
      have c12 := hs12 a1 w w1
      clear hc
      go_enter Try.func4, Try.ntmps4
      go_wp2_with fail
      refine z.mono ?_
      rintro e w' ⟨⟨r, rfl⟩, rfl⟩
      clear z
      cases r
      · go_wp2_with fail
        go_ret
        exact ⟨rfl, Below.refl _ _⟩
      · go_wp2_with fail
        refine c12.mono ?_
        rintro e w' ⟨he, rfl⟩
        clear c12
        rcases he with rfl | ⟨rfl, hV⟩
        · go_wp2_with fail
          go_ret
          exact ⟨rfl, Below.refl _ _⟩
        · clear hV
          go_wp2_with fail
          go_ret
          exact ⟨rfl, Below.refl _ _⟩
  · have hb : (65536 < (a0.size : Int)) ∨ ((a0.size : Int) ≤ 65536 ∧ 65536 < (a1.size : Int)) ∨ ((a0.size : Int) ≤ 65536 ∧ (a1.size : Int) ≤ 65536 ∧ 65536 < (a2.size : Int)) := by omega
    have z := zz11 a0 a1 a2 w w0 w1 w2
    clear hbig
    unfold maxLen at w0 w1 w2
    rcases hb with h0 | ⟨h0, h1⟩ | ⟨h0, h1, h2⟩
    all_goals
      go_enter Try.func4, Try.ntmps4
      go_wp2_with fail
      refine z.mono ?_
      rintro e w' ⟨⟨r, rfl⟩, rfl⟩
      clear z
      cases r
      all_goals
        go_wp2_with fail
        go_ret
        exact ⟨rfl, Below.refl _ _⟩


/-! ### THE ROW's STEP: WRITTEN OUT: LEAVE IT -/
set_option maxRecDepth 100000 in
theorem lifted (os : Os) (started : os.Started) (H : Type) (enc : TypeId × Value → H) :
    ReturnsInHanded {} Try.checked os 4 .any (Rows.fnReceiptFieldReadsLeadingFieldSpec.pre6 enc Try.prog Try.f4 Rows.fnReceiptFieldReadsLeadingFieldRow.domain false) (Rows.fnReceiptFieldReadsLeadingFieldSpec.post enc Try.prog Try.f4 false true false false) := by
  refine returnsInHanded_of_change_shaped (C := Try.checked) own started (by kernel_rfl) Try.func4
    (ChangeSpec.witness6 (enc := enc) (C := Try.checked) false ⟨#[], #[.string ByteArray.empty, .string ByteArray.empty, .string ByteArray.empty], []⟩ 8 (by kernel_rfl) (by kernel_rfl) (by kernel_rfl) (by kernel_rfl)) ?_
  intro W base args ds gs before hval0 hW hcnd _ hsh _
  have hval : ∀ (j : Nat) t v, Try.f4.params[j]? = some t → args[j]? = some v → Value.okWide Try.prog W .any base t v := hval0
  have hW' := hW
  obtain ⟨p, q, hA0, hV, rfl, hfz, hnd⟩ := hW
  have hA : DataW.TrodAll enc Try.prog W 0 (fun _ => true) true Try.f4.params.toList args.toList ds p := hA0
  rw [Try.params4] at hA hval
  obtain ⟨v0, vs0, d0, ds0, p0, q0, hargs, rfl, rfl, h0, r0⟩ := trodAll_cons hA
  obtain ⟨v1, vs1, d1, ds1, p1, q1, rfl, rfl, rfl, h1, r1⟩ := trodAll_cons r0
  obtain ⟨v2, vs2, d2, ds2, p2, q2, rfl, rfl, rfl, h2, r2⟩ := trodAll_cons r1
  obtain ⟨rfl, rfl, rfl⟩ := trodAll_nil r2
  obtain rfl : args = #[v0, v1, v2] := by cases args; simp_all
  obtain ⟨rfl, rfl⟩ := trodVars_none hV
  obtain ⟨a0, rfl, rfl, rfl, w0⟩ := open_string Try.underlying9 (hval 0 9 v0 rfl rfl) h0
  obtain ⟨a1, rfl, rfl, rfl, w1⟩ := open_string Try.underlying9 (hval 1 9 v1 rfl rfl) h1
  obtain ⟨a2, rfl, rfl, rfl, w2⟩ := open_string Try.underlying9 (hval 2 9 v2 rfl rfl) h2
  clear hA0 hval0
  simp only [List.append_nil] at hW'
  refine (walk a0 a1 a2 w0 w1 w2 W hsh).mono fun e W' ⟨he, bel⟩ => ?_
  subst he
  exact ⟨_, rfl, _, _, _, [], _, [], hW', (trodAll_cons_mk (shut_bool Try.underlying4 _) trodAll_mk0), (trodAll_cons_mk (shut_string Try.underlying9 w0) (trodAll_cons_mk (shut_string Try.underlying9 w1) (trodAll_cons_mk (shut_string Try.underlying9 w2) trodAll_mk0))), rfl, bel.frame _, fun h => by cases h⟩

theorem over : Rows.fnReceiptFieldReadsLeadingFieldRow.holds Try.pinned (OpenSpec.ofChange Rows.fnReceiptFieldReadsLeadingFieldSpec) :=
  OpenClaim.holds_of_wide 4 Try.f4 rfl rfl rfl rfl rfl rfl rfl ⟨rfl, rfl, rfl, rfl, rfl⟩ rfl rfl rfl rfl rfl (by kernel_rfl) Try.func4 closed4
    (of_decide_eq_true (by kernel_rfl)) (by unfold Func.isWrapper; first | (rw [if_pos (by decide +kernel)]; kernel_rfl) | (rw [if_neg (by decide +kernel)]; exact ⟨rfl, rfl⟩))
    (fun os started H enc _ => lifted os started H enc)

/-- ████ THE STATEMENT ████ -/
theorem proved : Rows.FnReceiptFieldReadsLeadingFieldSaid :=
  over
#print axioms proved
end Go.Proofs.Qxb6602263a.fnReceiptFieldReadsLeadingField
