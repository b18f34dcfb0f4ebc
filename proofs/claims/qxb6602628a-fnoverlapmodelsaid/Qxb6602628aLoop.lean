/-
  THE WALK of Overlap.
-/
import Derived.Test.Qxb6602628aFilter
import Derived.Test.Qxb6602628aOver
namespace Go.Proofs.Qxb6602628a
open Go.RowKit

/-- The tests on two tokens, as the walk meets them. -/
theorem meet_cases (a b : List UInt8) : (Plain.meet a b = true ∧ ((a == b) = true ∨ ((a == b) = false ∧ (a == [42]) = true) ∨ ((a == b) = false ∧ (a == [42]) = false ∧ (b == [42]) = true))) ∨ (Plain.meet a b = false ∧ (a == b) = false ∧ (a == [42]) = false ∧ (b == [42]) = false) := by
  unfold Plain.meet
  cases (a == b) <;> cases (a == [42]) <;> cases (b == [42]) <;> simp

set_option maxHeartbeats 4000000 in
theorem ov9 (sa sb : ByteArray) (m : Int) (w : World) (hm : w.cell? ⟨0, 0, none⟩ = some (.int .i64 m)) (ha : sa.size ≤ 1000000) (hb : sb.size ≤ 1000000) (va : Plain.vf (Plain.toks sa.data.toList) = true) (vb : Plain.vf (Plain.toks sb.data.toList) = true) :
    Calls Try.prog 9 #[.string sa, .string sb] w fun e w' => e = .returned (.bool (Plain.ovl (Plain.toks sa.data.toList) (Plain.toks sb.data.toList))) ∧ ∃ n, w' = w.drewN n := by
  have cA := fun n => vf6 sa m (w.drewN n) (by simpa using hm) ha
  have cB := fun n => vf6 sb m (w.drewN n) (by simpa using hm) hb
  rw [va] at cA
  rw [vb] at cB
  clear va vb
  go_enter Try.func9, Try.ntmps9
  go_wp2_with fail
  refine (cA 0).mono ?_
  rintro e w' ⟨rfl, n1, rfl⟩
  go_wp2_with fail
  refine (cB n1).mono ?_
  rintro e w' ⟨rfl, n2, rfl⟩
  clear cA cB
  go_wp2_with fail
  go_loopw [0, 1] (fun v u wr => ∃ (A B : ByteArray) (n : Nat), v = .string A ∧ u = .string B ∧ wr = w.drewN n ∧ A.size ≤ 1000000 ∧ B.size ≤ 1000000 ∧ Hid (Plain.ovl (Plain.toks A.data.toList) (Plain.toks B.data.toList) = Plain.ovl (Plain.toks sa.data.toList) (Plain.toks sb.data.toList))) (fun v _ _ => strLen v)
  case atStart => exact ⟨sa, sb, _, rfl, rfl, rfl, ha, hb, rfl⟩
  case round =>
    obtain ⟨A, B, n, rfl, rfl, rfl, hA, hB, HR⟩ := hrel
    obtain ⟨a1, b1, f1, k1, l1, l1', o1⟩ := Plain.cut_any A.data.toList
    obtain ⟨a2, b2, f2, k2, l2, l2', o2⟩ := Plain.cut_any B.data.toList
    have cA := fun n => Try.strings_Cut A ⟨#[46]⟩ m (w.drewN n) (by omega) (by simpa using hm)
    have cB := fun n => Try.strings_Cut B ⟨#[46]⟩ m (w.drewN n) (by omega) (by simpa using hm)
    rw [show (⟨#[46]⟩ : ByteArray).data.toList = [46] from rfl, k1] at cA
    rw [show (⟨#[46]⟩ : ByteArray).data.toList = [46] from rfl, k2] at cB
    clear k1 k2 hm
    have HS : Hid (Plain.ovl (Plain.toks sa.data.toList) (Plain.toks sb.data.toList) = if a1 == [62] || a2 == [62] then true else if !(Plain.meet a1 a2) then false else if !f1 || !f2 then f1 == f2 else Plain.ovl (Plain.toks b1) (Plain.toks b2)) := by
      refine Hid.mk' ?_
      rw [← HR.out]
      exact Plain.ovl_step _ _ _ _ _ _ _ _ (by rcases o1 with h | h; exact .inl h; exact .inr ⟨h.1, h.2.1⟩) (by rcases o2 with h | h; exact .inl h; exact .inr ⟨h.1, h.2.1⟩)
    clear HR
    have hlA : A.data.toList.length = A.size := by simp
    have hlB : B.data.toList.length = B.size := by simp
    rw [hlA] at l1 l1' o1
    rw [hlB] at l2 l2' o2
    clear hlA hlB
    have hsb1 : (ByteArray.mk b1.toArray).size = b1.length := size_of (data_mk b1)
    have hsb2 : (ByteArray.mk b2.toArray).size = b2.length := size_of (data_mk b2)
    have hb1 : (ByteArray.mk b1.toArray).size ≤ 1000000 := by omega
    have hb2 : (ByteArray.mk b2.toArray).size ≤ 1000000 := by omega
    have HB1 := Hid.mk' hsb1
    clear hsb1 hsb2
    have HO : Hid (f1 = true → b1.length < A.size) := by
      intro hf
      rcases o1 with h | h
      · rw [h.1] at hf; cases hf
      · exact h.2.2
    clear o1 o2 l1 l1' l2 l2' ha hb
    cases t1 : (a1 == [62])
    · cases t2 : (a2 == [62])
      · rw [t1, t2] at HS
        simp only [Bool.or_self, Bool.false_eq_true, if_false] at HS
        rcases meet_cases a1 a2 with ⟨hme, hor⟩ | ⟨hme, m1, m2, m3⟩
        · rw [hme] at HS
          simp only [Bool.not_true, Bool.false_eq_true, if_false] at HS
          clear hme
          rcases hor with m1 | ⟨m1, m2⟩ | ⟨m1, m2, m3⟩
          all_goals
            cases f1
            · cases f2
              all_goals
                go_wp2_with fail
                refine (cA _).mono ?_
                rintro e w' ⟨rfl, n3, rfl⟩
                go_wp2_with fail
                refine (cB _).mono ?_
                rintro e w' ⟨rfl, n4, rfl⟩
                go_wp2_with fail
                go_ret
                exact ⟨ret_bool HS.out.symm, _, rfl⟩
            · cases f2
              · go_wp2_with fail
                refine (cA _).mono ?_
                rintro e w' ⟨rfl, n3, rfl⟩
                go_wp2_with fail
                refine (cB _).mono ?_
                rintro e w' ⟨rfl, n4, rfl⟩
                go_wp2_with fail
                go_ret
                exact ⟨ret_bool HS.out.symm, _, rfl⟩
              · have HN : Hid (Plain.ovl (Plain.toks (ByteArray.mk b1.toArray).data.toList) (Plain.toks (ByteArray.mk b2.toArray).data.toList) = Plain.ovl (Plain.toks sa.data.toList) (Plain.toks sb.data.toList)) := by
                  refine Hid.mk' ?_
                  rw [HS.out, data_mk, data_mk]
                  rfl
                have HLT := Hid.mk' (HO.out rfl)
                clear HS HO
                go_wp2_with fail
                refine (cA _).mono ?_
                rintro e w' ⟨rfl, n3, rfl⟩
                go_wp2_with fail
                refine (cB _).mono ?_
                rintro e w' ⟨rfl, n4, rfl⟩
                go_wp2_with fail
                go_roundw
                case rel => exact ⟨⟨b1.toArray⟩, ⟨b2.toArray⟩, _, rfl, rfl, rfl, hb1, hb2, HN⟩
                case measure =>
                  show (ByteArray.mk b1.toArray).size < A.size
                  rw [HB1.out]
                  exact HLT.out
        · rw [hme] at HS
          simp only [Bool.not_false, if_true] at HS
          clear hme
          go_wp2_with fail
          refine (cA _).mono ?_
          rintro e w' ⟨rfl, n3, rfl⟩
          go_wp2_with fail
          refine (cB _).mono ?_
          rintro e w' ⟨rfl, n4, rfl⟩
          go_wp2_with fail
          go_ret
          exact ⟨ret_bool HS.out.symm, _, rfl⟩
      · rw [t1, t2] at HS
        simp only [Bool.or_true, if_true] at HS
        go_wp2_with fail
        refine (cA _).mono ?_
        rintro e w' ⟨rfl, n3, rfl⟩
        go_wp2_with fail
        refine (cB _).mono ?_
        rintro e w' ⟨rfl, n4, rfl⟩
        go_wp2_with fail
        go_ret
        exact ⟨ret_bool HS.out.symm, _, rfl⟩
    · rw [t1] at HS
      simp only [Bool.true_or, if_true] at HS
      go_wp2_with fail
      refine (cA _).mono ?_
      rintro e w' ⟨rfl, n3, rfl⟩
      go_wp2_with fail
      refine (cB _).mono ?_
      rintro e w' ⟨rfl, n4, rfl⟩
      go_wp2_with fail
      go_ret
      exact ⟨ret_bool HS.out.symm, _, rfl⟩

/-- Overlap, whatever the two texts. -/
theorem ov9_any (sa sb : ByteArray) (m : Int) (w : World) (hm : w.cell? ⟨0, 0, none⟩ = some (.int .i64 m)) (ha : sa.size ≤ 1000000) (hb : sb.size ≤ 1000000) :
    Calls Try.prog 9 #[.string sa, .string sb] w fun e w' => e = .returned (.bool (Plain.vf (Plain.toks sa.data.toList) && (Plain.vf (Plain.toks sb.data.toList) && Plain.ovl (Plain.toks sa.data.toList) (Plain.toks sb.data.toList)))) ∧ ∃ n, w' = w.drewN n := by
  have cA := fun n => vf6 sa m (w.drewN n) (by simpa using hm) ha
  have cB := fun n => vf6 sb m (w.drewN n) (by simpa using hm) hb
  cases va : Plain.vf (Plain.toks sa.data.toList)
  · rw [va] at cA
    go_enter Try.func9, Try.ntmps9
    go_wp2_with fail
    refine (cA 0).mono ?_
    rintro e w' ⟨rfl, n1, rfl⟩
    go_wp2_with fail
    go_ret
    exact ⟨rfl, _, rfl⟩
  · cases vb : Plain.vf (Plain.toks sb.data.toList)
    · rw [va] at cA
      rw [vb] at cB
      go_enter Try.func9, Try.ntmps9
      go_wp2_with fail
      refine (cA 0).mono ?_
      rintro e w' ⟨rfl, n1, rfl⟩
      go_wp2_with fail
      refine (cB n1).mono ?_
      rintro e w' ⟨rfl, n2, rfl⟩
      go_wp2_with fail
      go_ret
      exact ⟨rfl, _, rfl⟩
    · exact ov9 sa sb m w hm ha hb va vb

end Go.Proofs.Qxb6602628a
