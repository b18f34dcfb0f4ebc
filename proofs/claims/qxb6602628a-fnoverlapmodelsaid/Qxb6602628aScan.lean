/-
  THE WALK of scanValidFilter.
-/
import Derived.Test.Qxb6602628aFilter
namespace Go.Proofs.Qxb6602628a
open Go.RowKit

theorem byte_test (c : UInt8) (n : Nat) (hn : n < 256) (h : c ≠ n.toUInt8) : ((c.toNat : Int) == (n : Int)) = false := by
  simp only [beq_eq_false_iff_ne]
  intro he
  apply h
  rw [← UInt8.toNat_inj]
  simp
  omega

set_option maxHeartbeats 2000000 in
theorem sv7 (s : ByteArray) (w : World) (hs : s.size ≤ 1000000) :
    Calls Try.prog 7 #[.string s] w fun e w' => e = .returned (.bool (Plain.vf (Plain.toks s.data.toList))) ∧ w' = w := by
  have hl : s.data.toList.length = s.size := by simp
  have HL := Hid.mk' hl
  clear hl
  go_enter Try.func7, Try.ntmps7
  go_wp2_with fail
  go_loop [4, 5] (fun tv iv => ∃ t i : Nat, tv = .int .i64 t ∧ iv = .int .i64 i ∧ t ≤ 2000000 ∧ i ≤ s.size + 1 ∧ Hid ((i ≤ s.size ∧ Plain.Sc s.data.toList t i) ∨ (i = s.size + 1 ∧ Plain.vf (Plain.toks s.data.toList) = true))) (fun _ iv => s.size + 1 - (intOf iv).toNat)
  case atStart => exact ⟨0, 0, rfl, rfl, by omega, by omega, .inl ⟨Nat.zero_le _, Plain.Sc.start _⟩⟩
  case round =>
    obtain ⟨t, i, rfl, rfl, ht, hi, HA⟩ := hrel
    by_cases hin : i ≤ s.size
    · have HS : Hid (Plain.Sc s.data.toList t i) := by
        rcases HA.out with h | h
        · exact h.2
        · exfalso; omega
      clear HA
      have hti : t ≤ i := HS.out.le
      have hin' : (i : Int) ≤ s.size := by omega
      by_cases hend : i = s.size
      · have e1 : ((i : Int) == (s.size : Int)) = true := by simp [hend]
        have e2 : ¬ (i : Int) < s.size := by omega
        by_cases hemp : t = i
        · have HF : Hid (Plain.vf (Plain.toks s.data.toList) = false) := by
            refine Hid.mk' ?_
            subst hemp
            exact HS.out.end_empty (by rw [HL.out]; exact hend)
          have e3 : ((i : Int) == (t : Int)) = true := by simp [hemp]
          clear HS hend hemp
          go_wp2_with fail
          go_ret
          exact ⟨ret_bool HF.out.symm, rfl⟩
        · have HF : Hid (Plain.vf (Plain.toks s.data.toList) = true) := HS.out.end_full (by rw [HL.out]; exact hend) (by omega)
          have e3 : ((i : Int) == (t : Int)) = false := by simp only [beq_eq_false_iff_ne]; omega
          have hts : t < s.size := by omega
          have HE := Hid.mk' hend
          clear HS hend hemp
          go_wp2_with fail
          all_goals
            go_round
            case rel => exact ⟨i + 1, i + 1, by go_num, by go_num, by omega, by omega, .inr ⟨by have := HE.out; omega, HF.out⟩⟩
            case measure => simp [intOf]; omega
      · have hlt : i < s.size := by omega
        have hlt' : (i : Int) < s.size := by omega
        have e1 : ((i : Int) == (s.size : Int)) = false := by simp only [beq_eq_false_iff_ne]; omega
        have gi := get? s i hlt
        by_cases hc : s[i]'hlt = 46
        · rw [hc] at gi
          have t46 : (((s[i]'hlt).toNat : Int) == 46) = true := by rw [hc]; rfl
          by_cases hemp : t = i
          · have HF : Hid (Plain.vf (Plain.toks s.data.toList) = false) := by
              refine Hid.mk' ?_
              subst hemp
              exact HS.out.dot_empty gi
            have e3 : ((i : Int) == (t : Int)) = true := by simp [hemp]
            clear HS hend hemp gi hc
            go_wp2_with fail
            go_ret
            exact ⟨ret_bool HF.out.symm, rfl⟩
          · have e3 : ((i : Int) == (t : Int)) = false := by simp only [beq_eq_false_iff_ne]; omega
            have hts : t < s.size := by omega
            have gt := get? s t hts
            by_cases hgt : i = t + 1 ∧ s[t]'hts = 62
            · have HF : Hid (Plain.vf (Plain.toks s.data.toList) = false) := HS.out.dot_gt hgt.1 (by rw [gt, hgt.2]) gi
              have e4 : ((i : Int) - (t : Int) == 1) = true := by simp only [beq_iff_eq]; omega
              have e5 : (((s[t]'hts).toNat : Int) == 62) = true := by rw [hgt.2]; rfl
              clear HS hend hemp gi hc gt hgt
              go_wp2_with fail
              go_ret
              exact ⟨ret_bool HF.out.symm, rfl⟩
            · have HN : Hid (Plain.Sc s.data.toList (i + 1) (i + 1)) := HS.out.dot_next (by omega) gi (by rw [gt]; intro h; exact hgt ⟨h.1, Option.some.inj h.2⟩)
              have hor : ((i : Int) - (t : Int) == 1) = false ∨ (((i : Int) - (t : Int) == 1) = true ∧ (((s[t]'hts).toNat : Int) == 62) = false) := by
                by_cases h1 : i = t + 1
                · right
                  refine ⟨by simp only [beq_iff_eq]; omega, byte_test _ 62 (by omega) fun h => hgt ⟨h1, h⟩⟩
                · left
                  simp only [beq_eq_false_iff_ne]; omega
              clear HS hend hemp gi hc gt hgt
              rcases hor with e4 | ⟨e4, e5⟩
              all_goals
                go_wp2_with fail
                go_round
                case rel => exact ⟨i + 1, i + 1, by go_num, by go_num, by omega, by omega, .inl ⟨by omega, HN.out⟩⟩
                case measure => simp [intOf]; omega
        · have t46 : (((s[i]'hlt).toNat : Int) == 46) = false := byte_test _ 46 (by omega) hc
          rcases okB_tests (s[i]'hlt) with ⟨ho, t1, t2⟩ | ⟨ho, hbad⟩
          · have HN : Hid (Plain.Sc s.data.toList t (i + 1)) := HS.out.step gi hc ho
            clear HS hend gi hc ho
            go_wp2_with fail
            go_round
            case rel => exact ⟨t, i + 1, rfl, by go_num, by omega, by omega, .inl ⟨by omega, HN.out⟩⟩
            case measure => simp [intOf]; omega
          · have HF : Hid (Plain.vf (Plain.toks s.data.toList) = false) := HS.out.bad gi hc ho
            clear HS hend gi hc ho
            rcases hbad with t1 | ⟨t1, t2⟩
            all_goals
              go_wp2_with fail
              go_ret
              exact ⟨ret_bool HF.out.symm, rfl⟩
    · have HF : Hid (Plain.vf (Plain.toks s.data.toList) = true) := by
        rcases HA.out with h | h
        · exact absurd h.1 hin
        · exact h.2
      have hin' : ¬ (i : Int) ≤ s.size := by omega
      clear HA
      go_wp2_with fail
      go_ret
      exact ⟨ret_bool HF.out.symm, rfl⟩

end Go.Proofs.Qxb6602628a
