/-
  THE WALKS of seat b6602628a: the bounds, validToken, ValidFilter, scanValidFilter.
-/
import Derived.Test.Qxb6602628aRows
import Derived.Test.Qxb6602628aPlain
import Derived.Test.Qxb6602628aShelf
import Derived.WalkKit
import Derived.WalkLawsBesides
import Derived.Lib.Strings
import Derived.Deep.Draws
namespace Go.Proofs.Qxb6602628a
open Go.RowKit

theorem zz5 (a : ByteArray) (w : World) (wa : a.size ≤ maxLen) :
    Calls Try.prog 5 #[.string a] w fun e w' => (∃ r, e = .returned (.bool r)) ∧ w' = w := by
  unfold maxLen at wa
  go_enter Try.func5, Try.ntmps5
  go_wp2
  all_goals
    go_ret
    exact ⟨⟨_, rfl⟩, rfl⟩

theorem zz8 (a b : ByteArray) (w : World) (wa : a.size ≤ maxLen) (wb : b.size ≤ maxLen) :
    Calls Try.prog 8 #[.string a, .string b] w fun e w' => (∃ r, e = .returned (.bool r)) ∧ w' = w := by
  unfold maxLen at wa wb
  go_enter Try.func8, Try.ntmps8
  go_wp2
  all_goals
    go_ret
    exact ⟨⟨_, rfl⟩, rfl⟩

theorem size_of {S : ByteArray} {l : List UInt8} (h : S.data.toList = l) : S.size = l.length := by
  rw [← h, Array.length_toList]; rfl

theorem get? (S : ByteArray) (k : Nat) (hk : k < S.size) : S.data.toList[k]? = some S[k] := by
  rw [List.getElem?_eq_getElem (by simpa using hk)]
  rfl

theorem data_mk (l : List UInt8) : (ByteArray.mk l.toArray).data.toList = l := rfl

theorem Hid.mk' {p : Prop} (h : p) : Hid p := h

theorem ret_bool {a b : Bool} (h : a = b) : Ending.returned (.bool a) = .returned (.bool b) := by rw [h]

theorem byte_mem (E : ByteArray) (i : Nat) (h : i < E.size) : E[i] ∈ E.data.toList := Array.mem_toList_iff.2 (Array.getElem_mem (xs := E.data) h)

theorem byte_of (s : ByteArray) (p : UInt8 → Prop) (h : ∀ (i : Nat) (hi : i < s.size), p s[i]) : ∀ x ∈ s.data.toList, p x := by
  intro x hx
  rw [Array.mem_toList_iff, Array.mem_iff_getElem] at hx
  obtain ⟨i, hi, rfl⟩ := hx
  exact h i hi

/-- The two tests on a byte. -/
theorem okB_tests (c : UInt8) : (Plain.okB c = true ∧ ¬ (c.toNat : Int) ≤ 32 ∧ ((c.toNat : Int) == 127) = false) ∨ (Plain.okB c = false ∧ ((c.toNat : Int) ≤ 32 ∨ (¬ (c.toNat : Int) ≤ 32 ∧ ((c.toNat : Int) == 127) = true))) := by
  by_cases h : c.toNat ≤ 32
  · right
    exact ⟨by simp [Plain.okB]; omega, .inl (by omega)⟩
  · by_cases h2 : c.toNat = 127
    · right
      exact ⟨by simp [Plain.okB, h2], .inr ⟨by omega, by simp only [beq_iff_eq]; omega⟩⟩
    · left
      refine ⟨?_, by omega, by simp only [beq_eq_false_iff_ne]; omega⟩
      simp [Plain.okB, h2]
      omega

theorem notEmpty {s : ByteArray} (h0 : s.data.toList ≠ []) : s.toList.isEmpty = false := by
  rw [Lib.toList_data]
  simpa using h0

set_option maxHeartbeats 1000000 in
theorem vt12 (s : ByteArray) (w : World) (hs : s.size ≤ maxLen) :
    Calls Try.prog 12 #[.string s] w fun e w' => e = .returned (.bool (Plain.vtok s.data.toList)) ∧ w' = w := by
  unfold maxLen at hs
  by_cases h0 : s.data.toList = []
  · have hs0 : s = ⟨#[]⟩ := by
      obtain ⟨⟨l⟩⟩ := s
      simp at h0
      subst h0
      rfl
    subst hs0
    go_enter Try.func12, Try.ntmps12
    go_wp2
    go_ret
    exact ⟨rfl, rfl⟩
  · have h1 := notEmpty h0
    have H0 := Hid.mk' h0
    clear h0
    go_enter Try.func12, Try.ntmps12
    go_wp2_with fail
    go_loop [9] (fun i => ∃ k : Nat, i = .int .i64 k ∧ k ≤ s.size ∧ Hid (∀ (j : Nat) (h : j < s.size), j < k → Plain.okB s[j] = true)) (fun i => s.size - (intOf i).toNat)
    case atStart => exact ⟨0, rfl, Nat.zero_le _, fun _ _ h => absurd h (Nat.not_lt_zero _)⟩
    case round =>
      obtain ⟨k, rfl, hk, HA⟩ := hrel
      by_cases hlt : k < s.size
      · rcases okB_tests (s[k]'hlt) with ⟨ho, t1, t2⟩ | ⟨ho, ht⟩
        · have HN : Hid (∀ (j : Nat) (h : j < s.size), j < k + 1 → Plain.okB s[j] = true) := by
            intro j h hj
            by_cases e : j = k
            · subst e; exact ho
            · exact HA.out j h (by omega)
          clear HA ho
          go_wp2_with fail
          go_round
          case rel => exact ⟨k + 1, by go_num, by omega, HN⟩
          case measure => simp [intOf]; omega
        · have HF : Hid (Plain.vtok s.data.toList = false) := by
            refine Hid.mk' ?_
            rw [← Bool.not_eq_true]
            intro h
            simp only [Plain.vtok, Bool.and_eq_true, List.all_eq_true] at h
            have := h.2 _ (byte_mem s k hlt)
            rw [ho] at this
            exact absurd this (by decide)
          clear HA ho
          rcases ht with t1 | ⟨t1, t2⟩
          all_goals
            go_wp2_with fail
            go_ret
            exact ⟨ret_bool HF.out.symm, rfl⟩
      · have HF : Hid (Plain.vtok s.data.toList = true) := by
          refine Hid.mk' ?_
          simp only [Plain.vtok, Bool.and_eq_true, List.all_eq_true]
          refine ⟨by simpa using H0.out, byte_of s _ fun i hi => HA.out i hi (by omega)⟩
        clear HA
        go_wp2_with fail
        go_ret
        exact ⟨ret_bool HF.out.symm, rfl⟩

/-- The bytes of the string in a slot, counted. -/
def strLen : Value → Nat | .string s => s.size | _ => 0

set_option maxHeartbeats 2000000 in
theorem vf6 (s : ByteArray) (m : Int) (w : World) (hm : w.cell? ⟨0, 0, none⟩ = some (.int .i64 m)) (hs : s.size ≤ 1000000) :
    Calls Try.prog 6 #[.string s] w fun e w' => e = .returned (.bool (Plain.vf (Plain.toks s.data.toList))) ∧ ∃ n, w' = w.drewN n := by
  go_enter Try.func6, Try.ntmps6
  go_wp2_with fail
  go_loopw [0] (fun v wr => ∃ (S : ByteArray) (n : Nat), v = .string S ∧ wr = w.drewN n ∧ S.size ≤ 1000000 ∧ Hid (Plain.vf (Plain.toks S.data.toList) = Plain.vf (Plain.toks s.data.toList))) (fun v _ => strLen v)
  case atStart => exact ⟨s, 0, rfl, rfl, hs, rfl⟩
  case round =>
    obtain ⟨S, n, rfl, rfl, hS, HA⟩ := hrel
    have cC := Try.strings_Cut S ⟨#[46]⟩ m (w.drewN n) (by omega) (by simpa using hm)
    rcases Plain.cut_cases S.data.toList with ⟨h1, h2⟩ | ⟨a, b, h0, h1, h2⟩
    · rw [show (⟨#[46]⟩ : ByteArray).data.toList = [46] from rfl, h2] at cC
      have cV := fun W => vt12 S W (by unfold maxLen; omega)
      have HR : Hid (Plain.vf (Plain.toks s.data.toList) = Plain.vtok S.data.toList) := by
        refine Hid.mk' ?_
        rw [← HA.out, h1, Plain.vf_one]
      clear h1 h2 HA hm
      cases hv : Plain.vtok S.data.toList
      all_goals
        rw [hv] at cV
        rw [hv] at HR
        go_wp2_with (first | (go_at_call 11; refine cC.mono ?_; rintro e w' ⟨rfl, n1, rfl⟩) | (go_at_call 12; refine (cV _).mono ?_; rintro e w' ⟨rfl, hw⟩; subst hw))
        all_goals
          go_ret
          exact ⟨ret_bool HR.out.symm, _, rfl⟩
    · rw [show (⟨#[46]⟩ : ByteArray).data.toList = [46] from rfl, h2] at cC
      have hab : a.length + b.length + 1 = S.size := by rw [size_of h0]; simp; omega
      have hsa : (ByteArray.mk a.toArray).size = a.length := size_of (data_mk a)
      have hsb : (ByteArray.mk b.toArray).size = b.length := size_of (data_mk b)
      have cV := fun W => vt12 ⟨a.toArray⟩ W (by unfold maxLen; omega)
      rw [data_mk a] at cV
      have HR : Hid (Plain.vf (Plain.toks s.data.toList) = (Plain.vtok a && (a != [62] && Plain.vf (Plain.toks b)))) := by
        refine Hid.mk' ?_
        rw [← HA.out, h1, Plain.vf_more]
      have hbS : b.length < S.size := by omega
      have hb1 : (ByteArray.mk b.toArray).size ≤ 1000000 := by omega
      have HB := Hid.mk' hsb
      clear h0 h1 h2 HA hm hab hsa hsb
      cases hv : Plain.vtok a
      · rw [hv] at cV
        rw [hv] at HR
        go_wp2_with (first | (go_at_call 11; refine cC.mono ?_; rintro e w' ⟨rfl, n1, rfl⟩) | (go_at_call 12; refine (cV _).mono ?_; rintro e w' ⟨rfl, hw⟩; subst hw))
        all_goals
          go_ret
          exact ⟨ret_bool HR.out.symm, _, rfl⟩
      · rw [hv] at cV
        rw [hv, Bool.true_and] at HR
        by_cases h62 : a = [62]
        · subst h62
          go_wp2_with (first | (go_at_call 11; refine cC.mono ?_; rintro e w' ⟨rfl, n1, rfl⟩) | (go_at_call 12; refine (cV _).mono ?_; rintro e w' ⟨rfl, hw⟩; subst hw))
          all_goals
            go_ret
            exact ⟨ret_bool (by rw [HR.out]; rfl), _, rfl⟩
        · have t62 : (a == [62]) = false := by simpa using h62
          have HR2 : Hid (Plain.vf (Plain.toks (ByteArray.mk b.toArray).data.toList) = Plain.vf (Plain.toks s.data.toList)) := by
            refine Hid.mk' ?_
            rw [HR.out, data_mk]
            simp [h62]
          clear HR
          go_wp2_with (first | (go_at_call 11; refine cC.mono ?_; rintro e w' ⟨rfl, n1, rfl⟩) | (go_at_call 12; refine (cV _).mono ?_; rintro e w' ⟨rfl, hw⟩; subst hw))
          all_goals
            go_roundw
            case rel => exact ⟨⟨b.toArray⟩, _, rfl, rfl, hb1, HR2⟩
            case measure =>
              show (ByteArray.mk b.toArray).size < S.size
              rw [HB.out]
              exact hbS

end Go.Proofs.Qxb6602628a
