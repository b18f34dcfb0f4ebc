/-
  What strings.ContainsFunc(s, needsQuote) answers: is there a byte that is not safe?
-/
import Derived.Test.Qxb6602142aRune
import Derived.Shelf.Strings.FuncGrows
namespace Go.Proofs.Qxb6602142a
open Go.RowKit

theorem ib_mem (l : List UInt8) (c : UInt8) : (0 ≤ Lib.indexByte l c) ↔ c ∈ l := by
  induction l with
  | nil => simp [Lib.indexByte]
  | cons b r ih =>
    have hge := Lib.indexByte_ge r c
    unfold Lib.indexByte
    by_cases hb : b = c
    · simp [hb]
    · have hb' : ¬ c = b := fun h => hb h.symm
      simp only [beq_iff_eq, hb, if_false, List.mem_cons, hb', false_or]
      rw [← ih]
      split <;> omega

theorem needs_low (c : UInt8) (h : c.toNat < 128) : needs c.toNat = !(Plain.safeB c) := by
  have hm : decide (0 ≤ Lib.indexByte punct.data.toList c) = (c.toNat == 64 || c.toNat == 43 || c.toNat == 58 || c.toNat == 44 || c.toNat == 46 || c.toNat == 47 || c.toNat == 95 || c.toNat == 45) := by
    rw [Bool.eq_iff_iff]
    simp only [decide_eq_true_eq, ib_mem, punct, Bool.or_eq_true, beq_iff_eq]
    simp [← UInt8.toNat_inj]
    omega
  have hi : inB punct.data.toList c.toNat = (c.toNat == 64 || c.toNat == 43 || c.toNat == 58 || c.toNat == 44 || c.toNat == 46 || c.toNat == 47 || c.toNat == 95 || c.toNat == 45) := by
    rw [← hm]
    simp [inB, h]
  rw [needs, hi]
  simp [alnumN, Plain.safeB, Bool.or_assoc]

theorem needs_high (r : Nat) (h : 128 ≤ r) : needs r = true := by
  rw [needs_p r (by omega)]
  have : ¬ r < 128 := by omega
  simp [inB, this]

/-- From place pos on: every byte is safe. -/
theorem idx_from (s : ByteArray) : ∀ (f pos : Nat), s.size ≤ pos + f →
    (decide (0 ≤ Lib.idxFuncFrom needs true s f pos)) = !((s.data.toList.drop pos).all Plain.safeB) := by
  intro f
  induction f with
  | zero =>
    intro pos hp
    have : s.data.toList.drop pos = [] := List.drop_eq_nil_iff.2 (by simp; exact hp)
    simp [Lib.idxFuncFrom, this]
  | succ f ih =>
    intro pos hp
    unfold Lib.idxFuncFrom
    by_cases hlt : pos < s.size
    · have hd : s.data.toList.drop pos = s[pos] :: s.data.toList.drop (pos + 1) := by
        rw [List.drop_eq_getElem_cons (by simpa using hlt)]; rfl
      simp only [hlt, if_true]
      by_cases ha : (s[pos]).toNat < 128
      · rw [decode_ascii s pos hlt ha, hd, List.all_cons]
        have hn := needs_low s[pos] ha
        simp only [hn]
        cases hsb : Plain.safeB s[pos]
        · simp
        · simp only [Bool.not_true, Bool.false_eq_true, if_false, Bool.true_and]
          exact ih (pos + 1) (by omega)
      · have hh := decode_high s pos hlt (by omega)
        have hn := needs_high _ hh.1
        simp only [hn, if_true]
        rw [hd, List.all_cons]
        have hsf : Plain.safeB s[pos] = false := Plain.safe_f _ (by omega)
        simp [hsf]
    · have : s.data.toList.drop pos = [] := List.drop_eq_nil_iff.2 (by simp; omega)
      simp [hlt, this]

theorem idx_all (s : ByteArray) : decide (0 ≤ Lib.idxFunc needs true s) = !(Plain.allSafe s.data.toList) := by
  have := idx_from s s.size 0 (by omega)
  rw [List.drop_zero] at this
  exact this

/-- What the family asks of needsQuote. -/
theorem nq_grows (w : World) : PredGrows Try.prog 14 #[] needs w := by
  intro W x hx _
  exact nq14 x W hx

end Go.Proofs.Qxb6602142a
