/-
  THE WALKS of seat b6602403a: plainByteKcB1, isPlainWord.
-/
import Derived.Test.Qxb6602403aRune
import Derived.Lib.Strings
import Derived.Lib.TrimU
namespace Go.Proofs.Qxb6602403a
open Go.RowKit

/-- The bytes of the table. -/
def plainB (c : UInt8) : Bool :=
  (97 ≤ c.toNat && c.toNat ≤ 122) || (65 ≤ c.toNat && c.toNat ≤ 90) || (48 ≤ c.toNat && c.toNat ≤ 57) ||
    c.toNat == 37 || c.toNat == 43 || c.toNat == 44 || c.toNat == 45 || c.toNat == 46 || c.toNat == 47 || c.toNat == 58 || c.toNat == 64 || c.toNat == 95

/-- Every byte is of the table. -/
def allPlain (l : List UInt8) : Bool := l.all plainB

theorem all_cons (c : UInt8) (r : List UInt8) : allPlain (c :: r) = (plainB c && allPlain r) := rfl

theorem plain_t (c : UInt8) (h : (97 ≤ c.toNat ∧ c.toNat ≤ 122) ∨ (65 ≤ c.toNat ∧ c.toNat ≤ 90) ∨ (48 ≤ c.toNat ∧ c.toNat ≤ 57) ∨ c.toNat = 37 ∨ c.toNat = 43 ∨ c.toNat = 44 ∨ c.toNat = 45 ∨ c.toNat = 46 ∨ c.toNat = 47 ∨ c.toNat = 58 ∨ c.toNat = 64 ∨ c.toNat = 95) : plainB c = true := by
  simp only [plainB, Bool.or_eq_true, Bool.and_eq_true, decide_eq_true_eq, beq_iff_eq]
  omega

theorem plain_f (c : UInt8) (h : ¬ ((97 ≤ c.toNat ∧ c.toNat ≤ 122) ∨ (65 ≤ c.toNat ∧ c.toNat ≤ 90) ∨ (48 ≤ c.toNat ∧ c.toNat ≤ 57) ∨ c.toNat = 37 ∨ c.toNat = 43 ∨ c.toNat = 44 ∨ c.toNat = 45 ∨ c.toNat = 46 ∨ c.toNat = 47 ∨ c.toNat = 58 ∨ c.toNat = 64 ∨ c.toNat = 95)) : plainB c = false := by
  rw [← Bool.not_eq_true]
  simp only [plainB, Bool.or_eq_true, Bool.and_eq_true, decide_eq_true_eq, beq_iff_eq]
  omega

theorem zz18 (a : ByteArray) (w : World) (wa : a.size ≤ maxLen) :
    Calls Try.prog 18 #[.string a] w fun e w' => (∃ r, e = .returned (.bool r)) ∧ w' = w := by
  unfold maxLen at wa
  go_enter Try.func18, Try.ntmps18
  go_wp2
  all_goals
    go_ret
    exact ⟨⟨_, rfl⟩, rfl⟩

theorem pb19 (c : UInt8) (w : World) :
    Calls Try.prog 19 #[.int .u8 c.toNat] w fun e w' => e = .returned (.bool (plainB c)) ∧ w' = w := by
  go_enter Try.func19, Try.ntmps19
  go_wp2
  all_goals
    go_ret
    refine ⟨?_, rfl⟩
    simp only [beq_iff_eq, beq_eq_false_iff_ne] at *
    first
      | (rw [plain_t c (by omega)]; rfl)
      | (rw [plain_f c (by omega)]; rfl)

/-- plainPunctuation. -/
def punct : ByteArray := ⟨#[37, 43, 44, 45, 46, 47, 58, 64, 95]⟩

theorem punct_ascii : ∀ (i : Nat) (h : i < punct.size), (punct[i]).toNat < 128 := by
  intro i h
  have h' : i < 9 := h
  have : ∀ j : Fin 9, ((#[37, 43, 44, 45, 46, 47, 58, 64, 95] : Array UInt8)[j]).toNat < 128 := by decide
  exact this ⟨i, h'⟩

theorem ib_mem (l : List UInt8) (c : UInt8) : (0 ≤ Lib.indexByte l c) ↔ c ∈ l := by
  induction l with
  | nil => simp [Lib.indexByte]
  | cons b r ih =>
    have hge := Lib.indexByte_ge r c
    unfold Lib.indexByte
    by_cases hb : b = c
    · simp [hb]
    · have hb' : ¬ c = b := fun h => hb h.symm
      simp only [beq_iff_eq, hb, if_false, List.mem_cons, hb', false_or]
      rw [← ih]
      split <;> omega

theorem inB_low (c : UInt8) (h : c.toNat < 128) : inB punct.data.toList c.toNat = (c.toNat == 37 || c.toNat == 43 || c.toNat == 44 || c.toNat == 45 || c.toNat == 46 || c.toNat == 47 || c.toNat == 58 || c.toNat == 64 || c.toNat == 95) := by
  have hm : decide (0 ≤ Lib.indexByte punct.data.toList c) = (c.toNat == 37 || c.toNat == 43 || c.toNat == 44 || c.toNat == 45 || c.toNat == 46 || c.toNat == 47 || c.toNat == 58 || c.toNat == 64 || c.toNat == 95) := by
    rw [Bool.eq_iff_iff]
    simp only [decide_eq_true_eq, ib_mem, punct, Bool.or_eq_true, beq_iff_eq]
    simp [← UInt8.toNat_inj]
    omega
  rw [← hm]
  simp [inB, h]

theorem inB_high (r : Nat) (h : 128 ≤ r) : inB punct.data.toList r = false := by
  have : ¬ r < 128 := by omega
  simp [inB, this]

/-- The punctuation's test, told of the byte. -/
theorem inB_plain (c : UInt8) (h : c.toNat < 128) (ha : ¬ ((97 ≤ c.toNat ∧ c.toNat ≤ 122) ∨ (65 ≤ c.toNat ∧ c.toNat ≤ 90) ∨ (48 ≤ c.toNat ∧ c.toNat ≤ 57))) : inB punct.data.toList c.toNat = plainB c := by
  rw [inB_low c h, Bool.eq_iff_iff]
  simp only [plainB, Bool.or_eq_true, Bool.and_eq_true, decide_eq_true_eq, beq_iff_eq]
  omega

theorem drop_at (s : ByteArray) (k : Nat) (h : k < s.size) : s.data.toList.drop k = s[k] :: s.data.toList.drop (k + 1) := by
  rw [List.drop_eq_getElem_cons (by simpa using h)]; rfl

theorem Hid.mk' {p : Prop} (h : p) : Hid p := h

set_option maxHeartbeats 2000000 in
set_option maxRecDepth 100000 in
theorem ipw28 (s : ByteArray) (w : World) :
    Calls Try.prog 28 #[.string s] w fun e w' => e = .returned (.bool (allPlain s.data.toList)) ∧ Below w.heap.size w w' := by
  go_enter Try.func28, Try.ntmps28
  go_wp2_with fail
  go_loopw [] (fun wr => ∃ pos : Nat, wr.heap[w.heap.size]? = some (.stringIter s pos) ∧ Below w.heap.size w wr ∧ Hid (allPlain (s.data.toList.drop pos) = allPlain s.data.toList)) (fun wr => s.size - wr.iterPos w.heap.size)
  case atStart => exact ⟨0, World.iter_heap w s 0, (Below.refl _ w).alloc (Nat.le_refl _) _, Hid.mk' (by rw [List.drop_zero])⟩
  case round =>
    obtain ⟨pos, hit, hbw, HA⟩ := hrel
    by_cases hps : pos < s.size
    · by_cases hb : (s[pos]).toNat < 128
      · have hnx : ∀ ty, (Instr.next (.pointer (some ⟨w.heap.size, 0, none⟩)) true ty).run Try.prog wr = _ := fun ty => Lib.run_next_ascii_at wr w.heap.size s pos ty hit hps hb
        have hit2 := Lib.iterAt_heap wr w.heap.size s pos (pos + 1) hit
        have hbw2 := Lib.below_iterAt hbw (k := w.heap.size) (Nat.le_refl _) s (pos + 1)
        obtain ⟨W, hWd⟩ : ∃ W, wr.iterAt w.heap.size s (pos + 1) = W := ⟨_, rfl⟩
        rw [hWd] at hnx hit2 hbw2
        clear hWd
        have hltW : w.heap.size < W.heap.size := (Array.getElem?_eq_some_iff.1 hit2).1
        have HS : Hid ((plainB s[pos] && allPlain (s.data.toList.drop (pos + 1))) = allPlain s.data.toList) := by
          have := HA.out
          rw [drop_at s pos hps, all_cons] at this
          exact this
        clear HA
        by_cases ha : (97 ≤ (s[pos]).toNat ∧ (s[pos]).toNat ≤ 122) ∨ (65 ≤ (s[pos]).toNat ∧ (s[pos]).toNat ≤ 90) ∨ (48 ≤ (s[pos]).toNat ∧ (s[pos]).toNat ≤ 57)
        · have hpl : plainB s[pos] = true := plain_t _ (by omega)
          have HN : Hid (allPlain (s.data.toList.drop (pos + 1)) = allPlain s.data.toList) := by
            have := HS.out
            rw [hpl, Bool.true_and] at this
            exact this
          clear hpl HS
          go_wp2_with fail
          all_goals
            go_roundw
            case rel => exact ⟨pos + 1, hit2, hbw2, HN⟩
            case measure =>
              simp only [World.iterPos, hit2, hit]
              omega
        · have cR := crX punct (s[pos]).toNat W (by decide) punct_ascii (by omega)
          rw [inB_plain _ hb ha] at cR
          cases hpl : plainB s[pos]
          · rw [hpl] at cR
            have HN : Hid (allPlain s.data.toList = false) := by
              have := HS.out
              rw [hpl, Bool.false_and] at this
              exact this.symm
            clear hpl HS
            go_wp2_with (go_at_call 30; refine cR.mono ?_; rintro e W2 ⟨rfl, hbc⟩)
            all_goals
              go_ret
              exact ⟨ret_bool HN.out.symm, hbw2.trans (hbc.mono hbw2.size)⟩
          · rw [hpl] at cR
            have HN : Hid (allPlain (s.data.toList.drop (pos + 1)) = allPlain s.data.toList) := by
              have := HS.out
              rw [hpl, Bool.true_and] at this
              exact this
            clear hpl HS
            go_wp2_with (go_at_call 30; refine cR.mono ?_; rintro e W2 ⟨rfl, hbc⟩)
            all_goals
              have hit3 := (hbc.block _ hltW).trans hit2
              go_roundw
              case rel => exact ⟨pos + 1, hit3, hbw2.trans (hbc.mono hbw2.size), HN⟩
              case measure =>
                simp only [World.iterPos, hit3, hit]
                omega
      · have hh := decode_high s pos hps (by omega)
        have hrl := Lib.rune_le s pos
        have hnx : ∀ ty, (Instr.next (.pointer (some ⟨w.heap.size, 0, none⟩)) true ty).run Try.prog wr = _ := fun ty => Lib.run_next_any_at wr w.heap.size s pos ty hit hps
        have hbw2 := Lib.below_iterAt hbw (k := w.heap.size) (Nat.le_refl _) s (pos + (Utf8.decode s pos).2)
        have HN : Hid (allPlain s.data.toList = false) := by
          have := HA.out
          rw [drop_at s pos hps, all_cons, plain_f _ (by omega), Bool.false_and] at this
          exact this.symm
        generalize (Utf8.decode s pos).2 = K at hnx hbw2 hh
        generalize (Utf8.decode s pos).1 = R at hnx hrl hh
        obtain ⟨W, hWd⟩ : ∃ W, wr.iterAt w.heap.size s (pos + K) = W := ⟨_, rfl⟩
        rw [hWd] at hnx hbw2
        clear hWd HA
        have hR := hh.1
        clear hh
        have cR := crX punct R W (by decide) punct_ascii hrl
        rw [inB_high R hR] at cR
        have hR' : (128 : Int) ≤ R := by omega
        go_wp2_with (go_at_call 30; refine cR.mono ?_; rintro e W2 ⟨rfl, hbc⟩)
        all_goals
          go_ret
          exact ⟨ret_bool HN.out.symm, hbw2.trans (hbc.mono hbw2.size)⟩
    · have hnx : ∀ ty, (Instr.next (.pointer (some ⟨w.heap.size, 0, none⟩)) true ty).run Try.prog wr = _ := fun ty => Lib.run_next_end_at wr w.heap.size s pos ty hit hps
      have HN : Hid (allPlain s.data.toList = true) := by
        have := HA.out
        rw [List.drop_eq_nil_iff.2 (by simp; exact Nat.le_of_not_lt hps)] at this
        exact this.symm
      clear HA
      go_wp2
      go_ret
      exact ⟨ret_bool HN.out.symm, hbw⟩

theorem ipw20 (s : ByteArray) (w : World) :
    Calls Try.prog 20 #[.string s] w fun e w' => e = .returned (.bool (allPlain s.data.toList)) ∧ Below w.heap.size w w' := by
  go_enter Try.func20, Try.ntmps20
  go_wp2_with (go_at_call 28; refine (ipw28 s _).mono ?_; rintro e W2 ⟨rfl, hbc⟩)
  go_ret
  exact ⟨rfl, hbc⟩

end Go.Proofs.Qxb6602403a
