/-
  THE WALK of shell.Quote.
-/
import Derived.Test.Qxb6602142aFunc
import Derived.Test.Qxb6602142aShelf
namespace Go.Proofs.Qxb6602142a
open Go.RowKit

theorem ret_str {a b : List UInt8} (h : a = b) : Ending.returned (.string ⟨a.toArray⟩) = .returned (.string ⟨b.toArray⟩) := by rw [h]

theorem Hid.of {p : Prop} (h : p) : Hid p := h

theorem wb (B : Nat) (acc : List UInt8) (c : UInt8) (z : Int) (hz : z = c.toNat) (W : World) (hI : Lib.IsBuilder 34 5 B B (Lib.byteCells acc) W) (hl : acc.length ≤ 1000000) (hB : B < W.heap.size) :
    Calls Try.prog 16 #[.pointer (some ⟨B, 0, none⟩), .int .u8 z] W fun e w' => e = .returned .nilIface ∧ Lib.IsBuilder 34 5 B B (Lib.byteCells (acc ++ [c])) w' ∧ Below B W w' ∧ B < w'.heap.size := by
  subst hz
  refine (Try.Builder_WriteByte B B (Lib.byteCells acc) c.toNat W hI (by rw [Lib.byteCells_length]; omega) (by omega)).mono ?_
  rintro e w' ⟨rfl, h1, h2⟩
  refine ⟨rfl, ?_, h2, Nat.lt_of_lt_of_le hB h2.size⟩
  rw [Lib.byteCells_append]
  exact Or.inr h1

theorem drop_at (s : ByteArray) (k : Nat) (h : k < s.size) : s.data.toList.drop k = s[k] :: s.data.toList.drop (k + 1) := by
  rw [List.drop_eq_getElem_cons (by simpa using h)]; rfl

theorem cf13 (s : ByteArray) (w : World) :
    Calls Try.prog 13 #[.string s, .func (.func 14) #[] #[]] w fun e w' => e = .returned (.bool (!(Plain.allSafe s.data.toList))) ∧ Below w.heap.size w w' := by
  have h := Try.strings_ContainsFunc_grows 14 #[] (enters_of Try.func14 (by kernel_rfl) rfl) needs s w (nq_grows w)
  rw [idx_all] at h
  exact h

theorem notEmpty {s : ByteArray} (h0 : s.data.toList ≠ []) : s.toList.isEmpty = false := by
  rw [Lib.toList_data]
  simpa using h0

set_option maxHeartbeats 1000000 in
theorem quote7_empty (w : World) :
    Calls Try.prog 7 #[.string ⟨#[]⟩] w fun e w' => e = .returned (.string ⟨#[39, 39]⟩) ∧ Below w.heap.size w w' := by
  go_enter Try.func7, Try.ntmps7
  go_wp2_with fail
  go_ret
  exact ⟨rfl, Below.refl _ _⟩

set_option maxHeartbeats 1000000 in
theorem quote7_safe (s : ByteArray) (w : World) (h0 : s.data.toList ≠ []) (ha : Plain.allSafe s.data.toList = true) :
    Calls Try.prog 7 #[.string s] w fun e w' => e = .returned (.string s) ∧ Below w.heap.size w w' := by
  have c := cf13 s w
  rw [ha] at c
  have h1 := notEmpty h0
  clear h0
  go_enter Try.func7, Try.ntmps7
  go_wp2_with (go_at_call 13; refine c.mono ?_; rintro e w' ⟨rfl, hb⟩)
  go_ret
  exact ⟨rfl, hb⟩

theorem gr15 (n : Nat) (W1 : World) (hn : n ≤ 65536) :
    Calls Try.prog 15 #[.pointer (some ⟨W1.heap.size, 0, none⟩), .int .i64 ((n : Int) + 2)] (W1.alloc (.cells #[.pointer none, .slice none 0 0] 34)) fun e w' =>
      e = .returned (.tuple #[]) ∧ Lib.IsBuilder 34 5 W1.heap.size W1.heap.size (Lib.byteCells []) w' ∧ Below W1.heap.size W1 w' ∧ W1.heap.size < w'.heap.size := by
  refine (Try.Builder_Grow_fresh W1.heap.size W1.heap.size (n + 2) _ (Nat.le_refl _) (heap_alloc_new W1 _) (by simp) (by omega)).mono ?_
  rintro e W2 ⟨rfl, hI, hb2⟩
  refine ⟨rfl, Or.inr hI, ((Below.refl _ W1).alloc (Nat.le_refl _) _).trans hb2, ?_⟩
  have := hb2.size
  simp at this
  omega

set_option maxHeartbeats 2000000 in
theorem quote7_loop (s : ByteArray) (w : World) (hs : s.size ≤ 65536) (h0 : s.data.toList ≠ []) (ha : Plain.allSafe s.data.toList = false) :
    Calls Try.prog 7 #[.string s] w fun e w' => e = .returned (.string ⟨(Plain.qgo false s.data.toList).toArray⟩) ∧ Below w.heap.size w w' := by
  have c := cf13 s w
  rw [ha] at c
  have h1 := notEmpty h0
  clear h0
  go_enter Try.func7, Try.ntmps7
  go_wp2_with (go_at_call 13; refine c.mono ?_; rintro e W1 ⟨rfl, hb⟩)
  clear c
  refine (gr15 s.size W1 hs).mono ?_
  rintro e W2 ⟨rfl, hI, hb2, hB2⟩
  generalize hB : W1.heap.size = B at hI hb2 hB2 ⊢
  have hBw : Below w.heap.size w W2 := hb.trans (hb2.mono (by have := hb.size; omega))
  have hBB : w.heap.size ≤ B := by have := hb.size; omega
  clear hb2 hb hB
  go_wp2_with fail
  go_loopw [4, 5] (fun o i wr => ∃ (k : Nat) (ob : Bool) (acc : List UInt8), k ≤ s.size ∧ o = .bool ob ∧ i = .int .i64 k ∧ Lib.IsBuilder 34 5 B B (Lib.byteCells acc) wr ∧ Below w.heap.size w wr ∧ B < wr.heap.size ∧ acc ++ Plain.qgo ob (s.data.toList.drop k) = Plain.qgo false s.data.toList ∧ acc.length ≤ 4 * k) (fun _ i _ => s.size - (intOf i).toNat)
  case atStart => exact ⟨0, false, [], Nat.zero_le _, rfl, rfl, hI, hBw, hB2, by simp, by simp⟩
  case round =>
    obtain ⟨k, ob, acc, hk, rfl, rfl, hJ, hbr, hBr, hacc, hlen⟩ := hrel
    clear hI hBw hB2
    by_cases hlt : k < s.size
    · have HA : Hid (acc ++ Plain.qgo ob (s[k] :: s.data.toList.drop (k + 1)) = Plain.qgo false s.data.toList) := by rw [← drop_at s k hlt]; exact hacc
      clear hacc
      generalize hc : s[k] = c at HA
      have hcz : ((s[k]).toNat : Int) = c.toNat := by rw [hc]
      cases hsp : Plain.spec c
      · have n39 : ¬ c = 39 := by rintro rfl; revert hsp; decide
        have n92 : ¬ c = 92 := by rintro rfl; revert hsp; decide
        have t39 : ((c.toNat : Int) == 39) = false := by
          simp only [beq_eq_false_iff_ne]
          intro h; apply n39; rw [← UInt8.toNat_inj]; simp; omega
        have t92 : ((c.toNat : Int) == 92) = false := by
          simp only [beq_eq_false_iff_ne]
          intro h; apply n92; rw [← UInt8.toNat_inj]; simp; omega
        cases ob
        · go_wp2_with fail
          refine (wb B acc 39 39 rfl _ hJ (by omega) hBr).mono ?_
          rintro e V1 ⟨rfl, hJ1, hb1, hB1⟩
          go_wp2_with fail
          refine (wb B (acc ++ [39]) c _ rfl _ hJ1 (by simp; omega) hB1).mono ?_
          rintro e V2 ⟨rfl, hJ2, hb2, hB2⟩
          have hbf : Below w.heap.size w V2 := (hbr.trans (hb1.mono hBB)).trans (hb2.mono hBB)
          go_wp2_with fail
          go_roundw
          case rel => exact ⟨k + 1, true, acc ++ [39] ++ [c], by omega, rfl, by go_num, hJ2, hbf, hB2, by have h := HA.out; simpa [Plain.qgo, hsp] using h, by simp; omega⟩
          case measure => simp [intOf]; omega
        · go_wp2_with fail
          refine (wb B acc c _ rfl _ hJ (by omega) hBr).mono ?_
          rintro e V1 ⟨rfl, hJ1, hb1, hB1⟩
          have hbf : Below w.heap.size w V1 := hbr.trans (hb1.mono hBB)
          go_wp2_with fail
          go_roundw
          case rel => exact ⟨k + 1, true, acc ++ [c], by omega, rfl, by go_num, hJ1, hbf, hB1, by have h := HA.out; simpa [Plain.qgo, hsp] using h, by simp; omega⟩
          case measure => simp [intOf]; omega
      · have tsp : (((c.toNat : Int) == 39) = true) ∨ (((c.toNat : Int) == 39) = false ∧ ((c.toNat : Int) == 92) = true) := by
          simp only [Plain.spec, Bool.or_eq_true, beq_iff_eq] at hsp
          rcases hsp with rfl | rfl
          · exact .inl rfl
          · exact .inr ⟨rfl, rfl⟩
        cases ob
        · rcases tsp with t39 | ⟨t39, t92⟩
          all_goals
            go_wp2_with fail
            refine (wb B acc 92 92 rfl _ hJ (by omega) hBr).mono ?_
            rintro e V1 ⟨rfl, hJ1, hb1, hB1⟩
            go_wp2_with fail
            refine (wb B (acc ++ [92]) c _ rfl _ hJ1 (by simp; omega) hB1).mono ?_
            rintro e V2 ⟨rfl, hJ2, hb2, hB2⟩
            have hbf : Below w.heap.size w V2 := (hbr.trans (hb1.mono hBB)).trans (hb2.mono hBB)
            go_wp2_with fail
            go_roundw
            case rel => exact ⟨k + 1, false, acc ++ [92] ++ [c], by omega, rfl, by go_num, hJ2, hbf, hB2, by have h := HA.out; simpa [Plain.qgo, hsp] using h, by simp; omega⟩
            case measure => simp [intOf]; omega
        · rcases tsp with t39 | ⟨t39, t92⟩
          all_goals
            go_wp2_with fail
            refine (wb B acc 39 39 rfl _ hJ (by omega) hBr).mono ?_
            rintro e V0 ⟨rfl, hJ0, hb0, hB0⟩
            go_wp2_with fail
            refine (wb B (acc ++ [39]) 92 92 rfl _ hJ0 (by simp; omega) hB0).mono ?_
            rintro e V1 ⟨rfl, hJ1, hb1, hB1⟩
            go_wp2_with fail
            refine (wb B (acc ++ [39] ++ [92]) c _ rfl _ hJ1 (by simp; omega) hB1).mono ?_
            rintro e V2 ⟨rfl, hJ2, hb2, hB2⟩
            have hbf : Below w.heap.size w V2 := ((hbr.trans (hb0.mono hBB)).trans (hb1.mono hBB)).trans (hb2.mono hBB)
            go_wp2_with fail
            go_roundw
            case rel => exact ⟨k + 1, false, acc ++ [39] ++ [92] ++ [c], by omega, rfl, by go_num, hJ2, hbf, hB2, by have h := HA.out; simpa [Plain.qgo, hsp] using h, by simp; omega⟩
            case measure => simp [intOf]; omega
    · have hd : s.data.toList.drop k = [] := List.drop_eq_nil_iff.2 (by simp; exact Nat.le_of_not_lt hlt)
      rw [hd] at hacc
      clear hd
      cases ob
      · have hacc2 : acc = Plain.qgo false s.data.toList := by simpa [Plain.qgo] using hacc
        have HQ := Hid.of hacc2
        clear hacc hacc2
        go_wp2_with fail
        refine (Try.Builder_String_any B B acc _ hJ (by omega)).mono ?_
        rintro e V1 ⟨rfl, hb1⟩
        go_wp2_with fail
        go_ret
        exact ⟨ret_str HQ.out, hbr.trans (hb1.mono hBB)⟩
      · have hacc2 : acc ++ [39] = Plain.qgo false s.data.toList := by simpa [Plain.qgo] using hacc
        have HQ := Hid.of hacc2
        clear hacc hacc2
        go_wp2_with fail
        refine (wb B acc 39 39 rfl _ hJ (by omega) hBr).mono ?_
        rintro e V0 ⟨rfl, hJ0, hb0, hB0⟩
        go_wp2_with fail
        refine (Try.Builder_String_any B B (acc ++ [39]) _ hJ0 (by omega)).mono ?_
        rintro e V1 ⟨rfl, hb1⟩
        go_wp2_with fail
        go_ret
        exact ⟨ret_str HQ.out, (hbr.trans (hb0.mono hBB)).trans (hb1.mono hBB)⟩

/-- shell.Quote gives 'quote', whatever the text, up to 65536 bytes; of what was there nothing turns. -/
theorem quote7 (s : ByteArray) (w : World) (hs : s.size ≤ 65536) :
    Calls Try.prog 7 #[.string s] w fun e w' => e = .returned (.string ⟨(Plain.quote s.data.toList).toArray⟩) ∧ Below w.heap.size w w' := by
  by_cases h0 : s.data.toList = []
  · have hs0 : s = ⟨#[]⟩ := by
      obtain ⟨⟨l⟩⟩ := s
      simp at h0
      subst h0
      rfl
    subst hs0
    exact quote7_empty w
  · cases ha : Plain.allSafe s.data.toList
    · have : Plain.quote s.data.toList = Plain.qgo false s.data.toList := by simp [Plain.quote, h0, ha]
      rw [this]
      exact quote7_loop s w hs h0 ha
    · have : Plain.quote s.data.toList = s.data.toList := by simp [Plain.quote, h0, ha]
      rw [this]
      exact quote7_safe s w h0 ha

end Go.Proofs.Qxb6602142a
