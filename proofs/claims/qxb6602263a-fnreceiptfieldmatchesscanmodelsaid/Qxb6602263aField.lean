/-
  THE WALKS of seat b6602263a: the bounds, zzHasSpace, receiptField.
-/
import Derived.Test.Qxb6602263aRows
import Derived.Test.Qxb6602263aPlain
import Derived.Test.Qxb6602263aShelf
import Derived.WalkKit
import Derived.WalkLawsBesides
import Derived.Lib.Strings
namespace Go.Proofs.Qxb6602263a
open Go.RowKit

theorem zz8 (a b : ByteArray) (w : World) (wa : a.size ≤ maxLen) (wb : b.size ≤ maxLen) :
    Calls Try.prog 8 #[.string a, .string b] w fun e w' => (∃ r, e = .returned (.bool r)) ∧ w' = w := by
  unfold maxLen at wa wb
  go_enter Try.func8, Try.ntmps8
  go_wp2
  all_goals
    go_ret
    exact ⟨⟨_, rfl⟩, rfl⟩

set_option maxHeartbeats 1000000 in
theorem zz11 (a b c : ByteArray) (w : World) (wa : a.size ≤ maxLen) (wb : b.size ≤ maxLen) (wc : c.size ≤ maxLen) :
    Calls Try.prog 11 #[.string a, .string b, .string c] w fun e w' => (∃ r, e = .returned (.bool r)) ∧ w' = w := by
  unfold maxLen at wa wb wc
  go_enter Try.func11, Try.ntmps11
  go_wp2
  all_goals
    go_ret
    exact ⟨⟨_, rfl⟩, rfl⟩

theorem size_of {S : ByteArray} {l : List UInt8} (h : S.data.toList = l) : S.size = l.length := by
  rw [← h, Array.length_toList]; rfl

theorem get? (S : ByteArray) (k : Nat) (hk : k < S.size) : S.data.toList[k]? = some S[k] := by
  rw [List.getElem?_eq_getElem (by simpa using hk)]
  rfl

theorem Hid.mk' {p : Prop} (h : p) : Hid p := h

/-- zzHasSpace: some space, or none. -/
theorem hs12 (s : ByteArray) (w : World) (hs : s.size ≤ maxLen) :
    Calls Try.prog 12 #[.string s] w fun e w' => (e = .returned (.bool true) ∨ (e = .returned (.bool false) ∧ Plain.noSpace s.data.toList)) ∧ w' = w := by
  unfold maxLen at hs
  go_enter Try.func12, Try.ntmps12
  go_wp2_with fail
  go_loop [3] (fun i => ∃ k : Nat, i = .int .i64 k ∧ k ≤ s.size ∧ Hid (∀ (j : Nat) (h : j < s.size), j < k → s[j] ≠ 32)) (fun i => s.size - (intOf i).toNat)
  case atStart => exact ⟨0, rfl, Nat.zero_le _, fun _ _ h => absurd h (Nat.not_lt_zero _)⟩
  case round =>
    obtain ⟨k, rfl, hk, HA⟩ := hrel
    by_cases hlt : k < s.size
    · by_cases hc : s[k] = 32
      · have t : (((s[k]).toNat : Int) == 32) = true := by rw [hc]; rfl
        go_wp2_with fail
        go_ret
        exact ⟨.inl rfl, rfl⟩
      · have t : (((s[k]).toNat : Int) == 32) = false := by
          simp only [beq_eq_false_iff_ne]
          intro h; apply hc; rw [← UInt8.toNat_inj]; simp; omega
        have HN : Hid (∀ (j : Nat) (h : j < s.size), j < k + 1 → s[j] ≠ 32) := by
          intro j hj hjk
          by_cases e : j = k
          · subst e; exact hc
          · exact HA.out j hj (by omega)
        clear hc HA
        go_wp2_with fail
        go_round
        case rel => exact ⟨k + 1, by go_num, by omega, HN⟩
        case measure => simp [intOf]; omega
    · go_wp2_with fail
      go_ret
      refine ⟨.inr ⟨rfl, ?_⟩, rfl⟩
      intro x hx
      rw [Array.mem_toList_iff, Array.mem_iff_getElem] at hx
      obtain ⟨i, hi, rfl⟩ := hx
      have hi' : i < s.size := hi
      exact HA.out i hi' (by omega)

theorem ret3 {a b a' b' : Int} {c c' : Bool} (h1 : a = a') (h2 : b = b') (h3 : c = c') :
    Ending.returned (.tuple #[.int .i64 a, .int .i64 b, .bool c]) = .returned (.tuple #[.int .i64 a', .int .i64 b', .bool c']) := by rw [h1, h2, h3]

theorem slFrom (s : ByteArray) (z : Int) (n : Nat) (hz : z = n) (h : n ≤ s.size) (W : World) :
    (Instr.slice 9 (.string s) (some (.int .i64 z)) none none).run Try.prog W = .ok (.string (s.extract n s.size)) W := by
  subst hz
  rw [run_slice_string_from_if W 9 s .i64 _ Try.underlying9, if_pos ⟨by omega, by omega⟩, Int.toNat_natCast]

theorem drop_data (s : ByteArray) (n : Nat) : (s.extract n s.size).data.toList = s.data.toList.drop n := by
  rw [Lib.extract_data, List.take_of_length_le]
  simp

theorem idx_cases (l K : List UInt8) : (Lib.index l K = -1 ∧ ∀ j, Lib.occAt l K j = false) ∨ (∃ j : Nat, Lib.index l K = j ∧ Lib.occAt l K j = true ∧ ∀ i, i < j → Lib.occAt l K i = false) := by
  induction l with
  | nil =>
    cases K with
    | nil => right; exact ⟨0, rfl, rfl, fun i h => absurd h (Nat.not_lt_zero _)⟩
    | cons a t => left; exact ⟨rfl, fun j => by simp [Lib.occAt]⟩
  | cons b l ih =>
    unfold Lib.index
    cases hp : K.isPrefixOf (b :: l)
    · simp only [Bool.false_eq_true, if_false]
      have h0 : Lib.occAt (b :: l) K 0 = false := by simpa [Lib.occAt] using hp
      rcases ih with ⟨h1, h2⟩ | ⟨j, h1, h2, h3⟩
      · left
        refine ⟨by simp [h1], fun j => ?_⟩
        cases j with
        | zero => exact h0
        | succ j => simpa [Lib.occAt] using h2 j
      · right
        have : ((j : Int) == -1) = false := by simp only [beq_eq_false_iff_ne]; omega
        refine ⟨j + 1, by rw [h1, this]; simp, by simpa [Lib.occAt] using h2, fun i hi => ?_⟩
        cases i with
        | zero => exact h0
        | succ i => simpa [Lib.occAt] using h3 i (by omega)
    · right
      exact ⟨0, by simp, by simpa [Lib.occAt] using hp, fun i h => absurd h (Nat.not_lt_zero _)⟩

theorem isText_eq (N : ByteArray) : Plain.isText N.data.toList = (N.toList == [84, 101, 120, 116]) := by
  rw [Lib.toList_data]
  rfl

theorem occ_drop (T K : List UInt8) (k j : Nat) : Lib.occAt (T.drop k) K j = Lib.occAt T K (k + j) := by
  simp [Lib.occAt, List.drop_drop]

set_option maxHeartbeats 2000000 in
theorem rf15 (T N : ByteArray) (w : World) (hsh : w.ShapedOpen Try.prog) (hT : T.size ≤ 1000000) (hN : N.size ≤ 1000000) :
    Calls Try.prog 15 #[.string T, .string N] w fun e w' => e = .returned (.tuple #[.int .i64 (Plain.rS T.data.toList N.data.toList), .int .i64 (Plain.rE T.data.toList N.data.toList), .bool (Plain.rB T.data.toList N.data.toList)]) ∧ w' = w := by
  have hK : (N ++ (⟨#[58]⟩ : ByteArray)).data.toList = Plain.key N.data.toList := by simp [Plain.key]
  have hKs : (N ++ (⟨#[58]⟩ : ByteArray)).size = N.size + 1 := by rw [size_of hK, Plain.key_length]; simp
  have hNl : N.data.toList.length = N.size := by simp
  have hTl : T.data.toList.length = T.size := by simp
  go_enter Try.func15, Try.ntmps15
  go_wp2_with fail
  generalize N ++ (⟨#[58]⟩ : ByteArray) = K at hK hKs ⊢
  have HK : Hid (K.data.toList = Plain.key N.data.toList) := hK
  have HKs : Hid (K.size = N.size + 1) := hKs
  have hKs1 : K.size ≤ 1000001 := by omega
  have HNl := Hid.mk' hNl
  have HTl := Hid.mk' hTl
  clear hK hKs hNl hTl
  go_loop [8] (fun f => ∃ k : Nat, f = .int .i64 k ∧ k ≤ T.size ∧ Hid (∀ q, q < k → Plain.good T.data.toList (Plain.key N.data.toList) q = false)) (fun f => T.size - (intOf f).toNat)
  case atStart => exact ⟨0, rfl, Nat.zero_le _, fun _ h => absurd h (Nat.not_lt_zero _)⟩
  case round =>
    obtain ⟨k, rfl, hk, HA⟩ := hrel
    have hsl := slFrom T k k rfl hk
    have hxs : (T.extract k T.size).size < 4294967281 := by rw [size_of (drop_data T k)]; simp; omega
    have cI := Try.strings_Index_shaped (T.extract k T.size) K w hsh hxs
    rw [drop_data, HK.out] at cI
    clear hxs
    rcases idx_cases (T.data.toList.drop k) (Plain.key N.data.toList) with ⟨h1, h2⟩ | ⟨j, h1, h2, h3⟩
    · rw [h1] at cI
      have HR : Hid (∀ q, Plain.good T.data.toList (Plain.key N.data.toList) q = false) := by
        intro q
        by_cases hq : q < k
        · exact HA.out q hq
        · have := h2 (q - k)
          rw [occ_drop, show k + (q - k) = q from by omega] at this
          simp [Plain.good, this]
      clear h1 h2 HA
      go_wp2_with (go_at_call 17; refine cI.mono ?_; rintro e w' ⟨rfl, rfl⟩)
      go_ret3
      obtain ⟨r1, r2, r3⟩ := Plain.res_none HR.out
      exact ⟨ret3 r1.symm r2.symm r3.symm, rfl⟩
    · obtain ⟨p, hp⟩ : ∃ p, p = k + j := ⟨_, rfl⟩
      have hjp : (j : Int) = (p : Int) - k := by omega
      rw [h1, hjp] at cI
      rw [occ_drop, ← hp] at h2
      have HB : Hid (∀ q, q < p → (q < k ∨ Lib.occAt T.data.toList (Plain.key N.data.toList) q = false)) := by
        intro q hq
        by_cases hqk : q < k
        · exact .inl hqk
        · right
          have := h3 (q - k) (by omega)
          rw [occ_drop, show k + (q - k) = q from by omega] at this
          exact this
      have HL : Hid (∀ q, q < p → Plain.good T.data.toList (Plain.key N.data.toList) q = false) := by
        intro q hq
        rcases HB.out q hq with h | h
        · exact HA.out q h
        · simp [Plain.good, h]
      have hroom : p + K.size ≤ T.size := by
        rcases Lib.occAt_room h2 with h | h
        · rw [Plain.key_length, HTl.out, HNl.out] at h
          have := HKs.out
          omega
        · simp [Plain.key] at h
      have HO := Hid.mk' h2
      have hkp : k ≤ p := by omega
      have hp0 : 0 < K.size := by have := HKs.out; omega
      clear h1 h2 h3 hjp hp HB HA
      by_cases hbd : Plain.bnd T.data.toList p = true
      · have HG : Hid (Plain.good T.data.toList (Plain.key N.data.toList) p = true) := Hid.mk' (by simp [Plain.good, hbd, HO.out])
        obtain ⟨st, hst⟩ : ∃ st, st = p + K.size := ⟨_, rfl⟩
        have HRS : Hid (Plain.rS T.data.toList N.data.toList = (st : Int) ∧ Plain.rE T.data.toList N.data.toList = (Plain.endAt T.data.toList N.data.toList st : Int) ∧ Plain.rB T.data.toList N.data.toList = true) := by
          have := Plain.res_some HG.out HL.out
          rw [HNl.out, ← HKs.out, ← hst] at this
          exact this
        have hstT : st ≤ T.size := by omega
        have hsl2 := slFrom T ((p : Int) + K.size) st (by omega) hstT
        have cB := Try.strings_IndexByte (T.extract st T.size) 32 w
        rw [drop_data] at cB
        have hbd2 : ((p : Int) == 0) = true ∨ (((p : Int) == 0) = false ∧ (1 : Int) ≤ p ∧ ∃ hp1 : p - 1 < T.size, (((T[p - 1]'hp1).toNat : Int) == 32) = true) := by
          by_cases h0 : p = 0
          · exact .inl (by simp [h0])
          · right
            simp only [Plain.bnd, Bool.or_eq_true, beq_iff_eq, h0, false_or] at hbd
            have hp1 : p - 1 < T.size := by omega
            refine ⟨by simp only [beq_eq_false_iff_ne]; omega, by omega, hp1, ?_⟩
            rw [get? T (p - 1) hp1] at hbd
            rw [Option.some.inj hbd]
            rfl
        have htw := Plain.tw_le (T.data.toList.drop st)
        have HST := Hid.mk' hst
        clear hbd HG HL HO hst
        rcases Plain.tw_index (T.data.toList.drop st) with ⟨i1, i2⟩ | i1
        · have cB2 : Calls Try.prog 18 #[.string (T.extract st T.size), .int .u8 32] w fun e w' => e = .returned (.int .i64 (-1)) ∧ w' = w := by
            rw [← i1]; exact cB
          have HE : Hid (Plain.endAt T.data.toList N.data.toList st = T.size) := by
            refine Hid.mk' ?_
            have h := HTl.out
            simp only [Plain.endAt, i2, List.length_drop]
            split <;> omega
          clear i1 i2 cB htw
          rcases hbd2 with t0 | ⟨t0, q1, hp1, t32⟩
          all_goals
            go_wp2_with (first | (go_at_call 17; refine cI.mono ?_; rintro e w' ⟨rfl, hw⟩; subst hw) | (go_at_call 18; refine cB2.mono ?_; rintro e w' ⟨rfl, hw⟩; subst hw))
            go_ret3
            obtain ⟨r1, r2, r3⟩ := HRS.out
            have hst := HST.out
            exact ⟨ret3 (by rw [r1]; omega) (by rw [r2, HE.out]) r3.symm, rfl⟩
        · have cB2 : Calls Try.prog 18 #[.string (T.extract st T.size), .int .u8 32] w fun e w' => e = .returned (.int .i64 (Plain.tw (T.data.toList.drop st) : Int)) ∧ w' = w := by
            rw [← i1]; exact cB
          clear i1 cB
          have hm : Plain.tw (T.data.toList.drop st) ≤ 1000000 := by rw [List.length_drop, HTl.out] at htw; omega
          have HE : Hid (Plain.endAt T.data.toList N.data.toList st = if Plain.isText N.data.toList then T.size else st + Plain.tw (T.data.toList.drop st)) := by
            refine Hid.mk' ?_
            rw [Plain.endAt, HTl.out]
          clear htw
          generalize Plain.tw (T.data.toList.drop st) = m at cB2 hm HE
          rw [isText_eq] at HE
          have hm0 : ¬ (m : Int) < 0 := by omega
          cases htx : (N.toList == [84, 101, 120, 116])
          all_goals
            rw [htx] at HE
            rcases hbd2 with t0 | ⟨t0, q1, hp1, t32⟩
            all_goals
              go_wp2_with (first | (go_at_call 17; refine cI.mono ?_; rintro e w' ⟨rfl, hw⟩; subst hw) | (go_at_call 18; refine cB2.mono ?_; rintro e w' ⟨rfl, hw⟩; subst hw))
              go_ret3
              obtain ⟨r1, r2, r3⟩ := HRS.out
              have hst := HST.out
              have he := HE.out
              simp only [if_true, Bool.false_eq_true, if_false] at he
              exact ⟨ret3 (by rw [r1]; omega) (by rw [r2, he] <;> omega) r3.symm, rfl⟩
      · have hbd2 : ((p : Int) == 0) = false ∧ (1 : Int) ≤ p ∧ ∃ hp1 : p - 1 < T.size, (((T[p - 1]'hp1).toNat : Int) == 32) = false := by
          simp only [Plain.bnd, Bool.or_eq_true, beq_iff_eq, not_or] at hbd
          obtain ⟨h0, hbd⟩ := hbd
          have hp1 : p - 1 < T.size := by omega
          refine ⟨by simp only [beq_eq_false_iff_ne]; omega, by omega, hp1, ?_⟩
          rw [get? T (p - 1) hp1] at hbd
          simp only [beq_eq_false_iff_ne]
          intro h
          apply hbd
          congr 1
          rw [← UInt8.toNat_inj]
          simp
          omega
        obtain ⟨t0, q1, hp1, t32⟩ := hbd2
        have HL2 : Hid (∀ q, q < p + 1 → Plain.good T.data.toList (Plain.key N.data.toList) q = false) := by
          intro q hq
          by_cases e : q = p
          · subst e
            simp [Plain.good, hbd]
          · exact HL.out q (by omega)
        clear hbd HL HO
        go_wp2_with (go_at_call 17; refine cI.mono ?_; rintro e w' ⟨rfl, hw⟩; subst hw)
        go_round
        case rel => exact ⟨p + 1, by go_num, by omega, HL2⟩
        case measure => simp [intOf]; omega

/-- ZZreceiptField hands it on. -/
theorem rf9 (T N : ByteArray) (w : World) (hsh : w.ShapedOpen Try.prog) (hT : T.size ≤ 1000000) (hN : N.size ≤ 1000000) :
    Calls Try.prog 9 #[.string T, .string N] w fun e w' => e = .returned (.tuple #[.int .i64 (Plain.rS T.data.toList N.data.toList), .int .i64 (Plain.rE T.data.toList N.data.toList), .bool (Plain.rB T.data.toList N.data.toList)]) ∧ w' = w := by
  go_enter Try.func9, Try.ntmps9
  go_wp2_with (go_at_call 15; refine (rf15 T N _ hsh hT hN).mono ?_; rintro e w' ⟨rfl, hw⟩; subst hw)
  go_ret3
  exact ⟨rfl, rfl⟩

end Go.Proofs.Qxb6602263a
