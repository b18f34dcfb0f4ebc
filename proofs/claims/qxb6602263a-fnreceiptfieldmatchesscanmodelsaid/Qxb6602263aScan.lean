/-
  THE WALKS of the scan model: zzKeyAt, zzScanReceiptField.
-/
import Derived.Test.Qxb6602263aField
import Derived.Deep.Draws
namespace Go.Proofs.Qxb6602263a
open Go.RowKit

theorem ret_bool {a b : Bool} (h : a = b) : Ending.returned (.bool a) = .returned (.bool b) := by rw [h]

theorem occ_false_at {T N : List UInt8} {p j : Nat} (hj : j < N.length) (h : T[p + j]? ≠ some N[j]) : Lib.occAt T (Plain.key N) p = false := by
  rw [← Bool.not_eq_true, Plain.occ_iff]
  rintro ⟨h1, _⟩
  exact h (h1 j hj)

set_option maxHeartbeats 1000000 in
theorem ka16 (T N : ByteArray) (p : Nat) (w : World) (hT : T.size ≤ 1000000) (hp : p + (N.size + 1) ≤ T.size) :
    Calls Try.prog 16 #[.string T, .int .i64 p, .string N] w fun e w' => e = .returned (.bool (Lib.occAt T.data.toList (Plain.key N.data.toList) p)) ∧ ∃ n, w' = w.drewN n := by
  go_enter Try.func16, Try.ntmps16
  go_wp2_with fail
  go_loopw [7] (fun j wr => ∃ k : Nat, j = .int .i64 k ∧ k ≤ N.size ∧ Hid (∀ (i : Nat) (h : i < N.data.toList.length), i < k → T.data.toList[p + i]? = some N.data.toList[i]) ∧ ∃ n, wr = w.drewN n) (fun j _ => N.size - (intOf j).toNat)
  case atStart => exact ⟨0, rfl, Nat.zero_le _, fun _ _ h => absurd h (Nat.not_lt_zero _), 0, rfl⟩
  case round =>
    obtain ⟨k, rfl, hk, HA, n, rfl⟩ := hrel
    by_cases hlt : k < N.size
    · obtain ⟨q, hq⟩ : ∃ q, q = p + k := ⟨_, rfl⟩
      have hwr : IntKind.i64.wrap ((p : Int) + k) = q := by rw [IntKind.wrap_i64]; omega
      have hqT : q < T.size := by omega
      have hqT' : (q : Int) < T.size := by omega
      have hlt' : (k : Int) < N.size := by omega
      have gT := get? T q hqT
      have gN : ∀ h : k < N.data.toList.length, N.data.toList[k]'h = N[k]'hlt := fun _ => rfl
      by_cases hc : T[q]'hqT = N[k]'hlt
      · have t : (((T[q]'hqT).toNat : Int) != ((N[k]'hlt).toNat : Int)) = false := by rw [hc]; simp
        have HN : Hid (∀ (i : Nat) (h : i < N.data.toList.length), i < k + 1 → T.data.toList[p + i]? = some N.data.toList[i]) := by
          intro i h hi
          by_cases e : i = k
          · subst e
            rw [← hq, gT, gN, hc]
          · exact HA.out i h (by omega)
        clear hc HA gT gN hq
        go_wp2_with fail
        go_region
        go_wp2_with fail
        go_roundw
        case rel => exact ⟨k + 1, by go_num, by omega, HN, n + 1, rfl⟩
        case measure => simp [intOf]; omega
      · have t : (((T[q]'hqT).toNat : Int) != ((N[k]'hlt).toNat : Int)) = true := by
          simp only [bne_iff_ne]
          intro h; apply hc; rw [← UInt8.toNat_inj]; omega
        have HF : Hid (Lib.occAt T.data.toList (Plain.key N.data.toList) p = false) := by
          have hkl : k < N.data.toList.length := by simpa using hlt
          refine occ_false_at hkl ?_
          rw [← hq, gT, gN]
          intro h
          exact hc (Option.some.inj h)
        clear hc HA gT gN hq
        go_wp2_with fail
        go_region
        go_wp2_with fail
        go_ret
        exact ⟨ret_bool HF.out.symm, n + 1, rfl⟩
    · have hkN : k = N.size := by omega
      have hpN : p + N.size < T.size := by omega
      have hpN' : (p : Int) + N.size < T.size := by omega
      have hNl : N.data.toList.length = N.size := by simp
      have HF : Hid (Lib.occAt T.data.toList (Plain.key N.data.toList) p = (((T[p + N.size]'hpN).toNat : Int) == 58)) := by
        refine Hid.mk' ?_
        have gE : T.data.toList[p + N.data.toList.length]? = some (T[p + N.size]'hpN) := by rw [hNl]; exact get? T _ hpN
        rw [Bool.eq_iff_iff, Plain.occ_iff, gE]
        simp only [beq_iff_eq]
        constructor
        · rintro ⟨_, h⟩
          rw [Option.some.inj h]; rfl
        · intro h
          refine ⟨fun i hi => HA.out i hi (by omega), ?_⟩
          congr 1
          rw [← UInt8.toNat_inj]
          simp
          omega
      clear HA hkN hNl
      go_wp2_with fail
      go_ret
      exact ⟨ret_bool HF.out.symm, n, rfl⟩

/-- The end of the value, byte by byte. -/
theorem tw_at {T : ByteArray} {st e0 : Nat} (h1 : st ≤ e0) (h2 : e0 ≤ T.size) (h3 : ∀ (i : Nat) (h : i < T.size), st ≤ i → i < e0 → T[i] ≠ 32) (h4 : e0 = T.size ∨ ∃ h : e0 < T.size, T[e0]'h = 32) :
    st + Plain.tw (T.data.toList.drop st) = e0 := by
  have : Plain.tw (T.data.toList.drop st) = e0 - st := by
    refine Plain.tw_eq (fun i hi => ?_) ?_
    · have hlt : st + i < T.size := by omega
      refine ⟨T[st + i]'hlt, ?_, h3 (st + i) hlt (by omega) (by omega)⟩
      rw [List.getElem?_drop]
      exact get? T _ hlt
    · rw [List.getElem?_drop, show st + (e0 - st) = e0 from by omega]
      rcases h4 with h | ⟨h, h5⟩
      · left
        rw [List.getElem?_eq_none_iff]
        simp
        omega
      · right
        rw [get? T e0 h, h5]
  omega

theorem not_good_far {T N : List UInt8} {q : Nat} (h : T.length < q + (N.length + 1)) : Plain.good T (Plain.key N) q = false := by
  rw [← Bool.not_eq_true]
  intro hg
  have := Plain.good_le hg
  omega

set_option maxHeartbeats 2000000 in
theorem sc10 (T N : ByteArray) (w : World) (hT : T.size ≤ 1000000) (hN : N.size ≤ 1000000) :
    Calls Try.prog 10 #[.string T, .string N] w fun e w' => e = .returned (.tuple #[.int .i64 (Plain.rS T.data.toList N.data.toList), .int .i64 (Plain.rE T.data.toList N.data.toList), .bool (Plain.rB T.data.toList N.data.toList)]) ∧ ∃ n, w' = w.drewN n := by
  have hNl : N.data.toList.length = N.size := by simp
  have hTl : T.data.toList.length = T.size := by simp
  have HNl := Hid.mk' hNl
  have HTl := Hid.mk' hTl
  clear hNl hTl
  go_enter Try.func10, Try.ntmps10
  go_wp2_with fail
  go_loopw [8] (fun f wr => ∃ k n : Nat, f = .int .i64 k ∧ k ≤ T.size + 1 ∧ wr = w.drewN n ∧ Hid (∀ q, q < k → Plain.good T.data.toList (Plain.key N.data.toList) q = false)) (fun f _ => T.size + 1 - (intOf f).toNat)
  case atStart => exact ⟨0, 0, rfl, Nat.zero_le _, rfl, fun _ h => absurd h (Nat.not_lt_zero _)⟩
  case round =>
    obtain ⟨k, n, rfl, hk, rfl, HA⟩ := hrel
    by_cases hle : k + (N.size + 1) ≤ T.size
    · have hle' : (k : Int) + (N.size + 1) ≤ T.size := by omega
      by_cases hbd : Plain.bnd T.data.toList k = true
      · have hbd2 : ¬ (0 < (k : Int)) ∨ (0 < (k : Int) ∧ (1 : Int) ≤ k ∧ ∃ hp1 : k - 1 < T.size, (((T[k - 1]'hp1).toNat : Int) != 32) = false) := by
          by_cases h0 : k = 0
          · exact .inl (by omega)
          · right
            simp only [Plain.bnd, Bool.or_eq_true, beq_iff_eq, h0, false_or] at hbd
            have hp1 : k - 1 < T.size := by omega
            refine ⟨by omega, by omega, hp1, ?_⟩
            rw [get? T (k - 1) hp1] at hbd
            rw [Option.some.inj hbd]
            rfl
        have cK := fun W => ka16 T N k W hT hle
        cases ho : Lib.occAt T.data.toList (Plain.key N.data.toList) k
        · rw [ho] at cK
          have HN : Hid (∀ q, q < k + 1 → Plain.good T.data.toList (Plain.key N.data.toList) q = false) := by
            intro q hq
            by_cases e : q = k
            · subst e; simp [Plain.good, ho]
            · exact HA.out q (by omega)
          clear ho HA hbd
          rcases hbd2 with t0 | ⟨t0, q1, hp1, t32⟩
          all_goals
            go_wp2_with (go_at_call 16; refine (cK _).mono ?_; rintro e w' ⟨rfl, m, rfl⟩)
            go_roundw
            case rel => exact ⟨k + 1, n + m, by go_num, by omega, rfl, HN⟩
            case measure => simp [intOf]; omega
        · rw [ho] at cK
          have HG : Hid (Plain.good T.data.toList (Plain.key N.data.toList) k = true) := Hid.mk' (by simp [Plain.good, hbd, ho])
          obtain ⟨st, hst⟩ : ∃ st, st = k + (N.size + 1) := ⟨_, rfl⟩
          have HRS : Hid (Plain.rS T.data.toList N.data.toList = (st : Int) ∧ Plain.rE T.data.toList N.data.toList = (Plain.endAt T.data.toList N.data.toList st : Int) ∧ Plain.rB T.data.toList N.data.toList = true) := by
            have := Plain.res_some HG.out HA.out
            rw [HNl.out, ← hst] at this
            exact this
          have HE : Hid (Plain.endAt T.data.toList N.data.toList st = if (N.toList == [84, 101, 120, 116]) then T.size else st + Plain.tw (T.data.toList.drop st)) := by
            refine Hid.mk' ?_
            rw [Plain.endAt, HTl.out, isText_eq]
          have HST := Hid.mk' hst
          have hstT : st ≤ T.size := by omega
          clear ho HA hbd HG hst
          cases htx : (N.toList == [84, 101, 120, 116])
          · rw [htx] at HE
            rcases hbd2 with t0 | ⟨t0, q1, hp1, t32⟩
            all_goals
              go_wp2_with (go_at_call 16; refine (cK _).mono ?_; rintro e w' ⟨rfl, m, rfl⟩)
              go_loop [10] (fun e => ∃ e0 : Nat, e = .int .i64 e0 ∧ st ≤ e0 ∧ e0 ≤ T.size ∧ Hid (∀ (i : Nat) (h : i < T.size), st ≤ i → i < e0 → T[i] ≠ 32)) (fun e => T.size - (intOf e).toNat)
              case atStart => exact ⟨st, by have := HST.out; go_num, Nat.le_refl _, hstT, fun i h h1 h2 => absurd h2 (by omega)⟩
              case round =>
                obtain ⟨e0, rfl, hse, heT, HS⟩ := hrel
                by_cases hlt : e0 < T.size
                · by_cases hc : T[e0]'hlt = 32
                  · have t : (((T[e0]'hlt).toNat : Int) != 32) = false := by rw [hc]; rfl
                    have HF : Hid (st + Plain.tw (T.data.toList.drop st) = e0) := tw_at hse heT HS.out (.inr ⟨hlt, hc⟩)
                    clear hc HS
                    go_wp2_with fail
                    go_ret3
                    obtain ⟨r1, r2, r3⟩ := HRS.out
                    have hst := HST.out
                    have he := HE.out
                    simp only [Bool.false_eq_true, if_false, HF.out] at he
                    exact ⟨ret3 (by rw [r1]; omega) (by rw [r2, he]) r3.symm, _, rfl⟩
                  · have t : (((T[e0]'hlt).toNat : Int) != 32) = true := by
                      simp only [bne_iff_ne]
                      intro h; apply hc; rw [← UInt8.toNat_inj]; simp; omega
                    have HS2 : Hid (∀ (i : Nat) (h : i < T.size), st ≤ i → i < e0 + 1 → T[i] ≠ 32) := by
                      intro i h h1 h2
                      by_cases e : i = e0
                      · subst e; exact hc
                      · exact HS.out i h h1 (by omega)
                    clear hc HS
                    go_wp2_with fail
                    go_round
                    case rel => exact ⟨e0 + 1, by go_num, by omega, by omega, HS2⟩
                    case measure => simp [intOf]; omega
                · have HF : Hid (st + Plain.tw (T.data.toList.drop st) = e0) := tw_at hse heT HS.out (.inl (by omega))
                  clear HS
                  go_wp2_with fail
                  go_ret3
                  obtain ⟨r1, r2, r3⟩ := HRS.out
                  have hst := HST.out
                  have he := HE.out
                  simp only [Bool.false_eq_true, if_false, HF.out] at he
                  exact ⟨ret3 (by rw [r1]; omega) (by rw [r2, he]) r3.symm, _, rfl⟩
          · rw [htx] at HE
            rcases hbd2 with t0 | ⟨t0, q1, hp1, t32⟩
            all_goals
              go_wp2_with (go_at_call 16; refine (cK _).mono ?_; rintro e w' ⟨rfl, m, rfl⟩)
              go_ret3
              obtain ⟨r1, r2, r3⟩ := HRS.out
              have hst := HST.out
              have he := HE.out
              simp only [if_true] at he
              exact ⟨ret3 (by rw [r1]; omega) (by rw [r2, he]) r3.symm, _, rfl⟩
      · have hbd2 : (0 < (k : Int)) ∧ (1 : Int) ≤ k ∧ ∃ hp1 : k - 1 < T.size, (((T[k - 1]'hp1).toNat : Int) != 32) = true := by
          simp only [Plain.bnd, Bool.or_eq_true, beq_iff_eq, not_or] at hbd
          obtain ⟨h0, hbd⟩ := hbd
          have hp1 : k - 1 < T.size := by omega
          refine ⟨by omega, by omega, hp1, ?_⟩
          rw [get? T (k - 1) hp1] at hbd
          simp only [bne_iff_ne]
          intro h
          apply hbd
          congr 1
          rw [← UInt8.toNat_inj]
          simp
          omega
        obtain ⟨t0, q1, hp1, t32⟩ := hbd2
        have HN : Hid (∀ q, q < k + 1 → Plain.good T.data.toList (Plain.key N.data.toList) q = false) := by
          intro q hq
          by_cases e : q = k
          · subst e
            simp [Plain.good, hbd]
          · exact HA.out q (by omega)
        clear hbd HA
        go_wp2_with fail
        go_roundw
        case rel => exact ⟨k + 1, n, by go_num, by omega, rfl, HN⟩
        case measure => simp [intOf]; omega
    · have hle' : ¬ (k : Int) + (N.size + 1) ≤ T.size := by omega
      have HR : Hid (∀ q, Plain.good T.data.toList (Plain.key N.data.toList) q = false) := by
        intro q
        by_cases hq : q < k
        · exact HA.out q hq
        · refine not_good_far ?_
          rw [HTl.out, HNl.out]
          omega
      clear HA
      go_wp2_with fail
      go_ret3
      obtain ⟨r1, r2, r3⟩ := Plain.res_none HR.out
      exact ⟨ret3 r1.symm r2.symm r3.symm, n, rfl⟩

end Go.Proofs.Qxb6602263a
