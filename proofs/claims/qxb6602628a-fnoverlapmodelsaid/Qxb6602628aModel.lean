/-
  THE WALK of modelOverlap.
-/
import Derived.Test.Qxb6602628aScan
import Derived.Test.Qxb6602628aSplit
import Derived.Test.Qxb6602628aLoop
import Derived.Deep.QuietTactic
import Derived.BigQuiet
namespace Go.Proofs.Qxb6602628a
open Go.RowKit

theorem bcell {W w1 : World} (hb : Below W.heap.size W w1) {b : Nat} (h : b < W.heap.size) (o : Nat) : w1.cell? ⟨b, o, none⟩ = W.cell? ⟨b, o, none⟩ := hb.cell (p := ⟨b, o, none⟩) h

theorem below_drewN {B : Nat} {W w : World} (h : Below B W w) : ∀ n, Below B W (w.drewN n)
  | 0 => h
  | n + 1 => (below_drewN h n).drew

set_option maxHeartbeats 4000000 in
set_option maxRecDepth 100000 in
theorem md10 (sa sb : ByteArray) (w : World) (ha : sa.size ≤ 1000000) (hb : sb.size ≤ 1000000) (va : Plain.vf (Plain.toks sa.data.toList) = true) (vb : Plain.vf (Plain.toks sb.data.toList) = true) :
    Calls Try.prog 10 #[.string sa, .string sb] w fun e w' => e = .returned (.bool (Plain.mdl (Plain.toks sa.data.toList) (Plain.toks sb.data.toList))) ∧ Below w.heap.size w w' := by
  have cA := sv7 sa w ha
  have cB := sv7 sb w hb
  rw [va] at cA
  rw [vb] at cB
  have nA := Plain.toks_ne sa.data.toList
  have nB := Plain.toks_ne sb.data.toList
  have sA := sd13 sa w ha
  have sB := fun W => sd13 sb W hb
  have lA := Plain.toks_len sa.data.toList
  have lB := Plain.toks_len sb.data.toList
  have hlA : sa.data.toList.length = sa.size := by simp
  have hlB : sb.data.toList.length = sb.size := by simp
  rw [hlA] at lA
  rw [hlB] at lB
  clear va vb hlA hlB
  generalize Plain.toks sa.data.toList = A at nA sA lA ⊢
  generalize Plain.toks sb.data.toList = B at nB sB lB ⊢
  go_enter Try.func10, Try.ntmps10
  go_wp2_with fail
  refine cA.mono ?_
  rintro e w' ⟨rfl, hw⟩
  subst hw
  clear cA
  go_wp2_with fail
  refine cB.mono ?_
  rintro e w' ⟨rfl, hw⟩
  subst hw
  clear cB
  go_wp2_with fail
  refine sA.mono ?_
  rintro e W1 ⟨v1, rfl, o1⟩
  clear sA
  obtain ⟨g1, cap1, rfl, q1, q1', qc1, z1⟩ := o1.open nA
  go_wp2_with fail
  refine (sB _).mono ?_
  rintro e W2 ⟨v2, rfl, o2⟩
  clear sB
  obtain ⟨g2, cap2, rfl, q2, q2', qc2, z2⟩ := o2.open nB
  have hb1 := o1.2.1
  have hb2 := o2.2.1
  have HBl : Hid (Below w'.heap.size w' W2) := hb1.trans (hb2.mono hb1.size)
  have z1' : ∀ j, j < A.length → W2.cell? ⟨g1, j, none⟩ = some (.string ⟨(A.getD j []).toArray⟩) := fun j hj => (bcell hb2 q1' j).trans (z1 j hj)
  clear z1 o1 o2 hb1 hb2 q1 q1' q2 q2'
  obtain ⟨la, hla⟩ : ∃ la, A.length = la + 1 := ⟨A.length - 1, by have := List.length_pos_iff.2 nA; omega⟩
  obtain ⟨lb, hlb⟩ : ∃ lb, B.length = lb + 1 := ⟨B.length - 1, by have := List.length_pos_iff.2 nB; omega⟩
  have HM := Hid.mk' (Plain.mdl_mdF hla hlb)
  rw [hla] at z1' qc1 lA
  rw [hlb] at z2 qc2 lB
  rw [hla, hlb]
  obtain ⟨fa, hfa⟩ : ∃ fa : Nat → List UInt8, fa = fun j => A.getD j [] := ⟨_, rfl⟩
  obtain ⟨fb, hfb⟩ : ∃ fb : Nat → List UInt8, fb = fun j => B.getD j [] := ⟨_, rfl⟩
  have y1 : ∀ j, j < la + 1 → W2.cell? ⟨g1, j, none⟩ = some (.string ⟨(fa j).toArray⟩) := by rw [hfa]; exact z1'
  have y2 : ∀ j, j < lb + 1 → W2.cell? ⟨g2, j, none⟩ = some (.string ⟨(fb j).toArray⟩) := by rw [hfb]; exact z2
  have HM2 : Hid (Plain.mdl A B = Plain.mdF fa fb la lb (fa la == [62]) (fb lb == [62])) := by
    rw [hfa, hfb]; exact HM.out
  have hcA := y1 la (by omega)
  have hcB := y2 lb (by omega)
  have Y1 := Hid.mk' y1
  have Y2 := Hid.mk' y2
  have hla1 : la ≤ 1000001 := by omega
  have hlb1 : lb ≤ 1000001 := by omega
  clear z1' z2 y1 y2 HM hfa hfb hla hlb nA nB lA lB
  cases ta : (fa la == [62])
  · cases tb : (fb lb == [62])
    · rw [ta, tb] at HM2
      by_cases hll : la = lb
      · have hne : ((la : Int) + 1 != (lb : Int) + 1) = false := by simp [hll]
        have hl1 : la ≤ lb := by omega
        have hl2 : ¬ lb < la := by omega
        have HLL := Hid.mk' hll
        clear hll
        go_wp2_with fail
        go_loopw [14] (fun iv wr => ∃ i n : Nat, iv = .int .i64 i ∧ i ≤ (la + 1) ∧ wr = W2.drewN n ∧ Hid (∀ j, j < i → Plain.meet (fa j) (fb j) = true)) (fun iv _ => (la + 1) - (intOf iv).toNat)
        case atStart => exact ⟨0, 0, rfl, Nat.zero_le _, rfl, fun _ h => absurd h (Nat.not_lt_zero _)⟩
        case round =>
          obtain ⟨i, n, rfl, hiN, rfl, HA⟩ := hrel
          by_cases hin : i < (la + 1)
          · have x1 := Y1.out i (by omega)
            have x2 := Y2.out i (by omega)
            have i1 : (i : Int) < (la : Int) + 1 := by omega
            have i2 : (i : Int) < (lb : Int) + 1 := by omega
            rcases meet_cases (fa i) (fb i) with ⟨hme, hor⟩ | ⟨hme, m1, m2, m3⟩
            · have HN : Hid (∀ j, j < i + 1 → Plain.meet (fa j) (fb j) = true) := by
                intro j hj
                by_cases e : j = i
                · subst e; exact hme
                · exact HA.out j (by omega)
              clear hme HA
              rcases hor with m1 | ⟨m1, m2⟩ | ⟨m1, m2, m3⟩
              all_goals
                have b1 : (fa i != fb i) = !(fa i == fb i) := rfl
                have b2 : (fa i != [42]) = !(fa i == [42]) := rfl
                have b3 : (fb i != [42]) = !(fb i == [42]) := rfl
                simp only [m1] at b1
                try simp only [m2] at b2
                try simp only [m3] at b3
                go_wp2_with fail
                go_region
                go_wp2_with fail
                go_roundw
                case rel => exact ⟨i + 1, n + 1, by go_num, by omega, rfl, HN⟩
                case measure => simp [intOf]; omega
            · have HF : Hid (Plain.mdF fa fb la lb false false = false) := Plain.mdF_at (i := i) (by simp [Plain.stop]; omega) hme
              have b1 : (fa i != fb i) = true := by simp only [bne, m1]; rfl
              have b2 : (fa i != [42]) = true := by simp only [bne, m2]; rfl
              have b3 : (fb i != [42]) = true := by simp only [bne, m3]; rfl
              clear hme HA
              go_wp2_with fail
              go_region
              go_wp2_with fail
              go_ret
              exact ⟨ret_bool (HM2.out.trans HF.out).symm, (below_drewN HBl.out _)⟩
          · have HF : Hid (Plain.mdF fa fb la lb false false = true) := Plain.mdF_all (by intro h1 h2; exact HLL.out) (by intro h1 h2; cases h1) (by intro h1 h2; cases h2) (fun j hj => HA.out j (by simp [Plain.stop] at hj; omega))
            clear HA
            go_wp2_with fail
            go_ret
            exact ⟨ret_bool (HM2.out.trans HF.out).symm, (below_drewN HBl.out _)⟩
      · have hne : ((la : Int) + 1 != (lb : Int) + 1) = true := by simp only [bne_iff_ne]; omega
        have HF : Hid (Plain.mdF fa fb la lb false false = false) := Plain.mdF_no1 hll
        clear hll
        go_wp2_with fail
        go_ret
        exact ⟨ret_bool (HM2.out.trans HF.out).symm, HBl.out⟩
    · rw [ta, tb] at HM2
      by_cases hll : la < lb
      · have HF : Hid (Plain.mdF fa fb la lb false true = false) := Plain.mdF_no3 hll
        go_wp2_with fail
        go_ret
        exact ⟨ret_bool (HM2.out.trans HF.out).symm, HBl.out⟩
      · have hl1 : lb ≤ la := by omega
        have hl2 : (lb : Int) < (la : Int) + 1 := by omega
        go_wp2_with fail
        go_loopw [14] (fun iv wr => ∃ i n : Nat, iv = .int .i64 i ∧ i ≤ lb ∧ wr = W2.drewN n ∧ Hid (∀ j, j < i → Plain.meet (fa j) (fb j) = true)) (fun iv _ => lb - (intOf iv).toNat)
        case atStart => exact ⟨0, 0, rfl, Nat.zero_le _, rfl, fun _ h => absurd h (Nat.not_lt_zero _)⟩
        case round =>
          obtain ⟨i, n, rfl, hiN, rfl, HA⟩ := hrel
          by_cases hin : i < lb
          · have x1 := Y1.out i (by omega)
            have x2 := Y2.out i (by omega)
            have i1 : (i : Int) < (la : Int) + 1 := by omega
            have i2 : (i : Int) < (lb : Int) + 1 := by omega
            rcases meet_cases (fa i) (fb i) with ⟨hme, hor⟩ | ⟨hme, m1, m2, m3⟩
            · have HN : Hid (∀ j, j < i + 1 → Plain.meet (fa j) (fb j) = true) := by
                intro j hj
                by_cases e : j = i
                · subst e; exact hme
                · exact HA.out j (by omega)
              clear hme HA
              rcases hor with m1 | ⟨m1, m2⟩ | ⟨m1, m2, m3⟩
              all_goals
                have b1 : (fa i != fb i) = !(fa i == fb i) := rfl
                have b2 : (fa i != [42]) = !(fa i == [42]) := rfl
                have b3 : (fb i != [42]) = !(fb i == [42]) := rfl
                simp only [m1] at b1
                try simp only [m2] at b2
                try simp only [m3] at b3
                go_wp2_with fail
                go_region
                go_wp2_with fail
                go_roundw
                case rel => exact ⟨i + 1, n + 1, by go_num, by omega, rfl, HN⟩
                case measure => simp [intOf]; omega
            · have HF : Hid (Plain.mdF fa fb la lb false true = false) := Plain.mdF_at (i := i) (by simp [Plain.stop]; omega) hme
              have b1 : (fa i != fb i) = true := by simp only [bne, m1]; rfl
              have b2 : (fa i != [42]) = true := by simp only [bne, m2]; rfl
              have b3 : (fb i != [42]) = true := by simp only [bne, m3]; rfl
              clear hme HA
              go_wp2_with fail
              go_region
              go_wp2_with fail
              go_ret
              exact ⟨ret_bool (HM2.out.trans HF.out).symm, (below_drewN HBl.out _)⟩
          · have HF : Hid (Plain.mdF fa fb la lb false true = true) := Plain.mdF_all (by intro h1 h2; cases h2) (by intro h1 h2; cases h1) (by intro h1 h2; omega) (fun j hj => HA.out j (by simp [Plain.stop] at hj; omega))
            clear HA
            go_wp2_with fail
            go_ret
            exact ⟨ret_bool (HM2.out.trans HF.out).symm, (below_drewN HBl.out _)⟩
  · cases tb : (fb lb == [62])
    · rw [ta, tb] at HM2
      by_cases hll : lb < la
      · have HF : Hid (Plain.mdF fa fb la lb true false = false) := Plain.mdF_no2 hll
        go_wp2_with fail
        go_ret
        exact ⟨ret_bool (HM2.out.trans HF.out).symm, HBl.out⟩
      · have hl1 : la ≤ lb := by omega
        have hl2 : ¬ (lb : Int) + 1 < (la : Int) := by omega
        go_wp2_with fail
        go_loopw [14] (fun iv wr => ∃ i n : Nat, iv = .int .i64 i ∧ i ≤ la ∧ wr = W2.drewN n ∧ Hid (∀ j, j < i → Plain.meet (fa j) (fb j) = true)) (fun iv _ => la - (intOf iv).toNat)
        case atStart => exact ⟨0, 0, rfl, Nat.zero_le _, rfl, fun _ h => absurd h (Nat.not_lt_zero _)⟩
        case round =>
          obtain ⟨i, n, rfl, hiN, rfl, HA⟩ := hrel
          by_cases hin : i < la
          · have x1 := Y1.out i (by omega)
            have x2 := Y2.out i (by omega)
            have i1 : (i : Int) < (la : Int) + 1 := by omega
            have i2 : (i : Int) < (lb : Int) + 1 := by omega
            rcases meet_cases (fa i) (fb i) with ⟨hme, hor⟩ | ⟨hme, m1, m2, m3⟩
            · have HN : Hid (∀ j, j < i + 1 → Plain.meet (fa j) (fb j) = true) := by
                intro j hj
                by_cases e : j = i
                · subst e; exact hme
                · exact HA.out j (by omega)
              clear hme HA
              rcases hor with m1 | ⟨m1, m2⟩ | ⟨m1, m2, m3⟩
              all_goals
                have b1 : (fa i != fb i) = !(fa i == fb i) := rfl
                have b2 : (fa i != [42]) = !(fa i == [42]) := rfl
                have b3 : (fb i != [42]) = !(fb i == [42]) := rfl
                simp only [m1] at b1
                try simp only [m2] at b2
                try simp only [m3] at b3
                go_wp2_with fail
                go_region
                go_wp2_with fail
                go_roundw
                case rel => exact ⟨i + 1, n + 1, by go_num, by omega, rfl, HN⟩
                case measure => simp [intOf]; omega
            · have HF : Hid (Plain.mdF fa fb la lb true false = false) := Plain.mdF_at (i := i) (by simp [Plain.stop]; omega) hme
              have b1 : (fa i != fb i) = true := by simp only [bne, m1]; rfl
              have b2 : (fa i != [42]) = true := by simp only [bne, m2]; rfl
              have b3 : (fb i != [42]) = true := by simp only [bne, m3]; rfl
              clear hme HA
              go_wp2_with fail
              go_region
              go_wp2_with fail
              go_ret
              exact ⟨ret_bool (HM2.out.trans HF.out).symm, (below_drewN HBl.out _)⟩
          · have HF : Hid (Plain.mdF fa fb la lb true false = true) := Plain.mdF_all (by intro h1 h2; cases h1) (by intro h1 h2; omega) (by intro h1 h2; cases h1) (fun j hj => HA.out j (by simp [Plain.stop] at hj; omega))
            clear HA
            go_wp2_with fail
            go_ret
            exact ⟨ret_bool (HM2.out.trans HF.out).symm, (below_drewN HBl.out _)⟩
    · rw [ta, tb] at HM2
      by_cases hll : lb < la
      · have hl2 : (lb : Int) < (la : Int) := by omega
        go_wp2_with fail
        go_loopw [14] (fun iv wr => ∃ i n : Nat, iv = .int .i64 i ∧ i ≤ lb ∧ wr = W2.drewN n ∧ Hid (∀ j, j < i → Plain.meet (fa j) (fb j) = true)) (fun iv _ => lb - (intOf iv).toNat)
        case atStart => exact ⟨0, 0, rfl, Nat.zero_le _, rfl, fun _ h => absurd h (Nat.not_lt_zero _)⟩
        case round =>
          obtain ⟨i, n, rfl, hiN, rfl, HA⟩ := hrel
          by_cases hin : i < lb
          · have x1 := Y1.out i (by omega)
            have x2 := Y2.out i (by omega)
            have i1 : (i : Int) < (la : Int) + 1 := by omega
            have i2 : (i : Int) < (lb : Int) + 1 := by omega
            rcases meet_cases (fa i) (fb i) with ⟨hme, hor⟩ | ⟨hme, m1, m2, m3⟩
            · have HN : Hid (∀ j, j < i + 1 → Plain.meet (fa j) (fb j) = true) := by
                intro j hj
                by_cases e : j = i
                · subst e; exact hme
                · exact HA.out j (by omega)
              clear hme HA
              rcases hor with m1 | ⟨m1, m2⟩ | ⟨m1, m2, m3⟩
              all_goals
                have b1 : (fa i != fb i) = !(fa i == fb i) := rfl
                have b2 : (fa i != [42]) = !(fa i == [42]) := rfl
                have b3 : (fb i != [42]) = !(fb i == [42]) := rfl
                simp only [m1] at b1
                try simp only [m2] at b2
                try simp only [m3] at b3
                go_wp2_with fail
                go_region
                go_wp2_with fail
                go_roundw
                case rel => exact ⟨i + 1, n + 1, by go_num, by omega, rfl, HN⟩
                case measure => simp [intOf]; omega
            · have HF : Hid (Plain.mdF fa fb la lb true true = false) := Plain.mdF_at (i := i) (by simp [Plain.stop]; omega) hme
              have b1 : (fa i != fb i) = true := by simp only [bne, m1]; rfl
              have b2 : (fa i != [42]) = true := by simp only [bne, m2]; rfl
              have b3 : (fb i != [42]) = true := by simp only [bne, m3]; rfl
              clear hme HA
              go_wp2_with fail
              go_region
              go_wp2_with fail
              go_ret
              exact ⟨ret_bool (HM2.out.trans HF.out).symm, (below_drewN HBl.out _)⟩
          · have HF : Hid (Plain.mdF fa fb la lb true true = true) := Plain.mdF_all (by intro h1 h2; cases h1) (by intro h1 h2; cases h2) (by intro h1 h2; cases h1) (fun j hj => HA.out j (by simp [Plain.stop] at hj; omega))
            clear HA
            go_wp2_with fail
            go_ret
            exact ⟨ret_bool (HM2.out.trans HF.out).symm, (below_drewN HBl.out _)⟩
      · have hl2 : ¬ (lb : Int) < (la : Int) := by omega
        go_wp2_with fail
        go_loopw [14] (fun iv wr => ∃ i n : Nat, iv = .int .i64 i ∧ i ≤ la ∧ wr = W2.drewN n ∧ Hid (∀ j, j < i → Plain.meet (fa j) (fb j) = true)) (fun iv _ => la - (intOf iv).toNat)
        case atStart => exact ⟨0, 0, rfl, Nat.zero_le _, rfl, fun _ h => absurd h (Nat.not_lt_zero _)⟩
        case round =>
          obtain ⟨i, n, rfl, hiN, rfl, HA⟩ := hrel
          by_cases hin : i < la
          · have x1 := Y1.out i (by omega)
            have x2 := Y2.out i (by omega)
            have i1 : (i : Int) < (la : Int) + 1 := by omega
            have i2 : (i : Int) < (lb : Int) + 1 := by omega
            rcases meet_cases (fa i) (fb i) with ⟨hme, hor⟩ | ⟨hme, m1, m2, m3⟩
            · have HN : Hid (∀ j, j < i + 1 → Plain.meet (fa j) (fb j) = true) := by
                intro j hj
                by_cases e : j = i
                · subst e; exact hme
                · exact HA.out j (by omega)
              clear hme HA
              rcases hor with m1 | ⟨m1, m2⟩ | ⟨m1, m2, m3⟩
              all_goals
                have b1 : (fa i != fb i) = !(fa i == fb i) := rfl
                have b2 : (fa i != [42]) = !(fa i == [42]) := rfl
                have b3 : (fb i != [42]) = !(fb i == [42]) := rfl
                simp only [m1] at b1
                try simp only [m2] at b2
                try simp only [m3] at b3
                go_wp2_with fail
                go_region
                go_wp2_with fail
                go_roundw
                case rel => exact ⟨i + 1, n + 1, by go_num, by omega, rfl, HN⟩
                case measure => simp [intOf]; omega
            · have HF : Hid (Plain.mdF fa fb la lb true true = false) := Plain.mdF_at (i := i) (by simp [Plain.stop]; omega) hme
              have b1 : (fa i != fb i) = true := by simp only [bne, m1]; rfl
              have b2 : (fa i != [42]) = true := by simp only [bne, m2]; rfl
              have b3 : (fb i != [42]) = true := by simp only [bne, m3]; rfl
              clear hme HA
              go_wp2_with fail
              go_region
              go_wp2_with fail
              go_ret
              exact ⟨ret_bool (HM2.out.trans HF.out).symm, (below_drewN HBl.out _)⟩
          · have HF : Hid (Plain.mdF fa fb la lb true true = true) := Plain.mdF_all (by intro h1 h2; cases h1) (by intro h1 h2; cases h2) (by intro h1 h2; cases h1) (fun j hj => HA.out j (by simp [Plain.stop] at hj; omega))
            clear HA
            go_wp2_with fail
            go_ret
            exact ⟨ret_bool (HM2.out.trans HF.out).symm, (below_drewN HBl.out _)⟩

/-- modelOverlap, whatever the two texts. -/
theorem md10_any (sa sb : ByteArray) (w : World) (ha : sa.size ≤ 1000000) (hb : sb.size ≤ 1000000) :
    Calls Try.prog 10 #[.string sa, .string sb] w fun e w' => e = .returned (.bool (Plain.vf (Plain.toks sa.data.toList) && (Plain.vf (Plain.toks sb.data.toList) && Plain.ovl (Plain.toks sa.data.toList) (Plain.toks sb.data.toList)))) ∧ Below w.heap.size w w' := by
  have cA := sv7 sa w ha
  have cB := sv7 sb w hb
  cases va : Plain.vf (Plain.toks sa.data.toList)
  · rw [va] at cA
    go_enter Try.func10, Try.ntmps10
    go_wp2_with fail
    refine cA.mono ?_
    rintro e w' ⟨rfl, hw⟩
    subst hw
    go_wp2_with fail
    go_ret
    exact ⟨rfl, Below.refl _ _⟩
  · cases vb : Plain.vf (Plain.toks sb.data.toList)
    · rw [va] at cA
      rw [vb] at cB
      go_enter Try.func10, Try.ntmps10
      go_wp2_with fail
      refine cA.mono ?_
      rintro e w' ⟨rfl, hw⟩
      subst hw
      go_wp2_with fail
      refine cB.mono ?_
      rintro e w' ⟨rfl, hw⟩
      subst hw
      go_wp2_with fail
      go_ret
      exact ⟨rfl, Below.refl _ _⟩
    · have h := md10 sa sb w ha hb va vb
      rw [Plain.mdl_ovl _ _ (Plain.toks_ne _) (Plain.toks_ne _) va vb] at h
      exact h

end Go.Proofs.Qxb6602628a
