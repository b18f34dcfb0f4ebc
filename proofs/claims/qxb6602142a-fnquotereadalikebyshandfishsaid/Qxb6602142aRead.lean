/-
  THE WALK of readWord over a row of pieces.
-/
import Derived.Test.Qxb6602142aDecode
namespace Go.Proofs.Qxb6602142a
open Go.RowKit

theorem plain_tests2 {c : UInt8} (h : Plain.spec c = false) : ((c.toNat : Int) == 39) = false := by
  have := (plain_tests h).1
  simpa [bne] using this

theorem take_snoc' (l : List UInt8) (m : Nat) (h : m < l.length) : l.take (m + 1) = l.take m ++ [l[m]] := by
  rw [List.take_succ_eq_append_getElem h]

set_option maxHeartbeats 4000000 in
set_option maxRecDepth 100000 in
theorem rd11 (fish : Bool) (ts : List (Option Bool × List UInt8)) (S : ByteArray) (w : World) (hS : S.data.toList = Plain.enc ts) (hs : S.size ≤ 1000000) (hs0 : 0 < S.size) (hok : ∀ t ∈ ts, Plain.Ok1 t) :
    Calls Try.prog 11 #[.string S, .bool fish] w fun e w' => e = .returned (.tuple #[.string ⟨(Plain.dec ts).toArray⟩, .bool true]) ∧ Below w.heap.size w w' := by
  obtain ⟨i0, hi, hz0, hz1, hz2⟩ := info_parts Try.info5
  have HS : Hid (S.data.toList = Plain.enc ts) := hS
  have hsn : ((S.size : Int) == 0) = false := by simp only [beq_eq_false_iff_ne]; omega
  clear hS
  go_enter Try.func11, Try.ntmps11
  go_wp2_with (at_make; refine wpList_make_own _ rfl _ _ 32 rfl w.heap.size 5 i0 (.int .u8 0) 1 Try.underlying32 hi hz0 hz1 .i64 .i64 _ S.size rfl rfl rfl (by rw [hz2]; omega) (by unfold maxLen; omega) (Nat.le_refl _) ?_; intro w1 hown hgr)
  have hO : Lib.OwnBuf w.heap.size 5 (.slice (some ⟨w.heap.size, 0, none⟩) 0 S.size) 0 (Lib.byteCells []) w w1 :=
    ⟨World.ownsRowF_of hown, (Below.refl _ w).grown hgr (Nat.le_refl _) (fun k hk => by cases hk), hgr.size⟩
  clear hown hgr
  go_loopw [6, 7] (fun v i wr => ∃ (k : Nat) (pre acc : List UInt8) (rest : List (Option Bool × List UInt8)), i = .int .i64 k ∧ k ≤ S.size ∧ Lib.OwnBuf w.heap.size 5 v acc.length (Lib.byteCells acc) w wr ∧
      Hid (k = pre.length ∧ S.data.toList = pre ++ Plain.enc rest ∧ acc ++ Plain.dec rest = Plain.dec ts ∧ (∀ t ∈ rest, Plain.Ok1 t)) ∧ acc.length ≤ k) (fun _ i _ => S.size - (intOf i).toNat)
  case atStart => exact ⟨0, [], [], ts, rfl, Nat.zero_le _, hO, ⟨rfl, by simpa using HS.out, by simp, hok⟩, by simp⟩
  case round =>
    obtain ⟨k, pre, acc, rest, rfl, hk, hB, HR, hal⟩ := hrel
    clear hO HS hok
    cases rest with
    | nil =>
      have hkS : k = S.size := by
        obtain ⟨h1, h2, _⟩ := HR.out
        rw [size_of h2, h1]; simp [Plain.enc]
      have hnl : ¬ (k : Int) < S.size := by omega
      have HT : Hid (acc = Plain.dec ts) := by
        obtain ⟨_, _, h3, _⟩ := HR.out
        refine Hid.mk' ?_
        simpa [Plain.dec] using h3
      have hcv := conv_own hB
      clear hkS HR
      go_wp2
      go_ret2
      exact ⟨ret_str_true HT.out, hB.2.1⟩
    | cons t rest' =>
      obtain ⟨h1, h2, h3, h4⟩ := HR.out
      clear HR
      rcases h4 t (by simp) with ⟨hq, hr⟩ | ⟨c, rfl, hc⟩ | ⟨c, rfl, hc⟩
      · obtain ⟨q, run⟩ := t
        simp only at hq hr
        subst hq
        obtain ⟨hlen, g0, gr, ge, _⟩ := quo_facts h1 (by simpa [Plain.enc, Plain.enc1] using h2)
        have hk0 : k < S.size := by clear h1; omega
        have g0 := g0 hk0
        have HN : Hid (k + 1 + run.length + 1 = (pre ++ 39 :: (run ++ [39])).length ∧ S.data.toList = (pre ++ 39 :: (run ++ [39])) ++ Plain.enc rest' ∧ (acc ++ run) ++ Plain.dec rest' = Plain.dec ts ∧ (∀ t ∈ rest', Plain.Ok1 t)) := by
          refine ⟨by simp [h1]; omega, by simpa [Plain.enc, Plain.enc1] using h2, by simpa [Plain.dec] using h3, fun t ht => h4 t (by simp [ht])⟩
        clear h1 h2 h3 h4
        have GR : Hid (∀ (m : Nat) (hm : m < run.length) (hkm : k + 1 + m < S.size), S[k + 1 + m]'hkm = run[m]) := gr
        have GE : Hid (S[k + 1 + run.length]'hlen = 39) := ge
        clear gr ge
        go_wp2_with fail
        go_loopw [6, 10] (fun v j wx => ∃ j0 m : Nat, j = .int .i64 j0 ∧ Hid (j0 = k + 1 + m) ∧ m ≤ run.length ∧ Lib.OwnBuf w.heap.size 5 v (acc ++ run.take m).length (Lib.byteCells (acc ++ run.take m)) w wx) (fun _ j _ => S.size - (intOf j).toNat)
        case atStart => exact ⟨k + 1, 0, by go_num, rfl, Nat.zero_le _, by simpa using hB⟩
        case round =>
          obtain ⟨j0, m, rfl, HJ, hm, hB1⟩ := hrel
          clear hB
          have hj0 : j0 < S.size := by have := HJ.out; omega
          have hal1 : (acc ++ run.take m).length ≤ 1000000 := by simp; omega
          by_cases hlt : m < run.length
          · have gj : S[j0]'hj0 = run[m] := by
              have hj := HJ.out
              subst hj
              exact GR.out m hlt hj0
            obtain ⟨t39, t92⟩ := plain_tests (hr _ (List.getElem_mem hlt))
            have HT : Hid (acc ++ run.take (m + 1) = acc ++ run.take m ++ [run[m]]) := by
              refine Hid.mk' ?_
              rw [take_snoc' run m hlt, List.append_assoc]
            generalize hac : acc ++ run.take m = ac at hB1 hal1 HT
            cases fish
            all_goals
              go_wp2_with (at_builtin; refine Lib.wpList_append_byte rfl (.tmp 98) (.tmp 102) 32 rfl w.heap.size 5 i0 Try.underlying32 hi hz0 hz1 hz2 _ _ _ rfl w _ _ (by exact hB1) rfl (by omega) ?_; intro v' w2 hB2)
              go_roundw
              case rel => exact ⟨j0 + 1, m + 1, by go_num, Hid.mk' (by have := HJ.out; omega), by omega, by rw [HT.out]; exact own_snoc rfl hB2⟩
              case measure => simp [intOf]; omega
          · have hm' : m = run.length := by omega
            subst hm'
            have gj : S[j0]'hj0 = 39 := by
              have hj := HJ.out
              subst hj
              exact GE.out
            rw [List.take_length] at hB1
            have HN2 : Hid (j0 + 1 = (pre ++ 39 :: (run ++ [39])).length ∧ S.data.toList = (pre ++ 39 :: (run ++ [39])) ++ Plain.enc rest' ∧ (acc ++ run) ++ Plain.dec rest' = Plain.dec ts ∧ (∀ t ∈ rest', Plain.Ok1 t)) := by
              have hj := HJ.out
              subst hj
              exact HN.out
            have hal2 : (acc ++ run).length ≤ j0 + 1 := by have := HJ.out; simp; omega
            have hkj : k < j0 := by have := HJ.out; omega
            clear HN HJ hal1
            go_wp2_with fail
            go_roundw
            case rel => exact ⟨j0 + 1, _, _, rest', by go_num, by omega, hB1, HN2, hal2⟩
            case measure => simp [intOf]; omega
      · have hk1 : k + 1 < S.size := by rw [size_of h2, h1]; simp [Plain.enc, Plain.enc1]
        have hk0 : k < S.size := by clear h1; omega
        have g0 : S[k]'hk0 = 92 := get_of h2 (by rw [h1]; simp [Plain.enc, Plain.enc1]) hk0
        have g1 : S[k + 1]'hk1 = c := get_of h2 (by rw [h1]; simp [Plain.enc, Plain.enc1]) hk1
        have HN : Hid (k + 2 = (pre ++ [92, c]).length ∧ S.data.toList = (pre ++ [92, c]) ++ Plain.enc rest' ∧ (acc ++ [c]) ++ Plain.dec rest' = Plain.dec ts ∧ (∀ t ∈ rest', Plain.Ok1 t)) := by
          refine ⟨by simp [h1], by simpa [Plain.enc, Plain.enc1] using h2, by simpa [Plain.dec] using h3, fun t ht => h4 t (by simp [ht])⟩
        clear h1 h2 h3 h4
        have hc' : c = 39 ∨ c = 92 := by simpa [Plain.spec] using hc
        clear hc
        rcases hc' with rfl | rfl
        all_goals
          go_wp2_with (at_builtin; refine Lib.wpList_append_byte rfl (.tmp 41) (.tmp 43) 32 rfl w.heap.size 5 i0 Try.underlying32 hi hz0 hz1 hz2 _ _ _ rfl w _ _ (by exact hB) rfl (by omega) ?_; intro v' w2 hB2)
          go_roundw
          case rel => exact ⟨k + 2, _, _, rest', by go_num, by omega, own_snoc rfl hB2, HN, by simp; omega⟩
          case measure => simp [intOf]; omega
      · have hk0 : k < S.size := by rw [size_of h2, h1]; simp [Plain.enc, Plain.enc1]
        have g0 : S[k]'hk0 = c := get_of h2 (by rw [h1]; simp [Plain.enc, Plain.enc1]) hk0
        have HN : Hid (k + 1 = (pre ++ [c]).length ∧ S.data.toList = (pre ++ [c]) ++ Plain.enc rest' ∧ (acc ++ [c]) ++ Plain.dec rest' = Plain.dec ts ∧ (∀ t ∈ rest', Plain.Ok1 t)) := by
          refine ⟨by simp [h1], by simpa [Plain.enc, Plain.enc1] using h2, by simpa [Plain.dec] using h3, fun t ht => h4 t (by simp [ht])⟩
        clear h1 h2 h3 h4
        obtain ⟨t39, t92⟩ := plain_tests (Plain.safe_not_spec c hc)
        have t39' := plain_tests2 (Plain.safe_not_spec c hc)
        have c8 := safe8 c
        rw [hc] at c8
        clear hc
        go_wp2_with (first | (go_at_call 8; refine (c8 _).mono ?_; rintro e w' ⟨rfl, hw8⟩; subst hw8) | (at_builtin; refine Lib.wpList_append_byte rfl (.tmp 115) (.tmp 117) 32 rfl w.heap.size 5 i0 Try.underlying32 hi hz0 hz1 hz2 _ _ _ rfl w _ _ (by exact hB) rfl (by omega) ?_; intro v' w2 hB2))
        go_roundw
        case rel => exact ⟨k + 1, _, _, rest', by go_num, by omega, own_snoc rfl hB2, HN, by simp; omega⟩
        case measure => simp [intOf]; omega

end Go.Proofs.Qxb6602142a
