/-
  THE WALK of decodeCanonical over a row of pieces.
-/
import Derived.Test.Qxb6602142aSmall
import Derived.Lib.BufSteps
import Derived.Lib.BufferRead
import Derived.Laws.IdiomStrings
import Derived.WalkLawsBesides
namespace Go.Proofs.Qxb6602142a
open Go.RowKit

theorem Try.info5 : (Try.prog.info? 5).map (fun i => (i.zero, i.size, i.bytes)) = some (some (.int .u8 0), 1, 1) := by kernel_rfl

theorem size_of {S : ByteArray} {l : List UInt8} (h : S.data.toList = l) : S.size = l.length := by
  rw [← h, Array.length_toList]; rfl

theorem get_of {S : ByteArray} {l : List UInt8} (h : S.data.toList = l) {k : Nat} {x : UInt8} (hx : l[k]? = some x) (hk : k < S.size) : S[k] = x := by
  subst h
  have : S.data.toList[k]? = some S[k] := by
    rw [List.getElem?_eq_getElem (by simpa using hk)]
    rfl
  rw [this] at hx
  exact Option.some.inj hx

theorem ret_str_true {a b : List UInt8} (h : a = b) : Ending.returned (.tuple #[.string ⟨a.toArray⟩, .bool true]) = .returned (.tuple #[.string ⟨b.toArray⟩, .bool true]) := by rw [h]

theorem Hid.mk' {p : Prop} (h : p) : Hid p := h

/-- 'string(out)' of a row of bytes that the call owns. -/
theorem conv_own {B : Nat} {v : Value} {n : Nat} {l : List UInt8} {W0 w : World} (h : Lib.OwnBuf B 5 v n (Lib.byteCells l) W0 w) :
    (convert 32 9 v).run Try.prog w = .ok (.string ⟨l.toArray⟩) w := by
  have hn : n = l.length := by have := h.1.1; simp [Lib.byteCells_length] at this; omega
  subst hn
  have h2 := h.1.2
  rcases h2 with ⟨rfl, h0⟩ | ⟨g, cap, cur, fz, rfl, hb, hg, _⟩
  · have : l = [] := List.eq_nil_of_length_eq_zero h0
    subst this
    exact Lib.run_convert_nil_bytes w 32 9 5 0 Try.underlying32 Try.underlying5 Try.underlying9
  · refine run_convert_bytes_back w 32 9 5 ⟨g, 0, none⟩ cap l Try.underlying32 Try.underlying5 Try.underlying9 ?_
    intro j hj
    refine h.1.cells rfl j _ ?_
    simp [Lib.byteCells, List.getElem?_eq_getElem hj]

theorem own_snoc {B : Nat} {v : Value} {acc : List UInt8} {c : UInt8} {z : Int} {W0 w : World} (hz : z = c.toNat) (h : Lib.OwnBuf B 5 v (acc.length + 1) (Lib.byteCells acc ++ [.int .u8 z]) W0 w) :
    Lib.OwnBuf B 5 v (acc ++ [c]).length (Lib.byteCells (acc ++ [c])) W0 w := by
  subst hz
  rw [Lib.byteCells_append]
  simpa [Lib.byteCells] using h

theorem own_text {B : Nat} {v : Value} {acc run : List UInt8} {s : ByteArray} {W0 w : World} (hs : s.data.toList = run) (h : Lib.OwnBuf B 5 v (acc.length + s.size) (Lib.byteCells acc ++ Lib.strCells s) W0 w) :
    Lib.OwnBuf B 5 v (acc ++ run).length (Lib.byteCells (acc ++ run)) W0 w := by
  rw [Lib.strCells_eq, hs, size_of hs] at h
  rw [Lib.byteCells_append]
  simpa using h

theorem quo_facts {S : ByteArray} {pre run post : List UInt8} {k : Nat} (hk : k = pre.length) (h : S.data.toList = pre ++ 39 :: (run ++ 39 :: post)) :
    ∃ hlen : k + 1 + run.length < S.size, (∀ h0 : k < S.size, S[k]'h0 = 39) ∧ (∀ (m : Nat) (hm : m < run.length) (hkm : k + 1 + m < S.size), S[k + 1 + m]'hkm = run[m]) ∧ S[k + 1 + run.length]'hlen = 39 ∧
      (S.extract (k + 1) (k + 1 + run.length)).data.toList = run := by
  subst hk
  have hlen : pre.length + 1 + run.length < S.size := by rw [size_of h]; simp; omega
  refine ⟨hlen, fun h0 => get_of h (by simp) h0, fun m hm hkm => ?_, ?_, ?_⟩
  · refine get_of h ?_ hkm
    rw [List.getElem?_append_right (by omega), show pre.length + 1 + m - pre.length = m + 1 from by omega]
    simp [List.getElem?_append_left, hm]
  · refine get_of h ?_ hlen
    rw [List.getElem?_append_right (by omega), show pre.length + 1 + run.length - pre.length = run.length + 1 from by omega]
    simp
  · rw [Lib.extract_data, h, show pre ++ 39 :: (run ++ 39 :: post) = (pre ++ [39]) ++ (run ++ 39 :: post) from by simp, List.drop_left' (by simp), show pre.length + 1 + run.length - (pre.length + 1) = run.length from by omega, List.take_left' rfl]

theorem slMid (s : ByteArray) (k j : Nat) (h1 : k + 1 ≤ j) (h2 : j ≤ s.size) (W : World) :
    (Instr.slice 9 (.string s) (some (.int .i64 ((k : Int) + 1))) (some (.int .i64 (j : Int))) none).run Try.prog W = .ok (.string (s.extract (k + 1) j)) W := by
  rw [run_slice_string W 9 s .i64 .i64 _ _ Try.underlying9 (by omega) (by omega) (by omega)]
  have : ((k : Int) + 1).toNat = k + 1 := by omega
  rw [this, Int.toNat_natCast]

theorem plain_tests {c : UInt8} (h : Plain.spec c = false) : ((c.toNat : Int) != 39) = true ∧ ((c.toNat : Int) == 92) = false := by
  simp only [Plain.spec, Bool.or_eq_false_iff, beq_eq_false_iff_ne] at h
  obtain ⟨h1, h2⟩ := h
  constructor
  · simp only [bne_iff_ne]
    intro h; apply h1; rw [← UInt8.toNat_inj]; simp; omega
  · simp only [beq_eq_false_iff_ne]
    intro h; apply h2; rw [← UInt8.toNat_inj]; simp; omega

set_option maxHeartbeats 2000000 in
set_option maxRecDepth 100000 in
theorem dec9 (ts : List (Option Bool × List UInt8)) (S : ByteArray) (w : World) (hS : S.data.toList = Plain.enc ts) (hs : S.size ≤ 1000000) (hok : ∀ t ∈ ts, Plain.Ok1 t) (hcan : Plain.Canon false ts) :
    Calls Try.prog 9 #[.string S] w fun e w' => e = .returned (.tuple #[.string ⟨(Plain.dec ts).toArray⟩, .bool true]) ∧ Below w.heap.size w w' := by
  obtain ⟨i0, hi, hz0, hz1, hz2⟩ := info_parts Try.info5
  have HS : Hid (S.data.toList = Plain.enc ts) := hS
  clear hS
  go_enter Try.func9, Try.ntmps9
  go_wp2_with (at_make; refine wpList_make_own _ rfl _ _ 32 rfl w.heap.size 5 i0 (.int .u8 0) 1 Try.underlying32 hi hz0 hz1 .i64 .i64 _ S.size rfl rfl rfl (by rw [hz2]; omega) (by unfold maxLen; omega) (Nat.le_refl _) ?_; intro w1 hown hgr)
  have hO : Lib.OwnBuf w.heap.size 5 (.slice (some ⟨w.heap.size, 0, none⟩) 0 S.size) 0 (Lib.byteCells []) w w1 :=
    ⟨World.ownsRowF_of hown, (Below.refl _ w).grown hgr (Nat.le_refl _) (fun k hk => by cases hk), hgr.size⟩
  clear hown hgr
  have HC := Hid.mk' hcan
  clear hcan
  go_loopw [4, 5, 6] (fun v p i wr => ∃ (k : Nat) (pre acc : List UInt8) (rest : List (Option Bool × List UInt8)) (pq : Bool), p = .bool pq ∧ i = .int .i64 k ∧ k ≤ S.size ∧ Lib.OwnBuf w.heap.size 5 v acc.length (Lib.byteCells acc) w wr ∧
      Hid (k = pre.length ∧ S.data.toList = pre ++ Plain.enc rest ∧ acc ++ Plain.dec rest = Plain.dec ts ∧ (∀ t ∈ rest, Plain.Ok1 t) ∧ Plain.Canon pq rest) ∧ acc.length ≤ k) (fun _ _ i _ => S.size - (intOf i).toNat)
  case atStart => exact ⟨0, [], [], ts, false, rfl, rfl, Nat.zero_le _, hO, ⟨rfl, by simpa using HS.out, by simp, hok, HC.out⟩, by simp⟩
  case round =>
    obtain ⟨k, pre, acc, rest, pq, rfl, rfl, hk, hB, HR, hal⟩ := hrel
    clear hO HC HS hok
    cases rest with
    | nil =>
      have hkS : k = S.size := by
        obtain ⟨h1, h2, _⟩ := HR.out
        rw [size_of h2, h1]; simp [Plain.enc]
      have hnl : ¬ (k : Int) < S.size := by omega
      have HT : Hid (acc = Plain.dec ts) := by
        obtain ⟨_, _, h3, _⟩ := HR.out
        refine Hid.mk' ?_
        simpa [Plain.dec] using h3
      have hcv := conv_own hB
      clear hkS HR
      go_wp2
      go_ret2
      exact ⟨ret_str_true HT.out, hB.2.1⟩
    | cons t rest' =>
      obtain ⟨h1, h2, h3, h4, h5⟩ := HR.out
      clear HR
      rcases h4 t (by simp) with ⟨hq, hr⟩ | ⟨c, rfl, hc⟩ | ⟨c, rfl, hc⟩
      · obtain ⟨q, run⟩ := t
        simp only at hq hr
        subst hq
        obtain ⟨hpq, hne⟩ := h5.1 rfl
        subst hpq
        obtain ⟨hlen, g0, gr, ge, hex⟩ := quo_facts h1 (by simpa [Plain.enc, Plain.enc1] using h2)
        have hk0 : k < S.size := by clear h1; omega
        have g0 := g0 hk0
        have HN : Hid (k + 1 + run.length + 1 = (pre ++ 39 :: (run ++ [39])).length ∧ S.data.toList = (pre ++ 39 :: (run ++ [39])) ++ Plain.enc rest' ∧ (acc ++ run) ++ Plain.dec rest' = Plain.dec ts ∧ (∀ t ∈ rest', Plain.Ok1 t) ∧ Plain.Canon true rest') := by
          refine ⟨by simp [h1]; omega, by simpa [Plain.enc, Plain.enc1] using h2, by simpa [Plain.dec] using h3, fun t ht => h4 t (by simp [ht]), h5.2.2⟩
        clear h1 h2 h3 h4 h5
        have hn0 : 0 < run.length := List.length_pos_iff.2 hne
        have HX : Hid ((S.extract (k + 1) (k + 1 + run.length)).data.toList = run) := hex
        have GR : Hid (∀ (m : Nat) (hm : m < run.length) (hkm : k + 1 + m < S.size), S[k + 1 + m]'hkm = run[m]) := gr
        have GE : Hid (S[k + 1 + run.length]'hlen = 39) := ge
        clear hex gr ge hne
        go_wp2_with fail
        go_loop [9] (fun j => ∃ j0 m : Nat, j = .int .i64 j0 ∧ Hid (j0 = k + 1 + m) ∧ m ≤ run.length) (fun j => S.size - (intOf j).toNat)
        case atStart => exact ⟨k + 1, 0, by go_num, rfl, Nat.zero_le _⟩
        case round =>
          obtain ⟨j0, m, rfl, HJ, hm⟩ := hrel
          have hj0 : j0 < S.size := by have := HJ.out; omega
          by_cases hlt : m < run.length
          · have gj : S[j0]'hj0 = run[m] := by
              have hj := HJ.out
              subst hj
              exact GR.out m hlt hj0
            obtain ⟨t39, t92⟩ := plain_tests (hr _ (List.getElem_mem hlt))
            go_wp2_with fail
            go_round
            case rel => exact ⟨j0 + 1, m + 1, by go_num, Hid.mk' (by have := HJ.out; omega), by omega⟩
            case measure => simp [intOf]; omega
          · have hm' : m = run.length := by omega
            subst hm'
            have gj : S[j0]'hj0 = 39 := by
              have hj := HJ.out
              subst hj
              exact GE.out
            have hx : (S.extract (k + 1) j0).data.toList = run := by
              have hj := HJ.out
              subst hj
              exact HX.out
            have HX2 := Hid.mk' hx
            clear hx
            have hj1 : (k : Int) + 1 < j0 := by have := HJ.out; omega
            have hj2 : k + 1 ≤ j0 := by omega
            have hjne : ((j0 : Int) == (k : Int) + 1) = false := by simp only [beq_eq_false_iff_ne]; omega
            have HN2 : Hid (j0 + 1 = (pre ++ 39 :: (run ++ [39])).length ∧ S.data.toList = (pre ++ 39 :: (run ++ [39])) ++ Plain.enc rest' ∧ (acc ++ run) ++ Plain.dec rest' = Plain.dec ts ∧ (∀ t ∈ rest', Plain.Ok1 t) ∧ Plain.Canon true rest') := by
              have hj := HJ.out
              subst hj
              exact HN.out
            have hal2 : (acc ++ run).length ≤ j0 + 1 := by have := HJ.out; simp; omega
            clear HN HJ
            have hsl := slMid S k j0 hj2 (by omega)
            have hxs : (S.extract (k + 1) j0).size ≤ 1000000 := by
              rw [size_of HX2.out]
              omega
            go_wp2_with (at_builtin; refine Lib.wpList_append_text rfl (.tmp 76) (.tmp 81) 32 9 rfl w.heap.size 5 i0 Try.underlying32 Try.underlying9 hi hz0 hz1 hz2 _ _ _ rfl w (by exact hB) _ rfl (by omega) ?_; intro v' w2 hB2)
            go_roundw
            case rel => exact ⟨j0 + 1, _, _, rest', true, rfl, by go_num, by omega, own_text HX2.out hB2, HN2, hal2⟩
            case measure => simp [intOf]; omega
      · have hk1 : k + 1 < S.size := by rw [size_of h2, h1]; simp [Plain.enc, Plain.enc1]
        have hk0 : k < S.size := by clear h1; omega
        have g0 : S[k]'hk0 = 92 := get_of h2 (by rw [h1]; simp [Plain.enc, Plain.enc1]) hk0
        have g1 : S[k + 1]'hk1 = c := get_of h2 (by rw [h1]; simp [Plain.enc, Plain.enc1]) hk1
        have HN : Hid (k + 2 = (pre ++ [92, c]).length ∧ S.data.toList = (pre ++ [92, c]) ++ Plain.enc rest' ∧ (acc ++ [c]) ++ Plain.dec rest' = Plain.dec ts ∧ (∀ t ∈ rest', Plain.Ok1 t) ∧ Plain.Canon false rest') := by
          refine ⟨by simp [h1], by simpa [Plain.enc, Plain.enc1] using h2, by simpa [Plain.dec] using h3, fun t ht => h4 t (by simp [ht]), h5.2.2⟩
        clear h1 h2 h3 h4 h5
        have hc' : c = 39 ∨ c = 92 := by simpa [Plain.spec] using hc
        clear hc
        rcases hc' with rfl | rfl
        all_goals
          go_wp2_with (at_builtin; refine Lib.wpList_append_byte rfl (.tmp 37) (.tmp 39) 32 rfl w.heap.size 5 i0 Try.underlying32 hi hz0 hz1 hz2 _ _ _ rfl w _ _ (by exact hB) rfl (by omega) ?_; intro v' w2 hB2)
          go_roundw
          case rel => exact ⟨k + 2, _, _, rest', false, rfl, by go_num, by omega, own_snoc rfl hB2, HN, by simp; omega⟩
          case measure => simp [intOf]; omega
      · exact absurd rfl h5.2.1
end Go.Proofs.Qxb6602142a
