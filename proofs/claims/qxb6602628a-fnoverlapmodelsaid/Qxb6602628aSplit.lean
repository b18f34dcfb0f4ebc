/-
  THE WALK of splitDots: a new slice of strings.
-/
import Derived.Test.Qxb6602628aFilter
import Derived.Deep.LoopGhost
namespace Go.Proofs.Qxb6602628a
open Go.RowKit

theorem Try.info9 : (Try.prog.info? 9).map (fun i => (i.zero, i.size, i.bytes)) = some (some (.string ⟨#[]⟩), 1, 16) := by kernel_rfl

/-- The tokens as cells. -/
def strs (ts : List (List UInt8)) : List Value := ts.map fun t => .string ⟨t.toArray⟩

/-- In w the slice v owns the tokens ts, in a block from B on; of what lay below B in W0 nothing has turned. -/
def OwnS (B : Nat) (v : Value) (ts : List (List UInt8)) (W0 w : World) : Prop :=
  w.ownsRow B 9 1 v ts.length (strs ts) ∧ Below B W0 w ∧ B ≤ w.heap.size

theorem OwnS.alloc {B : Nat} {v : Value} {ts : List (List UInt8)} {W0 w : World} (h : OwnS B v ts W0 w) (o : Obj) : OwnS B v ts W0 (w.alloc o) :=
  ⟨h.1.alloc o, h.2.1.alloc h.2.2 o, Nat.le_trans h.2.2 ((Below.refl 0 w).alloc (Nat.zero_le _) o).size⟩

theorem ba_ext {S : ByteArray} {l : List UInt8} (h : S.data.toList = l) : S = ⟨l.toArray⟩ := by
  subst h
  rfl

/-- 'out = append(out, x)': the one new string lies in the block that the statement has just laid for it. -/
theorem wpList_append_str {ops : Array Oper} {rest : List Oper} {o : Oper} {a : Act} {Q : Exit → Act → World → Prop} (hgd : o.guard = none) (s x : Operand)
    (ho : o.op = .call { callee := .builtin .append, args := #[s, x], argTypes := #[26, 26] })
    (B : Nat) (i : TypeInfo) (hi : Try.prog.info? 9 = some i) (hz : i.zero = some (.string ⟨#[]⟩)) (hsize : i.size = 1) (hby : i.bytes = 16)
    (v : Value) (ts : List (List UInt8)) (hs : a.eval s = v) (W0 w0 : World) (S : ByteArray) (c : List UInt8) (hS : S.data.toList = c) (hb : OwnS B v ts W0 w0)
    (hx : a.eval x = .slice (some ⟨w0.heap.size, 0, none⟩) 1 1) (hlen : ts.length ≤ 10000000)
    (h : ∀ v' w', OwnS B v' (ts ++ [c]) W0 w' → wpList Try.prog ops Q rest (a.put o.dst v') w') : wpList Try.prog ops Q (o :: rest) a (w0.alloc (.cells #[.string S] 9)) := by
  have hb' := hb.alloc (.cells #[.string S] 9)
  refine wpList_append_own _ hgd s x 26 ho B 9 i (.string ⟨#[]⟩) 1 16 Try.underlying26 hi hz hsize hby rfl (by decide) v ts.length (strs ts) hs hb'.1 ⟨w0.heap.size, 0, none⟩ 1 1 [.string S] hx rfl ?_ ?_ (by unfold maxLen; omega) (by omega) hb'.2.2 ?_
  · intro j u hj
    match j, hj with
    | 0, hj => simp at hj; subst hj; simp [Addr.add]
    | (j + 1), hj => simp at hj
  · intro u hu; simp at hu; subst hu; rfl
  · intro v' w' ho' hg _
    refine h v' w' ⟨?_, hb'.2.1.grown hg hb'.2.2 (fun k hk => (hb'.1.lt k hk).1), Nat.le_trans hb'.2.2 hg.size⟩
    have e : strs (ts ++ [c]) = strs ts ++ [.string S] := by
      rw [ba_ext hS]
      simp [strs]
    rw [e, List.length_append]
    exact ho'

theorem slMid (s : ByteArray) (k j : Nat) (h1 : k ≤ j) (h2 : j ≤ s.size) (W : World) :
    (Instr.slice 9 (.string s) (some (.int .i64 (k : Int))) (some (.int .i64 (j : Int))) none).run Try.prog W = .ok (.string (s.extract k j)) W := by
  rw [run_slice_string W 9 s .i64 .i64 _ _ Try.underlying9 (by omega) (by omega) (by omega), Int.toNat_natCast, Int.toNat_natCast]

theorem slFrom (s : ByteArray) (k : Nat) (h : k ≤ s.size) (W : World) :
    (Instr.slice 9 (.string s) (some (.int .i64 (k : Int))) none none).run Try.prog W = .ok (.string (s.extract k s.size)) W := by
  rw [run_slice_string_from_if W 9 s .i64 _ Try.underlying9, if_pos ⟨by omega, by omega⟩, Int.toNat_natCast]

theorem seg_data (s : ByteArray) (t i : Nat) : (s.extract t i).data.toList = Plain.seg s.data.toList t i := by
  rw [Lib.extract_data]; rfl

set_option maxHeartbeats 2000000 in
theorem sd13 (s : ByteArray) (w : World) (hs : s.size ≤ 1000000) :
    Calls Try.prog 13 #[.string s] w fun e w' => ∃ v, e = .returned v ∧ OwnS w.heap.size v (Plain.toks s.data.toList) w w' := by
  obtain ⟨i0, hi, hz0, hz1, hz2⟩ := info_parts Try.info9
  go_enter Try.func13, Try.ntmps13
  go_wp2_with fail
  go_loop [3, 4] (fun nv iv => ∃ c k : Nat, nv = .int .i64 c ∧ iv = .int .i64 k ∧ c ≤ k + 1 ∧ k ≤ s.size) (fun _ iv => s.size - (intOf iv).toNat)
  case atStart => exact ⟨1, 0, rfl, rfl, by omega, by omega⟩
  case round =>
    obtain ⟨c, k, rfl, rfl, hc, hk⟩ := hrel
    by_cases hlt : k < s.size
    · cases h46 : (((s[k]'hlt).toNat : Int) == 46)
      · go_wp2_with fail
        go_round
        case rel => exact ⟨c, k + 1, rfl, by go_num, by omega, by omega⟩
        case measure => simp [intOf]; omega
      · go_wp2_with fail
        go_round
        case rel => exact ⟨c + 1, k + 1, by go_num, by go_num, by omega, by omega⟩
        case measure => simp [intOf]; omega
    · go_wp2_with (at_make; refine wpList_make_own _ rfl _ _ 26 rfl w.heap.size 9 i0 (.string ⟨#[]⟩) 1 Try.underlying26 hi hz0 hz1 .i64 .i64 _ c rfl rfl rfl (by rw [hz2]; omega) (by unfold maxLen; omega) (Nat.le_refl _) ?_; intro w1 hown hgr)
      have hO : OwnS w.heap.size (.slice (some ⟨w.heap.size, 0, none⟩) 0 c) [] w w1 :=
        ⟨hown, (Below.refl _ w).grown hgr (Nat.le_refl _) (fun k hk => by cases hk), hgr.size⟩
      clear hown hgr
      clear hc
      go_loopw [5, 6, 7] (fun v tv iv wr => ∃ (t i : Nat) (acc : List (List UInt8)), tv = .int .i64 t ∧ iv = .int .i64 i ∧ t ≤ i ∧ i ≤ s.size ∧ OwnS w.heap.size v acc w wr ∧ acc.length ≤ t ∧ Hid (acc ++ Plain.toks (s.data.toList.drop t) = Plain.toks s.data.toList ∧ ∀ x ∈ Plain.seg s.data.toList t i, x ≠ 46)) (fun _ _ iv _ => s.size - (intOf iv).toNat)
      case atStart => exact ⟨0, 0, [], rfl, rfl, by omega, by omega, hO, by simp, ⟨by simp, by simp [Plain.seg]⟩⟩
      case round =>
        obtain ⟨t, i, acc, rfl, rfl, hti, his, hA, hal, HR⟩ := hrel
        clear hO hlt hk
        by_cases hlt : i < s.size
        · have gi := get? s i hlt
          by_cases hc : s[i]'hlt = 46
          · have t46 : (((s[i]'hlt).toNat : Int) == 46) = true := by rw [hc]; rfl
            rw [hc] at gi
            have HN : Hid ((acc ++ [Plain.seg s.data.toList t i]) ++ Plain.toks (s.data.toList.drop (i + 1)) = Plain.toks s.data.toList ∧ ∀ x ∈ Plain.seg s.data.toList (i + 1) (i + 1), x ≠ 46) := by
              obtain ⟨h1, h2⟩ := HR.out
              refine ⟨?_, by simp [Plain.seg]⟩
              rw [← h1, Plain.seg_drop _ t i hti, Plain.drop_cons gi, Plain.toks_dot _ _ h2]
              simp
            clear HR gi hc
            have hsl := slMid s t i hti his
            go_wp2_with (at_builtin; refine wpList_append_str rfl (.tmp 32) (.tmp 37) rfl w.heap.size i0 hi hz0 hz1 hz2 _ acc rfl w _ _ _ (seg_data s t i) (by exact hA) rfl (by omega) ?_; intro v' w2 hA2)
            go_roundw
            case rel => exact ⟨i + 1, i + 1, _, by go_num, by go_num, by omega, by omega, hA2, by simp; omega, HN⟩
            case measure => simp [intOf]; omega
          · have t46 : (((s[i]'hlt).toNat : Int) == 46) = false := by
              simp only [beq_eq_false_iff_ne]
              intro he; apply hc; rw [← UInt8.toNat_inj]; simp; omega
            have HN : Hid (acc ++ Plain.toks (s.data.toList.drop t) = Plain.toks s.data.toList ∧ ∀ x ∈ Plain.seg s.data.toList t (i + 1), x ≠ 46) := by
              obtain ⟨h1, h2⟩ := HR.out
              refine ⟨h1, fun x hx => ?_⟩
              rw [Plain.seg_snoc _ t i _ hti gi] at hx
              rcases List.mem_append.1 hx with hx | hx
              · exact h2 x hx
              · simp at hx; rw [hx]; exact hc
            clear HR gi hc
            go_wp2_with fail
            go_roundw
            case rel => exact ⟨t, i + 1, acc, rfl, by go_num, by omega, by omega, hA, hal, HN⟩
            case measure => simp [intOf]; omega
        · have hie : i = s.size := by omega
          have HN : Hid (acc ++ [Plain.seg s.data.toList t s.size] = Plain.toks s.data.toList) := by
            obtain ⟨h1, h2⟩ := HR.out
            refine Hid.mk' ?_
            have hd : s.data.toList.drop i = [] := List.drop_eq_nil_iff.2 (by simp; omega)
            rw [← h1, Plain.seg_drop _ t i hti, hd, List.append_nil, Plain.toks_nodot _ h2, hie]
          have hts : t ≤ s.size := by omega
          clear HR hie
          have hsl := slFrom s t hts
          go_wp2_with (at_builtin; refine wpList_append_str rfl (.tmp 41) (.tmp 45) rfl w.heap.size i0 hi hz0 hz1 hz2 _ acc rfl w _ _ _ (seg_data s t s.size) (by exact hA) rfl (by omega) ?_; intro v' w2 hA2)
          rw [HN.out] at hA2
          go_ret
          exact ⟨_, rfl, hA2⟩

/-- The slice written out: a block of its own, its tokens' cells. -/
theorem OwnS.open {B : Nat} {v : Value} {ts : List (List UInt8)} {W0 w : World} (h : OwnS B v ts W0 w) (hne : ts ≠ []) :
    ∃ g cap, v = .slice (some ⟨g, 0, none⟩) ts.length cap ∧ B ≤ g ∧ g < w.heap.size ∧ ts.length ≤ cap ∧ ∀ j, j < ts.length → w.cell? ⟨g, j, none⟩ = some (.string ⟨(ts.getD j []).toArray⟩) := by
  have h1 := h.1
  rcases h1.2 with ⟨_, h0⟩ | ⟨g, cap, cur, hv, hb, hg, hn, _, _, _⟩
  · exact absurd (List.eq_nil_of_length_eq_zero h0) hne
  · subst hv
    refine ⟨g, cap, rfl, hb, (Array.getElem?_eq_some_iff.1 hg).1, hn, fun j hj => ?_⟩
    rw [h1.cellAt j (by omega)]
    simp [strs, List.getElem?_eq_getElem hj, List.getD_eq_getElem?_getD]

end Go.Proofs.Qxb6602628a
