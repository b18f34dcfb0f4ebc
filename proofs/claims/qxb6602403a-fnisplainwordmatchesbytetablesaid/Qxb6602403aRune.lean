/-
  strings.IndexRune, ContainsRune at a rune beyond ASCII, over a text of ASCII alone: it is not there.
-/
import Derived.Test.Qxb6602403aRows
import Derived.WalkKit
import Derived.Lib.OthersKept
import Derived.WalkLawsBesides
import Derived.Deep.LoopGhost
import Derived.Deep.RegionWith
import Derived.Deep.QuietTactic
import Derived.BigQuiet
import Derived.Lib.Bytealg
namespace Go.Proofs.Qxb6602403a
open Go.RowKit

theorem enc_list (r : Nat) (h1 : 128 ≤ r) (h2 : r ≤ 1114111) (h3 : ¬ (55296 ≤ r ∧ r ≤ 57343)) :
    2 ≤ (Utf8.encode (r : Int)).data.toList.length ∧ (Utf8.encode (r : Int)).data.toList.length ≤ 4 ∧ ∀ x ∈ (Utf8.encode (r : Int)).data.toList, 128 ≤ x.toNat := by
  have hv : Utf8.valid (r : Int) = true := by simp [Utf8.valid]; omega
  unfold Utf8.encode
  simp only [hv, if_true, Int.toNat_natCast]
  rw [if_neg (by omega)]
  split
  · simp; omega
  · split
    · simp; omega
    · simp; omega

theorem byte_mem (E : ByteArray) (i : Nat) (h : i < E.size) : E[i] ∈ E.data.toList := Array.mem_toList_iff.2 (Array.getElem_mem (xs := E.data) h)

theorem bytes_of (E : ByteArray) (h : 2 ≤ E.data.toList.length ∧ E.data.toList.length ≤ 4 ∧ ∀ x ∈ E.data.toList, 128 ≤ x.toNat) :
    2 ≤ E.size ∧ E.size ≤ 4 ∧ ∀ (i : Nat) (h : i < E.size), 128 ≤ (E[i]).toNat :=
  ⟨h.1, h.2.1, fun i hi => h.2.2 _ (byte_mem E i hi)⟩

theorem enc_bytes (r : Nat) (h1 : 128 ≤ r) (h2 : r ≤ 1114111) (h3 : ¬ (55296 ≤ r ∧ r ≤ 57343)) :
    2 ≤ (Utf8.encode (r : Int)).size ∧ (Utf8.encode (r : Int)).size ≤ 4 ∧ ∀ (i : Nat) (h : i < (Utf8.encode (r : Int)).size), 128 ≤ ((Utf8.encode (r : Int))[i]).toNat :=
  bytes_of _ (enc_list r h1 h2 h3)

theorem ib_none (l : List UInt8) (c : UInt8) (h : ∀ x ∈ l, x.toNat < 128) (hc : 128 ≤ c.toNat) : Lib.indexByte l c = -1 := by
  induction l with
  | nil => rfl
  | cons b r ih =>
    have hb := h b (by simp)
    have hne : ¬ b = c := by rintro rfl; omega
    simp [Lib.indexByte, hne, ih (fun x hx => h x (by simp [hx]))]

theorem ibIn (s : ByteArray) (c : Int) (w : World) :
    Calls Try.prog 45 #[.string s, .int .u8 c] w fun e w' => e = .returned (.int .i64 (Lib.indexByte s.data.toList c.toNat.toUInt8)) ∧ w' = w := by
  go_enter Try.func45, Try.ntmps45
  go_wp2
  rw [run_callFunc_extern Try.func47 (by kernel_rfl) (by kernel_rfl) (by kernel_rfl) (e := Extern.BytealgIndexByte.indexByte) (by kernel_rfl), Lib.run_indexByteString]
  simp only [Result.andThen]
  rw [Oper.upon_value]
  go_wp2
  go_ret
  exact ⟨rfl, rfl⟩

theorem ibX (s : ByteArray) (c : Int) (w : World) :
    Calls Try.prog 38 #[.string s, .int .u8 c] w fun e w' => e = .returned (.int .i64 (Lib.indexByte s.data.toList c.toNat.toUInt8)) ∧ w' = w := by
  go_enter Try.func38, Try.ntmps38
  go_wp2_with (go_at_call 45; refine (ibIn _ _ _).mono ?_; rintro e w' ⟨rfl, rfl⟩)
  go_ret
  exact ⟨rfl, rfl⟩

theorem ibX_none (s : ByteArray) (c : Int) (w : World) (h : ∀ x ∈ s.data.toList, x.toNat < 128) (hc : 128 ≤ c) (hc' : c < 256) :
    Calls Try.prog 38 #[.string s, .int .u8 c] w fun e w' => e = .returned (.int .i64 (-1)) ∧ w' = w := by
  refine (ibX s c w).mono ?_
  rintro e w' ⟨rfl, rfl⟩
  rw [ib_none s.data.toList c.toNat.toUInt8 h (by simp; omega)]
  exact ⟨rfl, rfl⟩

theorem ext_ascii (s : ByteArray) (hasc : ∀ (i : Nat) (h : i < s.size), (s[i]).toNat < 128) (a b : Nat) : ∀ x ∈ (s.extract a b).data.toList, x.toNat < 128 := by
  intro x hx
  rw [ByteArray.data_extract, Array.mem_toList_iff, Array.mem_iff_getElem] at hx
  obtain ⟨i, hi, rfl⟩ := hx
  rw [Array.getElem_extract]
  have hlt : a + i < s.size := by
    rw [Array.size_extract] at hi
    have : s.data.size = s.size := rfl
    omega
  exact hasc (a + i) hlt

theorem slFrom (s : ByteArray) (k : Nat) (h : k + 1 ≤ s.size) (W : World) :
    (Instr.slice 9 (.string s) (some (.int .i64 ((k : Int) + 1))) none none).run Try.prog W = .ok (.string (s.extract (k + 1) s.size)) W := by
  rw [run_slice_string_from_if W 9 s .i64 _ Try.underlying9, if_pos ⟨by omega, by omega⟩]
  have : ((k : Int) + 1).toNat = k + 1 := by omega
  rw [this]

theorem vrX_t (r : Nat) (w : World) (h2 : r ≤ 1114111) (h3 : ¬ (55296 ≤ r ∧ r ≤ 57343)) :
    Calls Try.prog 39 #[.int .i32 r] w fun e w' => e = .returned (.bool true) ∧ w' = w := by
  by_cases h : (r : Int) < 55296
  · go_enter Try.func39, Try.ntmps39
    go_wp2
    go_ret
    exact ⟨rfl, rfl⟩
  · have h' : (57343 : Int) < r := by omega
    have h2' : (r : Int) ≤ 1114111 := by omega
    go_enter Try.func39, Try.ntmps39
    go_wp2
    go_ret
    exact ⟨rfl, rfl⟩

theorem vrX_f (r : Nat) (w : World) (h3 : 55296 ≤ r ∧ r ≤ 57343) :
    Calls Try.prog 39 #[.int .i32 r] w fun e w' => e = .returned (.bool false) ∧ w' = w := by
  have h' : ¬ (57343 : Int) < r := by omega
  have h2' : ¬ (r : Int) < 55296 := by omega
  go_enter Try.func39, Try.ntmps39
  go_wp2
  go_ret
  exact ⟨rfl, rfl⟩

set_option maxHeartbeats 1000000 in
set_option maxRecDepth 100000 in
theorem irX_high (s : ByteArray) (r : Nat) (w : World) (hs : s.size ≤ 100) (hasc : ∀ (i : Nat) (h : i < s.size), (s[i]).toNat < 128) (h1 : 128 ≤ r) (h2 : r ≤ 1114111) :
    Calls Try.prog 34 #[.string s, .int .i32 r] w fun e w' => e = .returned (.int .i64 (-1)) ∧ Below w.heap.size w w' := by
  by_cases hE : r = 65533
  · subst hE
    go_enter Try.func34, Try.ntmps34
    go_wp2_with fail
    go_loopw [] (fun wr => ∃ pos : Nat, wr.heap[w.heap.size]? = some (.stringIter s pos) ∧ Below w.heap.size w wr) (fun wr => s.size - wr.iterPos w.heap.size)
    case atStart => exact ⟨0, World.iter_heap w s 0, (Below.refl _ w).alloc (Nat.le_refl _) _⟩
    case round =>
      obtain ⟨pos, hit, hbw⟩ := hrel
      by_cases hps : pos < s.size
      · have hb := hasc pos hps
        have hnx : ∀ ty, (Instr.next (.pointer (some ⟨w.heap.size, 0, none⟩)) true ty).run Try.prog wr = _ := fun ty => Lib.run_next_ascii_at wr w.heap.size s pos ty hit hps hb
        have hne : (((s[pos]).toNat : Int) == 65533) = false := by simp; omega
        have hit2 := Lib.iterAt_heap wr w.heap.size s pos (pos + 1) hit
        have hbw2 := Lib.below_iterAt hbw (k := w.heap.size) (Nat.le_refl _) s (pos + 1)
        go_wp2
        go_roundw
        case rel => exact ⟨pos + 1, hit2, hbw2⟩
        case measure =>
          simp only [World.iterPos, hit2, hit]
          omega
      · have hnx : ∀ ty, (Instr.next (.pointer (some ⟨w.heap.size, 0, none⟩)) true ty).run Try.prog wr = _ := fun ty => Lib.run_next_end_at wr w.heap.size s pos ty hit hps
        go_wp2
        go_ret
        exact ⟨rfl, hbw⟩
  · have hE' : ((r : Int) == 65533) = false := by simp; omega
    have h0 : ¬ (r : Int) < 128 := by omega
    by_cases h3 : 55296 ≤ r ∧ r ≤ 57343
    · go_enter Try.func34, Try.ntmps34
      go_wp2_with (go_at_call 39; refine (vrX_f _ _ h3).mono ?_; rintro e w' ⟨rfl, rfl⟩)
      go_ret
      exact ⟨rfl, Below.refl _ _⟩
    · have hen := enc_bytes r h1 h2 h3
      go_enter Try.func34, Try.ntmps34
      go_wp2_with (first | (go_at_call 39; refine (vrX_t _ _ h2 h3).mono ?_; rintro e w' ⟨rfl, rfl⟩) | fail)
      go_step3
      go_wp2_with fail
      generalize Utf8.encode (r : Int) = E at hen ⊢
      obtain ⟨e1, e2, e3⟩ := hen
      obtain ⟨k, hk⟩ : ∃ k : Nat, (E.size : Int) - 1 = k := ⟨E.size - 1, by omega⟩
      rw [hk]
      have hk' : k + 1 = E.size := by omega
      clear hk
      by_cases hlt : k < s.size
      · have q3 : k < E.size := by omega
        have b1 := hasc k hlt
        have b2 := e3 k q3
        have b3 := (E[k]).toNat_lt
        have hne : (((s[k]).toNat : Int) != ((E[k]).toNat : Int)) = true := by simp; omega
        have HK : Hid (k + 1 = E.size) := hk'
        clear hk'
        have hex : ∀ x ∈ (s.extract (k + 1) s.size).data.toList, x.toNat < 128 := ext_ascii s hasc _ _
        have q5 : (0 : Int) ≤ k + 1 := by omega
        have q6 : (k : Int) + 1 ≤ s.size := by omega
        have q7 : (k : Int) < s.size := by omega
        refine wp_loop_rounds 1 ?_
        rw [rounds_succ]
        go_wp2_with fail
        go_step3
        go_wp2_with fail
        go_region
        go_wp2_with fail
        have hsl := slFrom s k (by omega)
        have hwr : IntKind.i64.wrap ((k : Int) + 1) = k + 1 := by rw [IntKind.wrap_i64]; omega
        have c1 : (128 : Int) ≤ ((E[k]).toNat : Int) := by omega
        have c2 : ((E[k]).toNat : Int) < 256 := by omega
        have cib : ∀ W, Calls Try.prog 38 #[.string (s.extract (k + 1) s.size), .int .u8 ((E[k]).toNat : Int)] W fun e w' => e = .returned (.int .i64 (-1)) ∧ w' = W := fun W => ibX_none _ _ W hex c1 c2
        go_region_with (go_at_call 38; refine (cib _).mono ?_; rintro e w' ⟨rfl, rfl⟩)
        go_wp2_with fail
        rw [Exit.noGoto_ret]
        go_wp2_with fail
        rw [Exit.noGoto_ret]
        go_wp2_with fail
        go_ret
        exact ⟨rfl, (Below.refl _ _).drew.drew⟩
      · refine wp_loop_rounds 1 ?_
        rw [rounds_succ]
        go_wp2_with fail
        try rw [Exit.noGoto_ret]
        go_ret
        exact ⟨rfl, Below.refl _ _⟩

theorem ret_bool {a b : Bool} (h : a = b) : Ending.returned (.bool a) = .returned (.bool b) := by rw [h]

set_option maxRecDepth 100000 in
/-- strings.IndexRune at an ASCII rune. -/
theorem irX_low (s : ByteArray) (r : Nat) (w : World) (h1 : r < 128) :
    Calls Try.prog 34 #[.string s, .int .i32 r] w fun e w' => e = .returned (.int .i64 (Lib.indexByte s.data.toList r.toUInt8)) ∧ w' = w := by
  have h0 : (0 : Int) ≤ r := by omega
  have h2 : (r : Int) < 128 := by omega
  go_enter Try.func34, Try.ntmps34
  go_wp2_with (go_at_call 38; refine (ibX _ _ _).mono ?_; rintro e w' ⟨rfl, rfl⟩)
  go_ret
  exact ⟨rfl, rfl⟩

/-- Is the rune among these bytes? -/
def inB (l : List UInt8) (r : Nat) : Bool := decide (r < 128) && decide (0 ≤ Lib.indexByte l r.toUInt8)

/-- strings.ContainsRune over a text of ASCII alone. -/
theorem crX (s : ByteArray) (r : Nat) (w : World) (hs : s.size ≤ 100) (hasc : ∀ (i : Nat) (h : i < s.size), (s[i]).toNat < 128) (h2 : r ≤ 1114111) :
    Calls Try.prog 30 #[.string s, .int .i32 r] w fun e w' => e = .returned (.bool (inB s.data.toList r)) ∧ Below w.heap.size w w' := by
  by_cases h1 : r < 128
  · go_enter Try.func30, Try.ntmps30
    go_wp2_with (go_at_call 34; refine (irX_low _ _ _ h1).mono ?_; rintro e w' ⟨rfl, rfl⟩)
    go_ret
    refine ⟨?_, Below.refl _ _⟩
    simp [inB, h1]
  · go_enter Try.func30, Try.ntmps30
    go_wp2_with (go_at_call 34; refine (irX_high _ _ _ hs hasc (by omega) h2).mono ?_; rintro e w' ⟨rfl, hb⟩)
    go_ret
    refine ⟨?_, hb⟩
    simp [inB, h1]


end Go.Proofs.Qxb6602403a
