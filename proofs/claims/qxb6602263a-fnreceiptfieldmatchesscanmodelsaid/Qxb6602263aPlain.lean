/-
  THE PLAIN MATHEMATICS of seat b6602263a: where a receipt's field stands; lists of bytes; no Go in sight.
-/
import Derived.Lib.IndexLaws
namespace Go.Proofs.Qxb6602263a.Plain

def key (N : List UInt8) : List UInt8 := N ++ [58]

/-- A word may begin at p. -/
def bnd (T : List UInt8) (p : Nat) : Bool := p == 0 || T[p - 1]? == some 32

/-- The key stands at p, at the beginning of a word. -/
def good (T K : List UInt8) (p : Nat) : Bool := bnd T p && Lib.occAt T K p

/-- The first such place. -/
def find (T K : List UInt8) : Option Nat := (List.range (T.length + 1)).find? (good T K)

/-- How many bytes stand ahead of the first space. -/
def tw : List UInt8 → Nat
  | [] => 0
  | c :: r => if c == 32 then 0 else tw r + 1

def isText (N : List UInt8) : Bool := N == [84, 101, 120, 116]

def endAt (T N : List UInt8) (s : Nat) : Nat := if isText N then T.length else s + tw (T.drop s)

def rS (T N : List UInt8) : Int := match find T (key N) with | some p => ((p + (N.length + 1) : Nat) : Int) | none => 0
def rE (T N : List UInt8) : Int := match find T (key N) with | some p => (endAt T N (p + (N.length + 1)) : Int) | none => 0
def rB (T N : List UInt8) : Bool := (find T (key N)).isSome

theorem key_length (N : List UInt8) : (key N).length = N.length + 1 := by simp [key]

theorem good_le {T N : List UInt8} {p : Nat} (h : good T (key N) p = true) : p + (N.length + 1) ≤ T.length := by
  simp only [good, Bool.and_eq_true] at h
  rcases Lib.occAt_room h.2 with h | h
  · rw [key_length] at h; exact h
  · simp [key] at h

theorem find_some {T N : List UInt8} {p : Nat} (h : good T (key N) p = true) (hn : ∀ q, q < p → good T (key N) q = false) : find T (key N) = some p := by
  have := good_le h
  unfold find
  rw [List.find?_range_eq_some]
  refine ⟨h, by simp; omega, fun j hj => by simp [hn j hj]⟩

theorem find_none {T N : List UInt8} (hn : ∀ q, good T (key N) q = false) : find T (key N) = none := by
  unfold find
  rw [List.find?_range_eq_none]
  intro i _
  simp [hn i]

theorem res_some {T N : List UInt8} {p : Nat} (h : good T (key N) p = true) (hn : ∀ q, q < p → good T (key N) q = false) :
    rS T N = ((p + (N.length + 1) : Nat) : Int) ∧ rE T N = (endAt T N (p + (N.length + 1)) : Int) ∧ rB T N = true := by
  simp [rS, rE, rB, find_some h hn]

theorem res_none {T N : List UInt8} (hn : ∀ q, good T (key N) q = false) : rS T N = 0 ∧ rE T N = 0 ∧ rB T N = false := by
  simp [rS, rE, rB, find_none hn]

theorem tw_le (l : List UInt8) : tw l ≤ l.length := by
  induction l with
  | nil => simp [tw]
  | cons c r ih => unfold tw; split <;> simp; omega

theorem tw_index (l : List UInt8) : (Lib.indexByte l 32 = -1 ∧ tw l = l.length) ∨ (Lib.indexByte l 32 = (tw l : Int)) := by
  induction l with
  | nil => left; simp [Lib.indexByte, tw]
  | cons c r ih =>
    unfold Lib.indexByte tw
    by_cases hc : c = 32
    · right; simp [hc]
    · have hc' : (c == 32) = false := by simpa using hc
      simp only [hc', Bool.false_eq_true, if_false]
      rcases ih with ⟨h1, h2⟩ | h1
      · left; simp [h1, h2]
      · right
        have : ((tw r : Int) == -1) = false := by simp only [beq_eq_false_iff_ne]; omega
        rw [h1, this]
        simp

/-- tw is told by its bytes. -/
theorem tw_eq {l : List UInt8} {m : Nat} (h1 : ∀ i, i < m → ∃ c, l[i]? = some c ∧ c ≠ 32) (h2 : l[m]? = none ∨ l[m]? = some 32) : tw l = m := by
  induction l generalizing m with
  | nil =>
    cases m with
    | zero => rfl
    | succ m => obtain ⟨c, hc, _⟩ := h1 0 (by omega); simp at hc
  | cons b r ih =>
    cases m with
    | zero =>
      rcases h2 with h2 | h2
      · simp at h2
      · simp at h2; simp [tw, h2]
    | succ m =>
      obtain ⟨c, hc, hne⟩ := h1 0 (by omega)
      simp at hc
      subst hc
      have hb : (b == 32) = false := by simpa using hne
      unfold tw
      simp only [hb, Bool.false_eq_true, if_false]
      rw [ih (m := m)]
      · intro i hi
        obtain ⟨c, hc, hc2⟩ := h1 (i + 1) (by omega)
        exact ⟨c, by simpa using hc, hc2⟩
      · simpa using h2

/-- The key at p, byte by byte. -/
theorem occ_iff (T N : List UInt8) (p : Nat) : Lib.occAt T (key N) p = true ↔ (∀ (i : Nat) (h : i < N.length), T[p + i]? = some N[i]) ∧ T[p + N.length]? = some 58 := by
  unfold Lib.occAt
  rw [List.isPrefixOf_iff_prefix, List.prefix_iff_getElem?]
  constructor
  · intro h
    refine ⟨fun i hi => ?_, ?_⟩
    · have := h i (by rw [key_length]; omega)
      rw [List.getElem?_drop] at this
      rw [this]
      simp [key, List.getElem_append_left, hi]
    · have := h N.length (by rw [key_length]; omega)
      rw [List.getElem?_drop] at this
      rw [this]
      simp [key]
  · rintro ⟨h1, h2⟩ i hi
    rw [key_length] at hi
    rw [List.getElem?_drop]
    by_cases hlt : i < N.length
    · rw [h1 i hlt]
      simp [key, List.getElem_append_left, hlt]
    · have : i = N.length := by omega
      subst this
      rw [h2]
      simp [key]

def noSpace (l : List UInt8) : Prop := ∀ x ∈ l, x ≠ 32

/-! ### The leading field -/
theorem lead_good (N V R : List UInt8) : good (N ++ [58] ++ V ++ R) (key N) 0 = true := by
  simp [good, bnd, Lib.occAt, key]

theorem lead (N V R : List UInt8) (hV : noSpace V) (hR : R = [] ∨ ∃ r, R = 32 :: r) :
    rS (N ++ [58] ++ V ++ R) N = (N.length : Int) + 1 ∧ rE (N ++ [58] ++ V ++ R) N = (if isText N then ((N ++ [58] ++ V ++ R).length : Int) else (N.length : Int) + 1 + V.length) ∧ rB (N ++ [58] ++ V ++ R) N = true := by
  obtain ⟨h1, h2, h3⟩ := res_some (lead_good N V R) (fun q hq => absurd hq (Nat.not_lt_zero _))
  refine ⟨by rw [h1]; simp, ?_, h3⟩
  rw [h2]
  unfold endAt
  split
  · rfl
  · have hd : (N ++ [58] ++ V ++ R).drop (0 + (N.length + 1)) = V ++ R := by
      rw [List.append_assoc, List.drop_left' (by simp)]
    rw [hd]
    have ht : tw (V ++ R) = V.length := by
      refine tw_eq (fun i hi => ⟨V[i], by simp [List.getElem?_append_left, hi], hV _ (List.getElem_mem hi)⟩) ?_
      rcases hR with rfl | ⟨r, rfl⟩
      · left; simp
      · right; simp
    rw [ht]
    simp

end Go.Proofs.Qxb6602263a.Plain
