/-
  THE PLAIN MATHEMATICS of seat b6602628a: a filter's tokens; lists of bytes; no Go in sight.
-/
import Derived.Lib.IndexLaws
import Derived.Lib.IndexMore
namespace Go.Proofs.Qxb6602628a.Plain

/-- A byte that may stand in a token. -/
def okB (c : UInt8) : Bool := decide (32 < c.toNat) && !(c.toNat == 127)

def vtok (t : List UInt8) : Bool := !t.isEmpty && t.all okB

/-- The tokens between the dots. -/
def toks : List UInt8 → List (List UInt8)
  | [] => [[]]
  | c :: r => if c == 46 then [] :: toks r else
    match toks r with
    | t :: ts => (c :: t) :: ts
    | [] => [[c]]

/-- A valid filter: each token valid, and no lone '>' but the last. -/
def vf : List (List UInt8) → Bool
  | [] => true
  | t :: ts => vtok t && (ts.isEmpty || (t != [62] && vf ts))

theorem toks_ne (l : List UInt8) : toks l ≠ [] := by
  cases l with
  | nil => simp [toks]
  | cons c r =>
    unfold toks
    split
    · simp
    · split <;> simp

theorem toks_app (a l : List UInt8) (h : ∀ c ∈ a, c ≠ 46) : ∃ t ts, toks l = t :: ts ∧ toks (a ++ l) = (a ++ t) :: ts := by
  induction a with
  | nil =>
    cases hl : toks l with
    | nil => exact absurd hl (toks_ne l)
    | cons t ts => exact ⟨t, ts, rfl, by simpa using hl⟩
  | cons c r ih =>
    obtain ⟨t, ts, h1, h2⟩ := ih (fun x hx => h x (by simp [hx]))
    refine ⟨t, ts, h1, ?_⟩
    have hc : (c == 46) = false := by simpa using h c (by simp)
    simp [toks, hc, h2]

theorem toks_nodot (a : List UInt8) (h : ∀ c ∈ a, c ≠ 46) : toks a = [a] := by
  obtain ⟨t, ts, h1, h2⟩ := toks_app a [] h
  simp [toks] at h1
  obtain ⟨rfl, rfl⟩ := h1
  simpa using h2

theorem toks_dot (a b : List UInt8) (h : ∀ c ∈ a, c ≠ 46) : toks (a ++ 46 :: b) = a :: toks b := by
  obtain ⟨t, ts, h1, h2⟩ := toks_app a (46 :: b) h
  simp [toks] at h1
  obtain ⟨rfl, rfl⟩ := h1
  simpa using h2

theorem vf_one (t : List UInt8) : vf [t] = vtok t := by simp [vf]

theorem vf_more (t : List UInt8) (l : List UInt8) : vf (t :: toks l) = (vtok t && (t != [62] && vf (toks l))) := by
  have : (toks l).isEmpty = false := by simpa using toks_ne l
  rw [vf, this, Bool.false_or]

theorem vtok_bad (a b : List UInt8) (c : UInt8) (h : okB c = false) : vtok (a ++ c :: b) = false := by
  simp [vtok, h]

theorem vf_head (t : List UInt8) (ts : List (List UInt8)) (h : vtok t = false) : vf (t :: ts) = false := by simp [vf, h]

/-- A byte that may not stand there, in the first token. -/
theorem vf_bad (a r : List UInt8) (c : UInt8) (ha : ∀ x ∈ a, x ≠ 46) (hc : c ≠ 46) (hb : okB c = false) : vf (toks (a ++ c :: r)) = false := by
  obtain ⟨t, ts, h1, h2⟩ := toks_app (a ++ [c]) r (by
    intro x hx
    rcases List.mem_append.1 hx with h | h
    · exact ha x h
    · simp at h; rw [h]; exact hc)
  rw [List.append_assoc, List.singleton_append] at h2
  rw [h2]
  refine vf_head _ _ ?_
  rw [List.append_assoc, List.singleton_append]
  exact vtok_bad a t c hb

theorem occ_one (l : List UInt8) (j : Nat) (c : UInt8) : Lib.occAt l [c] j = true ↔ l[j]? = some c := by
  unfold Lib.occAt
  rw [List.isPrefixOf_iff_prefix, List.prefix_iff_getElem?]
  simp [List.getElem?_drop]

theorem idx_cases (l K : List UInt8) : (Lib.index l K = -1 ∧ ∀ j, Lib.occAt l K j = false) ∨ (∃ j : Nat, Lib.index l K = j ∧ Lib.occAt l K j = true ∧ ∀ i, i < j → Lib.occAt l K i = false) := by
  induction l with
  | nil =>
    cases K with
    | nil => right; exact ⟨0, rfl, rfl, fun i h => absurd h (Nat.not_lt_zero _)⟩
    | cons a t => left; exact ⟨rfl, fun j => by simp [Lib.occAt]⟩
  | cons b l ih =>
    unfold Lib.index
    cases hp : K.isPrefixOf (b :: l)
    · simp only [Bool.false_eq_true, if_false]
      have h0 : Lib.occAt (b :: l) K 0 = false := by simpa [Lib.occAt] using hp
      rcases ih with ⟨h1, h2⟩ | ⟨j, h1, h2, h3⟩
      · left
        refine ⟨by simp [h1], fun j => ?_⟩
        cases j with
        | zero => exact h0
        | succ j => simpa [Lib.occAt] using h2 j
      · right
        have : ((j : Int) == -1) = false := by simp only [beq_eq_false_iff_ne]; omega
        refine ⟨j + 1, by rw [h1, this]; simp, by simpa [Lib.occAt] using h2, fun i hi => ?_⟩
        cases i with
        | zero => exact h0
        | succ i => simpa [Lib.occAt] using h3 i (by omega)
    · right
      exact ⟨0, by simp, by simpa [Lib.occAt] using hp, fun i h => absurd h (Nat.not_lt_zero _)⟩

/-- strings.Cut at the dot, and the tokens. -/
theorem cut_cases (l : List UInt8) : (toks l = [l] ∧ Lib.cut l [46] = (l, [], false)) ∨ ∃ a b, l = a ++ 46 :: b ∧ toks l = a :: toks b ∧ Lib.cut l [46] = (a, b, true) := by
  rcases idx_cases l [46] with ⟨h1, h2⟩ | ⟨j, h1, h2, h3⟩
  · left
    refine ⟨toks_nodot l fun c hc he => ?_, by simp [Lib.cut, h1]⟩
    subst he
    obtain ⟨i, hi, he⟩ := List.mem_iff_getElem.1 hc
    have := (occ_one l i 46).2 (by rw [List.getElem?_eq_getElem hi, he])
    rw [h2 i] at this
    exact absurd this (by decide)
  · right
    have hj := (occ_one l j 46).1 h2
    obtain ⟨hlt, he⟩ := List.getElem?_eq_some_iff.1 hj
    have hl : l = l.take j ++ 46 :: l.drop (j + 1) := by
      rw [← he, ← List.drop_eq_getElem_cons hlt, List.take_append_drop]
    refine ⟨l.take j, l.drop (j + 1), hl, ?_, by simp [Lib.cut, h1]⟩
    conv => lhs; rw [hl]
    refine toks_dot _ _ fun c hc he => ?_
    subst he
    obtain ⟨i, hi, he⟩ := List.mem_iff_getElem.1 hc
    have hi' : i < j := by simp at hi; omega
    have := (occ_one l i 46).2 (by
      rw [List.getElem_take] at he
      rw [List.getElem?_eq_getElem (by omega), he])
    rw [h3 i hi'] at this
    exact absurd this (by decide)

/-! ### The scan: the token that is being read begins at t, the next byte is at i -/
def seg (l : List UInt8) (t i : Nat) : List UInt8 := (l.drop t).take (i - t)

theorem seg_drop (l : List UInt8) (t i : Nat) (h : t ≤ i) : l.drop t = seg l t i ++ l.drop i := by
  unfold seg
  rw [show l.drop i = (l.drop t).drop (i - t) from by rw [List.drop_drop]; congr 1; omega, List.take_append_drop]

theorem seg_snoc (l : List UInt8) (t i : Nat) (c : UInt8) (h : t ≤ i) (hc : l[i]? = some c) : seg l t (i + 1) = seg l t i ++ [c] := by
  unfold seg
  rw [show i + 1 - t = (i - t) + 1 from by omega, List.take_add_one, List.getElem?_drop, show t + (i - t) = i from by omega, hc]
  rfl

theorem seg_len (l : List UInt8) (t i : Nat) (h2 : i ≤ l.length) : (seg l t i).length = i - t := by
  unfold seg
  rw [List.length_take, List.length_drop]
  omega

structure Sc (l : List UInt8) (t i : Nat) : Prop where
  le : t ≤ i
  len : i ≤ l.length
  same : vf (toks l) = vf (toks (l.drop t))
  ok : ∀ x ∈ seg l t i, x ≠ 46 ∧ okB x = true

theorem Sc.start (l : List UInt8) : Sc l 0 0 := ⟨Nat.le_refl _, Nat.zero_le _, by simp, by simp [seg]⟩

theorem drop_cons {l : List UInt8} {i : Nat} {c : UInt8} (hc : l[i]? = some c) : l.drop i = c :: l.drop (i + 1) := by
  obtain ⟨h, he⟩ := List.getElem?_eq_some_iff.1 hc
  rw [List.drop_eq_getElem_cons h, he]

theorem Sc.step {l : List UInt8} {t i : Nat} {c : UInt8} (h : Sc l t i) (hc : l[i]? = some c) (h1 : c ≠ 46) (h2 : okB c = true) : Sc l t (i + 1) := by
  obtain ⟨hi, _⟩ := List.getElem?_eq_some_iff.1 hc
  refine ⟨by have := h.le; omega, by omega, h.same, fun x hx => ?_⟩
  rw [seg_snoc l t i c h.le hc] at hx
  rcases List.mem_append.1 hx with hx | hx
  · exact h.ok x hx
  · simp at hx; subst hx; exact ⟨h1, h2⟩

theorem Sc.bad {l : List UInt8} {t i : Nat} {c : UInt8} (h : Sc l t i) (hc : l[i]? = some c) (h1 : c ≠ 46) (h2 : okB c = false) : vf (toks l) = false := by
  rw [h.same, seg_drop l t i h.le, drop_cons hc]
  exact vf_bad _ _ c (fun x hx => (h.ok x hx).1) h1 h2

theorem Sc.toks_dot {l : List UInt8} {t i : Nat} (h : Sc l t i) (hc : l[i]? = some 46) : vf (toks l) = (vtok (seg l t i) && (seg l t i != [62] && vf (toks (l.drop (i + 1))))) := by
  rw [h.same, seg_drop l t i h.le, drop_cons hc, Plain.toks_dot _ _ (fun x hx => (h.ok x hx).1), vf_more]

theorem Sc.vtok_seg {l : List UInt8} {t i : Nat} (h : Sc l t i) (hlt : t < i) : vtok (seg l t i) = true := by
  simp only [vtok, Bool.and_eq_true, List.all_eq_true]
  refine ⟨?_, fun x hx => (h.ok x hx).2⟩
  have := seg_len l t i h.len
  cases hs : seg l t i with
  | nil => rw [hs] at this; simp at this; omega
  | cons a b => rfl

theorem Sc.dot_empty {l : List UInt8} {i : Nat} (h : Sc l i i) (hc : l[i]? = some 46) : vf (toks l) = false := by
  rw [h.toks_dot hc]
  simp [seg, vtok]

theorem Sc.dot_gt {l : List UInt8} {t i : Nat} (h : Sc l t i) (hi : i = t + 1) (ht : l[t]? = some 62) (hc : l[i]? = some 46) : vf (toks l) = false := by
  have : seg l t i = [62] := by
    subst hi
    rw [seg_snoc l t t 62 (Nat.le_refl _) ht]
    simp [seg]
  rw [h.toks_dot hc, this]
  simp

theorem Sc.dot_next {l : List UInt8} {t i : Nat} (h : Sc l t i) (hlt : t < i) (hc : l[i]? = some 46) (hn : ¬ (i = t + 1 ∧ l[t]? = some 62)) : Sc l (i + 1) (i + 1) := by
  obtain ⟨hi, _⟩ := List.getElem?_eq_some_iff.1 hc
  refine ⟨Nat.le_refl _, by omega, ?_, by simp [seg]⟩
  rw [h.toks_dot hc, h.vtok_seg hlt, Bool.true_and]
  have : (seg l t i != [62]) = true := by
    simp only [bne_iff_ne]
    intro he
    apply hn
    have hl := seg_len l t i h.len
    rw [he] at hl
    simp at hl
    refine ⟨by omega, ?_⟩
    have h0 : (seg l t i)[0]? = some 62 := by rw [he]; rfl
    unfold seg at h0
    rw [List.getElem?_take, if_pos (by omega), List.getElem?_drop] at h0
    simpa using h0
  rw [this, Bool.true_and]

theorem Sc.end_empty {l : List UInt8} {i : Nat} (h : Sc l i i) (hi : i = l.length) : vf (toks l) = false := by
  rw [h.same, hi, List.drop_length]
  rfl

theorem Sc.end_full {l : List UInt8} {t i : Nat} (h : Sc l t i) (hi : i = l.length) (hlt : t < i) : vf (toks l) = true := by
  have hd : l.drop i = [] := by rw [hi, List.drop_length]
  rw [h.same, seg_drop l t i h.le, hd, List.append_nil, toks_nodot _ (fun x hx => (h.ok x hx).1), vf_one, h.vtok_seg hlt]

end Go.Proofs.Qxb6602628a.Plain
