/-
  THE PLAIN MATHEMATICS of Overlap: the loop over both filters' tokens, and the closed form.
-/
import Derived.Test.Qxb6602628aPlain
namespace Go.Proofs.Qxb6602628a.Plain

/-- Two tokens that some one token meets. -/
def meet (t u : List UInt8) : Bool := t == u || t == [42] || u == [42]

/-- Overlap's loop. -/
def ovl : List (List UInt8) → List (List UInt8) → Bool
  | t :: ts, u :: us => if t == [62] || u == [62] then true else if !(meet t u) then false else if ts.isEmpty || us.isEmpty then ts.isEmpty == us.isEmpty else ovl ts us
  | _, _ => true

/-- Is the last token a lone '>'? -/
def tail (A : List (List UInt8)) : Bool := A.getLast? == some [62]

/-- How many tokens stand ahead of it. -/
def fixed (A : List (List UInt8)) : Nat := if tail A then A.length - 1 else A.length

/-- The closed form. -/
def mdl (A B : List (List UInt8)) : Bool :=
  !(!tail A && !tail B && A.length != B.length) && !(tail A && !tail B && decide (B.length < A.length)) && !(!tail A && tail B && decide (A.length < B.length)) &&
    (List.range (min (fixed A) (fixed B))).all fun i => meet (A.getD i []) (B.getD i [])

theorem tail_cons (t u : List UInt8) (us : List (List UInt8)) : tail (t :: u :: us) = tail (u :: us) := by simp [tail]

theorem fixed_cons (t u : List UInt8) (us : List (List UInt8)) : fixed (t :: u :: us) = fixed (u :: us) + 1 := by
  simp only [fixed, tail_cons, List.length_cons]
  split <;> omega

theorem vf_tail (t u : List UInt8) (us : List (List UInt8)) (h : vf (t :: u :: us) = true) : t ≠ [62] ∧ vf (u :: us) = true := by
  simp only [vf, List.isEmpty_cons, Bool.false_or, Bool.and_eq_true, bne_iff_ne] at h
  refine ⟨h.2.1, ?_⟩
  simp only [vf, Bool.and_eq_true]
  exact h.2.2

theorem mdl_cons (t t' u u' : List UInt8) (ts us : List (List UInt8)) : mdl (t :: t' :: ts) (u :: u' :: us) = (meet t u && mdl (t' :: ts) (u' :: us)) := by
  have e1 : ((t :: t' :: ts).length != (u :: u' :: us).length) = ((t' :: ts).length != (u' :: us).length) := by
    rw [Bool.eq_iff_iff]; simp
  have e2 : decide ((u :: u' :: us).length < (t :: t' :: ts).length) = decide ((u' :: us).length < (t' :: ts).length) := by simp
  have e3 : decide ((t :: t' :: ts).length < (u :: u' :: us).length) = decide ((t' :: ts).length < (u' :: us).length) := by simp
  have e4 : min (fixed (t :: t' :: ts)) (fixed (u :: u' :: us)) = min (fixed (t' :: ts)) (fixed (u' :: us)) + 1 := by
    rw [fixed_cons, fixed_cons]; omega
  unfold mdl
  rw [tail_cons, tail_cons, e1, e2, e3, e4, List.range_succ_eq_map, List.all_cons, List.all_map]
  have e5 : ((fun i => meet ((t :: t' :: ts).getD i []) ((u :: u' :: us).getD i [])) ∘ Nat.succ) = fun i => meet ((t' :: ts).getD i []) ((u' :: us).getD i []) := by
    funext i
    simp
  rw [e5]
  generalize ((List.range (min (fixed (t' :: ts)) (fixed (u' :: us)))).all fun i => meet ((t' :: ts).getD i []) ((u' :: us).getD i [])) = x
  generalize (!(!tail (t' :: ts) && !tail (u' :: us) && (t' :: ts).length != (u' :: us).length)) = y1
  generalize (!(tail (t' :: ts) && !tail (u' :: us) && decide ((u' :: us).length < (t' :: ts).length))) = y2
  generalize (!(!tail (t' :: ts) && tail (u' :: us) && decide ((t' :: ts).length < (u' :: us).length))) = y3
  show (y1 && y2 && y3 && (meet t u && x)) = (meet t u && (y1 && y2 && y3 && x))
  cases meet t u <;> cases y1 <;> cases y2 <;> cases y3 <;> cases x <;> rfl

theorem mdl_gt_left (B : List (List UInt8)) (h : B ≠ []) : mdl [[62]] B = true := by
  have hB : 1 ≤ B.length := List.length_pos_iff.2 h
  have e : decide (B.length < 1) = false := by simp; omega
  simp [mdl, tail, fixed, h]

theorem mdl_gt_right (A : List (List UInt8)) (h : A ≠ []) : mdl A [[62]] = true := by
  simp [mdl, tail, fixed, h]

/-- ████ The loop and the closed form agree on valid filters. -/
theorem mdl_ovl (A : List (List UInt8)) : ∀ B, A ≠ [] → B ≠ [] → vf A = true → vf B = true → mdl A B = ovl A B := by
  induction A with
  | nil => intro B h; exact absurd rfl h
  | cons t ts ih =>
    intro B _ hB hA hvB
    cases B with
    | nil => exact absurd rfl hB
    | cons u us =>
      by_cases ht : t = [62]
      · cases ts with
        | nil => subst ht; rw [mdl_gt_left _ hB]; simp [ovl]
        | cons t' ts' => exact absurd ht (vf_tail _ _ _ hA).1
      · by_cases hu : u = [62]
        · cases us with
          | nil => subst hu; rw [mdl_gt_right _ (by simp)]; simp [ovl]
          | cons u' us' => exact absurd hu (vf_tail _ _ _ hvB).1
        · have e1 : (t == [62] || u == [62]) = false := by simp [ht, hu]
          cases ts with
          | nil =>
            cases us with
            | nil =>
              simp only [ovl, e1]
              have h1 : tail [t] = false := by simp [tail, ht]
              have h2 : tail [u] = false := by simp [tail, hu]
              simp [mdl, h1, h2, fixed, List.range_succ]
            | cons u' us' =>
              have h1 : tail [t] = false := by simp [tail, ht]
              have h3 : mdl [t] (u :: u' :: us') = false := by
                unfold mdl
                rw [h1]
                cases tail (u :: u' :: us') <;> simp
              rw [h3]
              simp [ovl, e1]
          | cons t' ts' =>
            cases us with
            | nil =>
              have h2 : tail [u] = false := by simp [tail, hu]
              have h3 : mdl (t :: t' :: ts') [u] = false := by
                unfold mdl
                rw [h2]
                cases tail (t :: t' :: ts') <;> simp
              rw [h3]
              simp [ovl, e1]
            | cons u' us' =>
              rw [mdl_cons, ih (u' :: us') (by simp) (by simp) (vf_tail _ _ _ hA).2 (vf_tail _ _ _ hvB).2]
              conv => rhs; rw [ovl]
              rw [e1]
              cases meet t u <;> simp

theorem toks_len (l : List UInt8) : (toks l).length ≤ l.length + 1 := by
  induction l with
  | nil => simp [toks]
  | cons c r ih =>
    unfold toks
    split
    · simp; omega
    · split
      next t ts h => rw [h] at ih; simp at ih ⊢; omega
      next h => simp

/-! ### The closed form over the tokens' places -/
def stop (t : Bool) (l : Nat) : Nat := if t then l else l + 1

def mdF (fa fb : Nat → List UInt8) (la lb : Nat) (ta tb : Bool) : Bool :=
  !(!ta && !tb && (la + 1 != lb + 1)) && !(ta && !tb && decide (lb + 1 < la + 1)) && !(!ta && tb && decide (la + 1 < lb + 1)) &&
    (List.range (min (stop ta la) (stop tb lb))).all fun i => meet (fa i) (fb i)

theorem tail_of {A : List (List UInt8)} {la : Nat} (h : A.length = la + 1) : tail A = (A.getD la [] == [62]) := by
  have hlt : la < A.length := by omega
  have e : A.getLast? = some A[la] := by rw [List.getLast?_eq_getElem?, h, List.getElem?_eq_getElem (by omega)]; rfl
  simp only [tail, e, List.getD_eq_getElem?_getD, List.getElem?_eq_getElem hlt, Option.getD_some]
  rfl

theorem mdl_mdF {A B : List (List UInt8)} {la lb : Nat} (h1 : A.length = la + 1) (h2 : B.length = lb + 1) :
    mdl A B = mdF (fun j => A.getD j []) (fun j => B.getD j []) la lb (A.getD la [] == [62]) (B.getD lb [] == [62]) := by
  unfold mdl mdF fixed stop
  rw [tail_of h1, tail_of h2, h1, h2]
  rfl

theorem mdF_at {fa fb : Nat → List UInt8} {la lb : Nat} {ta tb : Bool} {i : Nat} (hi : i < min (stop ta la) (stop tb lb)) (h : meet (fa i) (fb i) = false) : mdF fa fb la lb ta tb = false := by
  have : ((List.range (min (stop ta la) (stop tb lb))).all fun i => meet (fa i) (fb i)) = false := by
    rw [← Bool.not_eq_true]
    intro ha
    have := List.all_eq_true.1 ha i (by simpa using hi)
    rw [h] at this
    exact absurd this (by decide)
  rw [mdF, this, Bool.and_false]

theorem mdF_all {fa fb : Nat → List UInt8} {la lb : Nat} {ta tb : Bool} (h1 : ta = false → tb = false → la = lb) (h2 : ta = true → tb = false → la ≤ lb) (h3 : ta = false → tb = true → lb ≤ la)
    (h : ∀ i, i < min (stop ta la) (stop tb lb) → meet (fa i) (fb i) = true) : mdF fa fb la lb ta tb = true := by
  have : ((List.range (min (stop ta la) (stop tb lb))).all fun i => meet (fa i) (fb i)) = true := by
    refine List.all_eq_true.2 fun i hi => h i (by simpa using hi)
  rw [mdF, this, Bool.and_true]
  cases ta <;> cases tb <;> simp at h1 h2 h3 ⊢
  · exact h1
  · omega
  · omega

theorem mdF_no1 {fa fb : Nat → List UInt8} {la lb : Nat} (h : la ≠ lb) : mdF fa fb la lb false false = false := by
  simp [mdF, h]

theorem mdF_no2 {fa fb : Nat → List UInt8} {la lb : Nat} (h : lb < la) : mdF fa fb la lb true false = false := by
  simp [mdF, h]

theorem mdF_no3 {fa fb : Nat → List UInt8} {la lb : Nat} (h : la < lb) : mdF fa fb la lb false true = false := by
  simp [mdF, h]

/-! ### One round of the loop -/
theorem cut_any (l : List UInt8) : ∃ (a b : List UInt8) (f : Bool), Lib.cut l [46] = (a, b, f) ∧ a.length ≤ l.length ∧ b.length ≤ l.length ∧ ((f = false ∧ toks l = [a]) ∨ (f = true ∧ toks l = a :: toks b ∧ b.length < l.length)) := by
  rcases cut_cases l with ⟨h1, h2⟩ | ⟨a, b, h0, h1, h2⟩
  · exact ⟨l, [], false, h2, Nat.le_refl _, Nat.zero_le _, .inl ⟨rfl, h1⟩⟩
  · refine ⟨a, b, true, h2, ?_, ?_, .inr ⟨rfl, h1, ?_⟩⟩ <;> rw [h0] <;> simp <;> omega

theorem ovl_step (l1 l2 a1 b1 a2 b2 : List UInt8) (f1 f2 : Bool) (h1 : (f1 = false ∧ toks l1 = [a1]) ∨ (f1 = true ∧ toks l1 = a1 :: toks b1)) (h2 : (f2 = false ∧ toks l2 = [a2]) ∨ (f2 = true ∧ toks l2 = a2 :: toks b2)) :
    ovl (toks l1) (toks l2) = if a1 == [62] || a2 == [62] then true else if !(meet a1 a2) then false else if !f1 || !f2 then f1 == f2 else ovl (toks b1) (toks b2) := by
  have n1 : (toks b1).isEmpty = false := by simpa using toks_ne b1
  have n2 : (toks b2).isEmpty = false := by simpa using toks_ne b2
  rcases h1 with ⟨rfl, e1⟩ | ⟨rfl, e1⟩ <;> rcases h2 with ⟨rfl, e2⟩ | ⟨rfl, e2⟩ <;> rw [e1, e2, ovl] <;> simp [n1, n2]

end Go.Proofs.Qxb6602628a.Plain
