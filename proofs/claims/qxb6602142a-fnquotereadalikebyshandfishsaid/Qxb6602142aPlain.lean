/-
  THE PLAIN MATHEMATICS of seat b6602142a: what shell.Quote gives, over lists of bytes; no Go in sight.
-/
namespace Go.Proofs.Qxb6602142a.Plain

/-- The bytes that mean nothing to any of the shells. -/
def safeB (c : UInt8) : Bool :=
  (97 ≤ c.toNat && c.toNat ≤ 122) || (65 ≤ c.toNat && c.toNat ≤ 90) || (48 ≤ c.toNat && c.toNat ≤ 57) ||
    c.toNat == 64 || c.toNat == 43 || c.toNat == 58 || c.toNat == 44 || c.toNat == 46 || c.toNat == 47 || c.toNat == 95 || c.toNat == 45

theorem safe_t (c : UInt8) (h : (97 ≤ c.toNat ∧ c.toNat ≤ 122) ∨ (65 ≤ c.toNat ∧ c.toNat ≤ 90) ∨ (48 ≤ c.toNat ∧ c.toNat ≤ 57) ∨ c.toNat = 64 ∨ c.toNat = 43 ∨ c.toNat = 58 ∨ c.toNat = 44 ∨ c.toNat = 46 ∨ c.toNat = 47 ∨ c.toNat = 95 ∨ c.toNat = 45) : safeB c = true := by
  simp only [safeB, Bool.or_eq_true, Bool.and_eq_true, decide_eq_true_eq, beq_iff_eq]
  omega

theorem safe_f (c : UInt8) (h : ¬ ((97 ≤ c.toNat ∧ c.toNat ≤ 122) ∨ (65 ≤ c.toNat ∧ c.toNat ≤ 90) ∨ (48 ≤ c.toNat ∧ c.toNat ≤ 57) ∨ c.toNat = 64 ∨ c.toNat = 43 ∨ c.toNat = 58 ∨ c.toNat = 44 ∨ c.toNat = 46 ∨ c.toNat = 47 ∨ c.toNat = 95 ∨ c.toNat = 45)) : safeB c = false := by
  rw [← Bool.not_eq_true]
  simp only [safeB, Bool.or_eq_true, Bool.and_eq_true, decide_eq_true_eq, beq_iff_eq]
  omega

def allSafe (l : List UInt8) : Bool := l.all safeB

/-- A byte that must stand outside the quotes. -/
def spec (c : UInt8) : Bool := c == 39 || c == 92

/-- What Quote's loop still writes, 'o': inside quotes. -/
def qgo : Bool → List UInt8 → List UInt8
  | o, [] => if o then [39] else []
  | o, c :: r => if spec c then (if o then [39] else []) ++ 92 :: c :: qgo false r else (if o then [] else [39]) ++ c :: qgo true r

def quote (l : List UInt8) : List UInt8 := if l = [] then [39, 39] else if allSafe l then l else qgo false l

theorem safe_not_spec (c : UInt8) (h : safeB c = true) : spec c = false := by
  have h1 : c ≠ 39 := by rintro rfl; revert h; decide
  have h2 : c ≠ 92 := by rintro rfl; revert h; decide
  simp [spec, h1, h2]

theorem qgo_len (l : List UInt8) : ∀ o, (qgo o l).length ≤ 4 * l.length + 1 := by
  induction l with
  | nil => intro o; cases o <;> simp [qgo]
  | cons c r ih =>
    intro o
    have h1 := ih true
    have h2 := ih false
    unfold qgo
    split <;> cases o <;> simp <;> omega

theorem quote_len (l : List UInt8) : (quote l).length ≤ 4 * l.length + 2 := by
  unfold quote
  have := qgo_len l false
  split
  · simp
  · split
    · omega
    · omega

/-! ### A reader: a machine of three states: 'q': inside quotes; 'e': a backslash was just read -/
def rd : Bool → Bool → List UInt8 → List UInt8
  | _, _, [] => []
  | q, true, c :: r => c :: rd q false r
  | true, false, c :: r => if c == 39 then rd false false r else c :: rd true false r
  | false, false, c :: r => if c == 92 then rd false true r else if c == 39 then rd true false r else c :: rd false false r

theorem rd_qgo (l : List UInt8) : ∀ o, rd o false (qgo o l) = l := by
  induction l with
  | nil => intro o; cases o <;> simp [qgo, rd]
  | cons c r ih =>
    intro o
    unfold qgo
    split
    next h =>
      cases o <;> simp [rd, ih false]
    next h =>
      have h' : ¬ c = 39 ∧ ¬ c = 92 := by simpa [spec] using h
      cases o <;> simp [rd, ih true, h'.1]

theorem rd_safe (l : List UInt8) (h : allSafe l = true) : rd false false l = l := by
  induction l with
  | nil => rfl
  | cons c r ih =>
    simp only [allSafe, List.all_cons, Bool.and_eq_true] at h
    have h' : ¬ c = 39 ∧ ¬ c = 92 := by simpa [spec] using safe_not_spec c h.1
    simp [rd, h'.1, h'.2, ih h.2]

theorem rd_quote (l : List UInt8) : rd false false (quote l) = l := by
  unfold quote
  split
  next h => subst h; simp [rd]
  next h =>
    split
    next h2 => exact rd_safe l h2
    next h2 => exact rd_qgo l false

theorem quote_inj (a b : List UInt8) : (quote a = quote b) ↔ (a = b) := by
  constructor
  · intro h
    have := congrArg (rd false false) h
    simpa [rd_quote] using this
  · rintro rfl; rfl

/-! ### Quote's answer as a row of pieces: '(some true, r)': the run r in quotes; '(some false, [c])': c behind a backslash; '(none, [c])': c as it is -/
def enc1 (t : Option Bool × List UInt8) : List UInt8 :=
  match t.1 with
  | some true => 39 :: (t.2 ++ [39])
  | some false => 92 :: t.2
  | none => t.2

def enc : List (Option Bool × List UInt8) → List UInt8
  | [] => []
  | t :: ts => enc1 t ++ enc ts

def dec : List (Option Bool × List UInt8) → List UInt8
  | [] => []
  | t :: ts => t.2 ++ dec ts

/-- A piece of its form. -/
def Ok1 (t : Option Bool × List UInt8) : Prop :=
  (t.1 = some true ∧ ∀ x ∈ t.2, spec x = false) ∨ (∃ c, t = (some false, [c]) ∧ spec c = true) ∨ (∃ c, t = (none, [c]) ∧ safeB c = true)

/-- The pieces of a text that needs quotes. -/
def rt : List UInt8 → List (Option Bool × List UInt8)
  | [] => []
  | c :: r => if spec c then (some false, [c]) :: rt r else
    match rt r with
    | (some true, run) :: ts => (some true, c :: run) :: ts
    | ts => (some true, [c]) :: ts

/-- .. of any text. -/
def toks (l : List UInt8) : List (Option Bool × List UInt8) := if l = [] then [(some true, [])] else if allSafe l then l.map (fun c => (none, [c])) else rt l

theorem dec_rt (l : List UInt8) : dec (rt l) = l := by
  induction l with
  | nil => rfl
  | cons c r ih =>
    unfold rt
    split
    · simp [dec, ih]
    · split
      next run ts h => rw [h] at ih; simp [dec] at ih ⊢; exact ih
      next ts h => simp [dec, ih]

theorem ok_rt (l : List UInt8) : ∀ t ∈ rt l, Ok1 t := by
  induction l with
  | nil => intro t h; simp [rt] at h
  | cons c r ih =>
    intro t h
    unfold rt at h
    split at h
    next hs =>
      rcases List.mem_cons.1 h with rfl | h
      · exact .inr (.inl ⟨c, rfl, hs⟩)
      · exact ih t h
    next hs =>
      have hs' : spec c = false := by simpa using hs
      split at h
      next run ts he =>
        rcases List.mem_cons.1 h with rfl | h
        · refine .inl ⟨rfl, fun x hx => ?_⟩
          rcases List.mem_cons.1 hx with rfl | hx
          · exact hs'
          · have h1 := ih (some true, run) (by rw [he]; exact List.mem_cons_self)
            rcases h1 with ⟨_, h1⟩ | ⟨d, h1, _⟩ | ⟨d, h1, _⟩
            · exact h1 x hx
            · simp at h1
            · simp at h1
        · exact ih t (by rw [he]; exact List.mem_cons_of_mem _ h)
      next ts =>
        rcases List.mem_cons.1 h with rfl | h
        · refine .inl ⟨rfl, fun x hx => ?_⟩
          simp at hx
          subst hx
          exact hs'
        · exact ih t h

/-- The pieces of a text that needs quotes: no empty run, and no run behind a run ('p': a run stands ahead). -/
def Canon : Bool → List (Option Bool × List UInt8) → Prop
  | _, [] => True
  | p, t :: ts => (t.1 = some true → p = false ∧ t.2 ≠ []) ∧ t.1 ≠ none ∧ Canon (t.1 == some true) ts

theorem canon_rt (l : List UInt8) : Canon false (rt l) := by
  induction l with
  | nil => simp [rt, Canon]
  | cons c r ih =>
    unfold rt
    split
    · refine ⟨by simp, by simp, ?_⟩
      simpa using ih
    · split
      next run ts h =>
        rw [h] at ih
        obtain ⟨h1, h2, h3⟩ := ih
        exact ⟨by simp, by simp, by simpa using h3⟩
      next ts h =>
        refine ⟨by simp, by simp, ?_⟩
        cases hr : rt r with
        | nil => simp [Canon]
        | cons t ts' =>
          rw [hr] at ih
          obtain ⟨h1, h2, h3⟩ := ih
          obtain ⟨k, x⟩ := t
          refine ⟨fun hk => ?_, h2, h3⟩
          simp only at hk
          subst hk
          exact absurd hr (h x ts')

theorem enc_rt (l : List UInt8) : enc (rt l) = qgo false l ∧
    qgo true l = (match rt l with | (some true, run) :: ts => run ++ 39 :: enc ts | ts => 39 :: enc ts) := by
  induction l with
  | nil => simp [rt, enc, qgo]
  | cons c r ih =>
    obtain ⟨ih1, ih2⟩ := ih
    unfold rt qgo
    split
    · simp [enc, enc1, ih1]
    · cases hr : rt r with
      | nil => rw [hr] at ih2; simp [enc, enc1, ih2]
      | cons t ts =>
        obtain ⟨k, x⟩ := t
        rw [hr] at ih2
        rcases k with _ | k
        · simp [enc, enc1] at ih2 ⊢; exact ⟨ih2.symm, ih2⟩
        · cases k
          · simp [enc, enc1] at ih2 ⊢; exact ⟨ih2.symm, ih2⟩
          · simp [enc, enc1] at ih2 ⊢; exact ⟨ih2.symm, ih2⟩

theorem enc_map (l : List UInt8) : enc (l.map (fun c => (none, [c]))) = l := by
  induction l with
  | nil => rfl
  | cons c r ih => simpa [enc, enc1] using ih

theorem dec_map (l : List UInt8) : dec (l.map (fun c => (none, [c]))) = l := by
  induction l with
  | nil => rfl
  | cons c r ih => simpa [dec] using ih

theorem enc_toks (l : List UInt8) : enc (toks l) = quote l := by
  unfold toks quote
  split
  · simp [enc, enc1]
  · split
    · exact enc_map l
    · exact (enc_rt l).1

theorem dec_toks (l : List UInt8) : dec (toks l) = l := by
  unfold toks
  split
  next h => subst h; rfl
  next h =>
    split
    · exact dec_map l
    · exact dec_rt l

theorem ok_toks (l : List UInt8) : ∀ t ∈ toks l, Ok1 t := by
  intro t ht
  unfold toks at ht
  split at ht
  · simp at ht
    subst ht
    exact .inl ⟨rfl, by simp⟩
  · split at ht
    next hs =>
      obtain ⟨c, hc, rfl⟩ := List.mem_map.1 ht
      exact .inr (.inr ⟨c, rfl, List.all_eq_true.1 hs c hc⟩)
    · exact ok_rt l t ht

end Go.Proofs.Qxb6602142a.Plain
