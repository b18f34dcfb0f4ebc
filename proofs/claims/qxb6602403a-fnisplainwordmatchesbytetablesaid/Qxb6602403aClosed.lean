/-
  THE ROW's CLOSED FACTS. The dump's head (the program's 'initOrder') is long: the kernel's own run over it outgrows the lid on memory. Here its first words are read off by a law on words; the rest of it is never looked into.
-/
import Derived.Test.Qxb6602403aRows
import Derived.JoinedOf
namespace Go.Proofs.Qxb6602403a

/-- The head's signs, as numbers: its first three words, and the rest. -/
def headA : List Nat := [
  104, 97, 114, 110, 101, 115, 115]
def headB : List Nat := [
  97, 101, 54, 49, 54, 102, 98, 102, 51, 49, 55, 53, 101, 56, 100, 57, 101, 48, 52, 53, 48, 97, 52, 54, 99, 102, 101, 101, 98, 49, 52, 56, 101, 48, 98, 56, 49, 55, 49, 99, 54, 99, 50,
  55, 52, 100, 51, 55, 50, 55, 101, 97, 49, 55, 50, 50, 52, 57, 49, 100, 55, 50, 51, 57]
def headC : List Nat := [
  99, 117, 116]
def headR : List Nat := [
  97, 116, 32, 101, 120, 97, 109, 112, 108, 101, 46, 99, 111, 109, 47, 114, 117, 100, 100, 101, 114, 98, 111, 111, 107, 47, 114, 117, 100, 100, 101, 114, 98, 111, 111, 107, 47, 122,
  122, 108, 97, 119, 115, 95, 105, 110, 116, 101, 114, 110, 97, 108, 95, 107, 117, 98, 101, 99, 111, 110, 102, 105, 103, 95, 98, 49, 46, 70, 110, 81, 117, 111, 116, 101, 100, 69, 110,
  100, 77, 97, 116, 99, 104, 101, 115, 77, 111, 100, 101, 108, 32, 101, 120, 97, 109, 112, 108, 101, 46, 99, 111, 109, 47, 114, 117, 100, 100, 101, 114, 98, 111, 111, 107, 47, 114,
  117, 100, 100, 101, 114, 98, 111, 111, 107, 47, 122, 122, 108, 97, 119, 115, 95, 105, 110, 116, 101, 114, 110, 97, 108, 95, 107, 117, 98, 101, 99, 111, 110, 102, 105, 103, 95, 98,
  49, 46, 70, 110, 81, 117, 111, 116, 101, 100, 69, 110, 100, 70, 105, 110, 100, 115, 69, 110, 100, 79, 102, 87, 114, 105, 116, 116, 101, 110, 83, 99, 97, 108, 97, 114, 32, 101, 120,
  97, 109, 112, 108, 101, 46, 99, 111, 109, 47, 114, 117, 100, 100, 101, 114, 98, 111, 111, 107, 47, 114, 117, 100, 100, 101, 114, 98, 111, 111, 107, 47, 122, 122, 108, 97, 119, 115,
  95, 105, 110, 116, 101, 114, 110, 97, 108, 95, 107, 117, 98, 101, 99, 111, 110, 102, 105, 103, 95, 98, 49, 46, 70, 110, 81, 117, 111, 116, 101, 100, 69, 110, 100, 73, 103, 110, 111,
  114, 101, 115, 66, 121, 116, 101, 115, 65, 102, 116, 101, 114, 67, 108, 111, 115, 101, 32, 101, 120, 97, 109, 112, 108, 101, 46, 99, 111, 109, 47, 114, 117, 100, 100, 101, 114, 98,
  111, 111, 107, 47, 114, 117, 100, 100, 101, 114, 98, 111, 111, 107, 47, 122, 122, 108, 97, 119, 115, 95, 105, 110, 116, 101, 114, 110, 97, 108, 95, 107, 117, 98, 101, 99, 111, 110,
  102, 105, 103, 95, 98, 49, 46, 70, 110, 73, 115, 80, 108, 97, 105, 110, 87, 111, 114, 100, 77, 97, 116, 99, 104, 101, 115, 66, 121, 116, 101, 84, 97, 98, 108, 101, 32, 101, 120, 97,
  109, 112, 108, 101, 46, 99, 111, 109, 47, 114, 117, 100, 100, 101, 114, 98, 111, 111, 107, 47, 114, 117, 100, 100, 101, 114, 98, 111, 111, 107, 47, 122, 122, 108, 97, 119, 115, 95,
  105, 110, 116, 101, 114, 110, 97, 108, 95, 107, 117, 98, 101, 99, 111, 110, 102, 105, 103, 95, 98, 49, 46, 70, 110, 73, 115, 80, 108, 97, 105, 110, 87, 111, 114, 100, 67, 111, 110,
  99, 97, 116, 32, 101, 120, 97, 109, 112, 108, 101, 46, 99, 111, 109, 47, 114, 117, 100, 100, 101, 114, 98, 111, 111, 107, 47, 114, 117, 100, 100, 101, 114, 98, 111, 111, 107, 47,
  122, 122, 108, 97, 119, 115, 95, 105, 110, 116, 101, 114, 110, 97, 108, 95, 107, 117, 98, 101, 99, 111, 110, 102, 105, 103, 95, 98, 49, 46, 70, 110, 73, 115, 84, 101, 109, 112, 79,
  102, 77, 97, 116, 99, 104, 101, 115, 82, 101, 98, 117, 105, 108, 100, 32, 101, 120, 97, 109, 112, 108, 101, 46, 99, 111, 109, 47, 114, 117, 100, 100, 101, 114, 98, 111, 111, 107,
  47, 114, 117, 100, 100, 101, 114, 98, 111, 111, 107, 47, 122, 122, 108, 97, 119, 115, 95, 105, 110, 116, 101, 114, 110, 97, 108, 95, 107, 117, 98, 101, 99, 111, 110, 102, 105, 103,
  95, 98, 49, 46, 70, 110, 73, 115, 84, 101, 109, 112, 79, 102, 79, 119, 110, 101, 114, 73, 115, 85, 110, 105, 113, 117, 101, 32, 101, 120, 97, 109, 112, 108, 101, 46, 99, 111, 109,
  47, 114, 117, 100, 100, 101, 114, 98, 111, 111, 107, 47, 114, 117, 100, 100, 101, 114, 98, 111, 111, 107, 47, 122, 122, 108, 97, 119, 115, 95, 105, 110, 116, 101, 114, 110, 97, 108,
  95, 107, 117, 98, 101, 99, 111, 110, 102, 105, 103, 95, 98, 49, 46, 70, 110, 73, 115, 84, 101, 109, 112, 79, 102, 82, 101, 102, 117, 115, 101, 115, 84, 101, 109, 112, 79, 102, 76,
  111, 110, 103, 101, 114, 78, 97, 109, 101]

def chars (l : List Nat) : List Char := l.map Char.ofNat

theorem order_is : Try.prog.initOrder = String.ofList (chars (headA ++ 32 :: (headB ++ 32 :: (headC ++ 32 :: headR)))) := by kernel_rfl

theorem order_list : Try.prog.initOrder.toList = chars headA ++ ' ' :: (chars headB ++ ' ' :: (chars headC ++ ' ' :: chars headR)) := by
  rw [order_is, String.toList_ofList]
  simp only [chars, List.map_append, List.map_cons]

/-- A word, a blank: the word is split off. -/
theorem words_cons : ∀ (w r : List Char), (∀ c ∈ w, c ≠ ' ') → wordsSigns (w ++ ' ' :: r) = w :: wordsSigns r
  | [], r, _ => by simp [wordsSigns]
  | c :: w, r, h => by
    have hc : c ≠ ' ' := h c (by simp)
    have ih := words_cons w r (fun x hx => h x (by simp [hx]))
    rw [List.cons_append, wordsSigns.eq_3 _ _ (fun e => hc e), ih]

theorem noBlank (l : List Nat) (h : (l.all fun n => (Char.ofNat n != ' ')) = true) : ∀ c ∈ chars l, c ≠ ' ' := by
  intro c hc
  obtain ⟨n, hn, rfl⟩ := List.mem_map.1 hc
  have := List.all_eq_true.1 h n hn
  simpa using this

theorem words_head : wordsSigns Try.prog.initOrder.toList = chars headA :: chars headB :: chars headC :: wordsSigns (chars headR) := by
  rw [order_list, words_cons _ _ (noBlank headA (by kernel_rfl)), words_cons _ _ (noBlank headB (by kernel_rfl)), words_cons _ _ (noBlank headC (by kernel_rfl))]

theorem behind_main (X : List (List Char)) : behindMainWord (chars headA :: chars headB :: chars headC :: X) = "cut".toList :: X := by kernel_rfl

theorem behind_head : behindMainWord (wordsSigns Try.prog.initOrder.toList) = "cut".toList :: wordsSigns (chars headR) := by
  rw [words_head, behind_main]

theorem enter_of (P : Program) (X : List (List Char)) (h : behindMainWord (wordsSigns P.initOrder.toList) = "cut".toList :: X) (h1 : P.laysLater = false) (h2 : P.bearsReflect = false) (h3 : P.doorFits [] = true) : P.mayEnter = true := by
  unfold Program.mayEnter
  rw [h]
  have e : stripLifts liftWords ("cut".toList :: X) = ([], "cut".toList :: X) := by kernel_rfl
  dsimp only
  rw [e, h1, h2]
  dsimp only
  rw [h3]
  show (_ : Bool) = true
  kernel_rfl

theorem lifts_of (P : Program) (X : List (List Char)) (h : behindMainWord (wordsSigns P.initOrder.toList) = "cut".toList :: X) : P.headLifts = [] := by
  unfold Program.headLifts
  rw [h]
  have e : stripLifts liftWords ("cut".toList :: X) = ([], "cut".toList :: X) := by kernel_rfl
  dsimp only
  rw [e]
  show (_ : List String) = []
  kernel_rfl

theorem make_of (P : Program) (X : List (List Char)) (h : behindMainWord (wordsSigns P.initOrder.toList) = "cut".toList :: X) : P.make = some .cut := by
  unfold Program.make
  rw [h]
  have e1 : ("cut".toList == "gc".toList || "cut".toList == "spec".toList) = false := by kernel_rfl
  have e2 : ("cut".toList == "cut".toList) = true := by kernel_rfl
  simp only [e1, e2, Bool.true_or, if_true, Bool.false_eq_true, if_false]

theorem final_of (P : Program) (X : List (List Char)) (h : behindMainWord (wordsSigns P.initOrder.toList) = "cut".toList :: X) : P.liftsFinal = false := by
  unfold Program.liftsFinal
  rw [lifts_of P X h, h]
  kernel_rfl

theorem mayEnter : Try.prog.mayEnter = true := enter_of _ _ behind_head (by kernel_rfl) (by kernel_rfl) (by kernel_rfl)
theorem make : Try.prog.make = some .cut := make_of _ _ behind_head
theorem liftsFinal : Try.prog.liftsFinal = false := final_of _ _ behind_head

theorem closed6 : joinedFacts Try.prog 6 Try.f6 Rows.fnIsPlainWordMatchesByteTableSpec Rows.fnIsPlainWordMatchesByteTableRow = true := by
  rw [joinedFacts]
  simp only [Bool.and_eq_true]
  and_intros
  iterate 25 (focus (as_aux_lemma => kernel_rfl))
  · exact mayEnter
  · rw [liftsFinal]
    kernel_rfl
  · rw [make]
    kernel_rfl
  iterate 4 (focus (as_aux_lemma => kernel_rfl))

end Go.Proofs.Qxb6602403a
