/-
  THE ROW's CLOSED FACTS. The dump's head (the program's 'initOrder') is long: the kernel's own run over it outgrows the lid on memory. Here its first words are read off by a law on words; the rest of it is never looked into.
-/
import Derived.Test.Qxb6602263aRows
import Derived.JoinedOf
namespace Go.Proofs.Qxb6602263a

/-- The head's signs, as numbers: its first three words, and the rest. -/
def headA : List Nat := [
  104, 97, 114, 110, 101, 115, 115]
def headB : List Nat := [
  100, 102, 102, 54, 98, 53, 50, 56, 50, 51, 98, 57, 99, 51, 55, 97, 57, 48, 102, 52, 48, 54, 50, 55, 50, 55, 53, 97, 101, 102, 100, 100, 98, 54, 55, 97, 102, 50, 102, 100, 54, 97,
  49, 52, 57, 99, 56, 51, 102, 49, 53, 101, 52, 98, 102, 54, 102, 56, 100, 101, 57, 54, 51, 100]
def headC : List Nat := [
  99, 117, 116]
def headR : List Nat := [
  97, 116, 32, 101, 120, 97, 109, 112, 108, 101, 46, 99, 111, 109, 47, 115, 104, 111, 114, 116, 119, 105, 114, 101, 47, 115, 104, 111, 114, 116, 119, 105, 114, 101, 47, 122, 122, 108,
  97, 119, 115, 95, 112, 107, 103, 95, 112, 100, 117, 95, 98, 49, 46, 70, 110, 82, 101, 99, 101, 105, 112, 116, 70, 105, 101, 108, 100, 77, 97, 116, 99, 104, 101, 115, 83, 99, 97, 110,
  77, 111, 100, 101, 108, 32, 101, 120, 97, 109, 112, 108, 101, 46, 99, 111, 109, 47, 115, 104, 111, 114, 116, 119, 105, 114, 101, 47, 115, 104, 111, 114, 116, 119, 105, 114, 101, 47,
  122, 122, 108, 97, 119, 115, 95, 112, 107, 103, 95, 112, 100, 117, 95, 98, 49, 46, 70, 110, 82, 101, 99, 101, 105, 112, 116, 70, 105, 101, 108, 100, 82, 101, 97, 100, 115, 76, 101,
  97, 100, 105, 110, 103, 70, 105, 101, 108, 100, 32, 101, 120, 97, 109, 112, 108, 101, 46, 99, 111, 109, 47, 115, 104, 111, 114, 116, 119, 105, 114, 101, 47, 115, 104, 111, 114, 116,
  119, 105, 114, 101, 47, 122, 122, 108, 97, 119, 115, 95, 112, 107, 103, 95, 112, 100, 117, 95, 98, 49, 46, 70, 110, 82, 101, 99, 101, 105, 112, 116, 70, 105, 101, 108, 100, 83, 104,
  105, 102, 116, 115, 85, 110, 100, 101, 114, 76, 101, 97, 100, 105, 110, 103, 83, 112, 97, 99, 101, 32, 101, 120, 97, 109, 112, 108, 101, 46, 99, 111, 109, 47, 115, 104, 111, 114,
  116, 119, 105, 114, 101, 47, 115, 104, 111, 114, 116, 119, 105, 114, 101, 47, 122, 122, 108, 97, 119, 115, 95, 112, 107, 103, 95, 112, 100, 117, 95, 98, 49, 46, 70, 110, 82, 101,
  99, 101, 105, 112, 116, 87, 97, 110, 116, 101, 100, 79, 110, 83, 117, 99, 99, 101, 115, 115, 73, 109, 112, 108, 105, 101, 115, 79, 110, 70, 97, 105, 108, 117, 114, 101, 32, 101, 120,
  97, 109, 112, 108, 101, 46, 99, 111, 109, 47, 115, 104, 111, 114, 116, 119, 105, 114, 101, 47, 115, 104, 111, 114, 116, 119, 105, 114, 101, 47, 122, 122, 108, 97, 119, 115, 95, 112,
  107, 103, 95, 112, 100, 117, 95, 98, 49, 46, 70, 110, 82, 101, 99, 101, 105, 112, 116, 87, 97, 110, 116, 101, 100, 82, 101, 97, 100, 115, 79, 110, 108, 121, 76, 111, 119, 84, 119,
  111, 66, 105, 116, 115]

def chars (l : List Nat) : List Char := l.map Char.ofNat

theorem order_is : Try.prog.initOrder = String.ofList (chars (headA ++ 32 :: (headB ++ 32 :: (headC ++ 32 :: headR)))) := by kernel_rfl

theorem order_list : Try.prog.initOrder.toList = chars headA ++ ' ' :: (chars headB ++ ' ' :: (chars headC ++ ' ' :: chars headR)) := by
  rw [order_is, String.toList_ofList]
  simp only [chars, List.map_append, List.map_cons]

/-- A word, a blank: the word is split off. -/
theorem words_cons : ∀ (w r : List Char), (∀ c ∈ w, c ≠ ' ') → wordsSigns (w ++ ' ' :: r) = w :: wordsSigns r
  | [], r, _ => by simp [wordsSigns]
  | c :: w, r, h => by
    have hc : c ≠ ' ' := h c (by simp)
    have ih := words_cons w r (fun x hx => h x (by simp [hx]))
    rw [List.cons_append, wordsSigns.eq_3 _ _ (fun e => hc e), ih]

theorem noBlank (l : List Nat) (h : (l.all fun n => (Char.ofNat n != ' ')) = true) : ∀ c ∈ chars l, c ≠ ' ' := by
  intro c hc
  obtain ⟨n, hn, rfl⟩ := List.mem_map.1 hc
  have := List.all_eq_true.1 h n hn
  simpa using this

theorem words_head : wordsSigns Try.prog.initOrder.toList = chars headA :: chars headB :: chars headC :: wordsSigns (chars headR) := by
  rw [order_list, words_cons _ _ (noBlank headA (by kernel_rfl)), words_cons _ _ (noBlank headB (by kernel_rfl)), words_cons _ _ (noBlank headC (by kernel_rfl))]

theorem behind_main (X : List (List Char)) : behindMainWord (chars headA :: chars headB :: chars headC :: X) = "cut".toList :: X := by kernel_rfl

theorem behind_head : behindMainWord (wordsSigns Try.prog.initOrder.toList) = "cut".toList :: wordsSigns (chars headR) := by
  rw [words_head, behind_main]

theorem enter_of (P : Program) (X : List (List Char)) (h : behindMainWord (wordsSigns P.initOrder.toList) = "cut".toList :: X) (h1 : P.laysLater = false) (h2 : P.bearsReflect = false) (h3 : P.doorFits [] = true) : P.mayEnter = true := by
  unfold Program.mayEnter
  rw [h]
  have e : stripLifts liftWords ("cut".toList :: X) = ([], "cut".toList :: X) := by kernel_rfl
  dsimp only
  rw [e, h1, h2]
  dsimp only
  rw [h3]
  show (_ : Bool) = true
  kernel_rfl

theorem lifts_of (P : Program) (X : List (List Char)) (h : behindMainWord (wordsSigns P.initOrder.toList) = "cut".toList :: X) : P.headLifts = [] := by
  unfold Program.headLifts
  rw [h]
  have e : stripLifts liftWords ("cut".toList :: X) = ([], "cut".toList :: X) := by kernel_rfl
  dsimp only
  rw [e]
  show (_ : List String) = []
  kernel_rfl

theorem make_of (P : Program) (X : List (List Char)) (h : behindMainWord (wordsSigns P.initOrder.toList) = "cut".toList :: X) : P.make = some .cut := by
  unfold Program.make
  rw [h]
  have e1 : ("cut".toList == "gc".toList || "cut".toList == "spec".toList) = false := by kernel_rfl
  have e2 : ("cut".toList == "cut".toList) = true := by kernel_rfl
  simp only [e1, e2, Bool.true_or, if_true, Bool.false_eq_true, if_false]

theorem final_of (P : Program) (X : List (List Char)) (h : behindMainWord (wordsSigns P.initOrder.toList) = "cut".toList :: X) : P.liftsFinal = false := by
  unfold Program.liftsFinal
  rw [lifts_of P X h, h]
  kernel_rfl

theorem mayEnter : Try.prog.mayEnter = true := enter_of _ _ behind_head (by kernel_rfl) (by kernel_rfl) (by kernel_rfl)
theorem make : Try.prog.make = some .cut := make_of _ _ behind_head
theorem liftsFinal : Try.prog.liftsFinal = false := final_of _ _ behind_head

theorem closed3 : joinedFacts Try.prog 3 Try.f3 Rows.fnReceiptFieldMatchesScanModelSpec Rows.fnReceiptFieldMatchesScanModelRow = true := by
  rw [joinedFacts]
  simp only [Bool.and_eq_true]
  and_intros
  iterate 25 (focus (as_aux_lemma => kernel_rfl))
  · exact mayEnter
  · rw [liftsFinal]
    kernel_rfl
  · rw [make]
    kernel_rfl
  iterate 4 (focus (as_aux_lemma => kernel_rfl))

theorem closed4 : joinedFacts Try.prog 4 Try.f4 Rows.fnReceiptFieldReadsLeadingFieldSpec Rows.fnReceiptFieldReadsLeadingFieldRow = true := by
  rw [joinedFacts]
  simp only [Bool.and_eq_true]
  and_intros
  iterate 25 (focus (as_aux_lemma => kernel_rfl))
  · exact mayEnter
  · rw [liftsFinal]
    kernel_rfl
  · rw [make]
    kernel_rfl
  iterate 4 (focus (as_aux_lemma => kernel_rfl))

end Go.Proofs.Qxb6602263a
