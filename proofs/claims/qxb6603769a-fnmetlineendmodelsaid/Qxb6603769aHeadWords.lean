import Derived.Test.Qxb6603769aRows
import Derived.JoinedOf
namespace Go.Proofs.Qxb6603769a
/-- The words of the dump's head, by their signs' numbers. -/
def headA : List Char := List.map Char.ofNat [104, 97, 114, 110, 101, 115, 115]
def headB : List Char := List.map Char.ofNat [53, 57, 102, 54, 100, 99, 54, 48, 55, 55, 53, 52, 54, 54, 54, 100, 101, 100, 56, 99, 99, 49, 49, 51, 52, 98, 53, 49, 53, 54, 98, 97, 55, 102, 49, 97, 55, 53, 50, 50, 98, 98, 102, 48, 99, 52, 97, 53, 51, 97, 52, 50, 49, 57, 102, 97, 97, 55, 100, 51, 55, 101, 51, 102]
def headC : List Char := List.map Char.ofNat [99, 117, 116]
def headR : List Char := List.map Char.ofNat [97, 116, 32, 101, 120, 97, 109, 112, 108, 101, 46, 99, 111, 109, 47, 118, 101, 115, 116, 108, 105, 110, 101, 47, 118, 101, 115, 116, 108, 105, 110, 101, 47, 122, 122, 108, 97, 119, 115, 95, 105, 110, 112, 117, 116, 95, 98, 49, 46, 70, 110, 77, 101, 116, 76, 105, 110, 101, 69, 110, 100, 77, 111, 100, 101, 108]
set_option maxRecDepth 100000 in
theorem head_is : Try.prog.initOrder = String.ofList (headA ++ ' ' :: (headB ++ ' ' :: (headC ++ ' ' :: headR))) := by kernel_rfl
theorem words_step (r : List Char) : ∀ w : List Char, w.all (fun c => c != ' ') = true → wordsSigns (w ++ ' ' :: r) = w :: wordsSigns r
  | [], _ => by rw [List.nil_append, wordsSigns]
  | c :: w, h => by
    rw [List.all_cons, Bool.and_eq_true] at h
    have ih := words_step r w h.2
    have hc : c ≠ ' ' := by simpa using h.1
    rw [List.cons_append, wordsSigns, ih]
    exact fun e => hc e
theorem head_words : wordsSigns Try.prog.initOrder.toList = headA :: headB :: headC :: wordsSigns headR := by
  rw [head_is, String.toList_ofList, words_step _ headA (by kernel_rfl), words_step _ headB (by kernel_rfl), words_step _ headC (by kernel_rfl)]
theorem behind (A B C : List Char) (R : List (List Char)) (hA : (A == "harness".toList) = true) (hB : isSumSigns B = true) : behindMainWord (A :: B :: C :: R) = C :: R := by
  show (if ((A == "harness".toList || A == "ownmain".toList) && isSumSigns B) = true then C :: R else A :: B :: C :: R) = C :: R
  rw [if_pos (by rw [hA, hB]; rfl)]
theorem head_behind : behindMainWord (wordsSigns Try.prog.initOrder.toList) = headC :: wordsSigns headR := by
  rw [head_words]
  exact behind _ _ _ _ (by kernel_rfl) (by kernel_rfl)
theorem make_of (P : Program) (C : List Char) (R : List (List Char)) (h : behindMainWord (wordsSigns P.initOrder.toList) = C :: R) (h1 : (C == "gc".toList || C == "spec".toList) = false) (h2 : (C == "cut".toList) = true) : P.make = some .cut := by
  unfold Program.make
  rw [h]
  show (if (C == "gc".toList || C == "spec".toList) = true then _ else if (C == "cut".toList || _) = true then _ else _) = _
  rw [h1, if_neg Bool.false_ne_true, h2, Bool.true_or, if_pos rfl]
theorem head_make : Try.prog.make = some .cut := make_of _ _ _ head_behind (by kernel_rfl) (by kernel_rfl)
theorem may_of (P : Program) (C : List Char) (R : List (List Char)) (h : behindMainWord (wordsSigns P.initOrder.toList) = C :: R) (h1 : (C == "gc".toList || C == "spec".toList) = false) (h2 : (C == "carried".toList) = false)
    (h3 : (stripLifts liftWords (C :: R)) = ([], C :: R)) (h4 : (C == "cut".toList) = true) (hl : P.laysLater = false) (hr : P.bearsReflect = false) (hd : P.doorFits [] = true) : P.mayEnter = true := by
  unfold Program.mayEnter
  rw [h]
  have e : (some C == some "cut".toList) = true := h4
  simp only [h1, h2, h3, hl, hr, hd, Bool.false_and, Bool.false_or, List.head?_cons, e, Bool.not_false, Bool.or_true, Bool.and_true, List.contains_nil]
theorem lifts_none : stripLifts liftWords (headC :: wordsSigns headR) = ([], headC :: wordsSigns headR) := by
  generalize wordsSigns headR = R
  kernel_rfl
theorem head_may : Try.prog.mayEnter = true :=
  may_of _ _ _ head_behind (by kernel_rfl) (by kernel_rfl) lifts_none (by kernel_rfl) (by kernel_rfl) (by kernel_rfl) (by kernel_rfl)
theorem head_lifts : Try.prog.headLifts = [] := by
  have e : Try.prog.headLifts = if (stripLifts liftWords (behindMainWord (wordsSigns Try.prog.initOrder.toList))).2.head? == some "cut".toList then (stripLifts liftWords (behindMainWord (wordsSigns Try.prog.initOrder.toList))).1 else [] := rfl
  rw [e, head_behind, lifts_none]
  split <;> rfl
theorem final_of (P : Program) (C : List Char) (R : List (List Char)) (h : behindMainWord (wordsSigns P.initOrder.toList) = C :: R) (h1 : (C == "carried".toList) = false) (h2 : P.headLifts = []) : P.liftsFinal = false := by
  unfold Program.liftsFinal
  rw [h, h2]
  have e : (some C == some "carried".toList) = false := h1
  simp only [List.head?_cons, e, Bool.false_and, Bool.false_or, List.contains_nil]
theorem head_final : Try.prog.liftsFinal = false := final_of _ _ _ head_behind (by kernel_rfl) head_lifts
end Go.Proofs.Qxb6603769a
