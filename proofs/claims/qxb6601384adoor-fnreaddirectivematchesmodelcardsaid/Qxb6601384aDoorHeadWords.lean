import Derived.Test.Qxb6601384aDoorRows
import Derived.JoinedOf
namespace Go.Proofs.Qxb6601384aDoor
/-- The words of the dump's head, by their signs' numbers. -/
def headA : List Char := List.map Char.ofNat [104, 97, 114, 110, 101, 115, 115]
def headB : List Char := List.map Char.ofNat [53, 51, 51, 55, 55, 56, 97, 53, 99, 101, 53, 57, 56, 56, 57, 98, 55, 50, 98, 102, 100, 52, 97, 99, 100, 56, 49, 53, 48, 102, 101, 48, 102, 102, 50, 57, 51, 97, 101, 52, 48, 99, 100, 48, 102, 101, 53, 52, 48, 53, 55, 48, 55, 99, 48, 99, 55, 56, 98, 56, 97, 51, 100, 48]
def headC : List Char := List.map Char.ofNat [99, 117, 116]
def headR : List Char := List.map Char.ofNat [97, 116, 32, 101, 120, 97, 109, 112, 108, 101, 46, 99, 111, 109, 47, 112, 108, 97, 99, 101, 104, 111, 108, 100, 101, 114, 47, 112, 108, 97, 99, 101, 104, 111, 108, 100, 101, 114, 47, 122, 122, 108, 97, 119, 115, 95, 105, 110, 116, 101, 114, 110, 97, 108, 95, 100, 97, 116, 101, 116, 105, 109, 101, 95, 98, 49, 46, 70, 110, 82, 101, 97, 100, 68, 105, 114, 101, 99, 116, 105, 118, 101, 77, 97, 116, 99, 104, 101, 115, 77, 111, 100, 101, 108, 32, 101, 120, 97, 109, 112, 108, 101, 46, 99, 111, 109, 47, 112, 108, 97, 99, 101, 104, 111, 108, 100, 101, 114, 47, 112, 108, 97, 99, 101, 104, 111, 108, 100, 101, 114, 47, 122, 122, 108, 97, 119, 115, 95, 105, 110, 116, 101, 114, 110, 97, 108, 95, 100, 97, 116, 101, 116, 105, 109, 101, 95, 98, 49, 46, 70, 110, 82, 101, 97, 100, 68, 105, 114, 101, 99, 116, 105, 118, 101, 82, 101, 97, 100, 115, 79, 110, 108, 121, 73, 116, 115, 79, 119, 110, 66, 121, 116, 101, 115, 32, 101, 120, 97, 109, 112, 108, 101, 46, 99, 111, 109, 47, 112, 108, 97, 99, 101, 104, 111, 108, 100, 101, 114, 47, 112, 108, 97, 99, 101, 104, 111, 108, 100, 101, 114, 47, 122, 122, 108, 97, 119, 115, 95, 105, 110, 116, 101, 114, 110, 97, 108, 95, 100, 97, 116, 101, 116, 105, 109, 101, 95, 98, 49, 46, 70, 110, 82, 101, 97, 100, 68, 105, 114, 101, 99, 116, 105, 118, 101, 67, 97, 110, 111, 110, 105, 99, 97, 108, 82, 111, 117, 110, 100, 84, 114, 105, 112]
set_option maxRecDepth 100000 in
theorem head_is : Tryd.prog.initOrder = String.ofList (headA ++ ' ' :: (headB ++ ' ' :: (headC ++ ' ' :: headR))) := by kernel_rfl
theorem words_step (r : List Char) : ∀ w : List Char, w.all (fun c => c != ' ') = true → wordsSigns (w ++ ' ' :: r) = w :: wordsSigns r
  | [], _ => by rw [List.nil_append, wordsSigns]
  | c :: w, h => by
    rw [List.all_cons, Bool.and_eq_true] at h
    have ih := words_step r w h.2
    have hc : c ≠ ' ' := by simpa using h.1
    rw [List.cons_append, wordsSigns, ih]
    exact fun e => hc e
theorem head_words : wordsSigns Tryd.prog.initOrder.toList = headA :: headB :: headC :: wordsSigns headR := by
  rw [head_is, String.toList_ofList, words_step _ headA (by kernel_rfl), words_step _ headB (by kernel_rfl), words_step _ headC (by kernel_rfl)]
theorem behind (A B C : List Char) (R : List (List Char)) (hA : (A == "harness".toList) = true) (hB : isSumSigns B = true) : behindMainWord (A :: B :: C :: R) = C :: R := by
  show (if ((A == "harness".toList || A == "ownmain".toList) && isSumSigns B) = true then C :: R else A :: B :: C :: R) = C :: R
  rw [if_pos (by rw [hA, hB]; rfl)]
theorem head_behind : behindMainWord (wordsSigns Tryd.prog.initOrder.toList) = headC :: wordsSigns headR := by
  rw [head_words]
  exact behind _ _ _ _ (by kernel_rfl) (by kernel_rfl)
theorem make_of (P : Program) (C : List Char) (R : List (List Char)) (h : behindMainWord (wordsSigns P.initOrder.toList) = C :: R) (h1 : (C == "gc".toList || C == "spec".toList) = false) (h2 : (C == "cut".toList) = true) : P.make = some .cut := by
  unfold Program.make
  rw [h]
  show (if (C == "gc".toList || C == "spec".toList) = true then _ else if (C == "cut".toList || _) = true then _ else _) = _
  rw [h1, if_neg Bool.false_ne_true, h2, Bool.true_or, if_pos rfl]
theorem head_make : Tryd.prog.make = some .cut := make_of _ _ _ head_behind (by kernel_rfl) (by kernel_rfl)
theorem may_of (P : Program) (C : List Char) (R : List (List Char)) (h : behindMainWord (wordsSigns P.initOrder.toList) = C :: R) (h1 : (C == "gc".toList || C == "spec".toList) = false) (h2 : (C == "carried".toList) = false)
    (h3 : (stripLifts liftWords (C :: R)) = ([], C :: R)) (h4 : (C == "cut".toList) = true) (hl : P.laysLater = false) (hr : P.bearsReflect = false) (hd : P.doorFits [] = true) : P.mayEnter = true := by
  unfold Program.mayEnter
  rw [h]
  have e : (some C == some "cut".toList) = true := h4
  simp only [h1, h2, h3, hl, hr, hd, Bool.false_and, Bool.false_or, List.head?_cons, e, Bool.not_false, Bool.or_true, Bool.and_true, List.contains_nil]
theorem lifts_none : stripLifts liftWords (headC :: wordsSigns headR) = ([], headC :: wordsSigns headR) := by
  generalize wordsSigns headR = R
  kernel_rfl
theorem head_may : Tryd.prog.mayEnter = true :=
  may_of _ _ _ head_behind (by kernel_rfl) (by kernel_rfl) lifts_none (by kernel_rfl) (by kernel_rfl) (by kernel_rfl) (by kernel_rfl)
theorem head_lifts : Tryd.prog.headLifts = [] := by
  have e : Tryd.prog.headLifts = if (stripLifts liftWords (behindMainWord (wordsSigns Tryd.prog.initOrder.toList))).2.head? == some "cut".toList then (stripLifts liftWords (behindMainWord (wordsSigns Tryd.prog.initOrder.toList))).1 else [] := rfl
  rw [e, head_behind, lifts_none]
  split <;> rfl
theorem final_of (P : Program) (C : List Char) (R : List (List Char)) (h : behindMainWord (wordsSigns P.initOrder.toList) = C :: R) (h1 : (C == "carried".toList) = false) (h2 : P.headLifts = []) : P.liftsFinal = false := by
  unfold Program.liftsFinal
  rw [h, h2]
  have e : (some C == some "carried".toList) = false := h1
  simp only [List.head?_cons, e, Bool.false_and, Bool.false_or, List.contains_nil]
theorem head_final : Tryd.prog.liftsFinal = false := final_of _ _ _ head_behind (by kernel_rfl) head_lifts
end Go.Proofs.Qxb6601384aDoor
