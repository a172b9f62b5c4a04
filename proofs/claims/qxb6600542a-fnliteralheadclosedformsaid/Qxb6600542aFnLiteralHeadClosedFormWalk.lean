/-
  Statement 1 of seat b6600542a: the law returns true at every input.
-/
import Derived.Test.Qxb6600542aRows
import Derived.Test.Qxb6600542aModel
import Derived.WalkKit
import Derived.ProofKit
import Derived.OpenShut
import Derived.ShutString
namespace Go.Proofs.Qxb6600542a.fnLiteralHeadClosedForm
open Go.ChangeShapes Go.WideShapes Go.ChangeAt Go.RowKit Go.Lib Plain
open Go.ChangeMaps (open_string shut_string)
set_option linter.unusedVariables false

theorem own : ownKnob Try.prog.godebug = none := by kernel_rfl

/-! ### THE WALK -/
set_option maxHeartbeats 1000000 in
theorem walk (a0 : ByteArray) (w0 : a0.size ≤ maxLen) (w : World) :
    Calls Try.prog 3 #[.string a0] w fun e w' => e = .returned (.bool true) ∧ Below w.heap.size w w' := by
  have hb10 := fun w => bytes10 a0 w w0
  unfold maxLen at w0
  by_cases hs : a0.size ≤ 1048576
  · rw [decide_eq_true hs] at hb10
    have H10 : Hid (∀ w, Calls Try.prog 10 #[.string a0] w fun e w' => e = .returned (.bool true) ∧ w' = w) := hb10
    clear hb10
    go_enter Try.func3, Try.ntmps3
    go_wp2_with (go_at_call 10; refine (H10.out _).mono ?_; rintro e w' ⟨rfl, hw⟩; rw [hw])
    refine (zz_any a0 _ hs).mono ?_
    rintro e w1 ⟨h, t, rfl, ⟨k, hk, hh, ht⟩, hb1⟩
    have HK : Aside (IsCut a0.data.toList k ∧ h.data.toList = a0.data.toList.take k ∧ t.data.toList = a0.data.toList.drop k) := ⟨hk, hh, ht⟩
    clear hk hh ht
    go_wp2_with fail
    refine (model_any a0 _ hs).mono ?_
    rintro e w2 ⟨h', t', rfl, ⟨k', hk', hh', ht'⟩, hb2⟩
    obtain ⟨hk, hh, ht⟩ := HK.out
    have ek := hk'.unique hk
    subst ek
    have eh : h' = h := by rw [← Lib.mk_data h', ← Lib.mk_data h, hh', hh]
    have et : t' = t := by rw [← Lib.mk_data t', ← Lib.mk_data t, ht', ht]
    subst eh et
    have hb := hb1.trans (hb2.mono hb1.size)
    clear hk hk' hh hh' ht ht' HK hb1 hb2
    go_wp2
    go_ret
    exact ⟨rfl, hb⟩
  · rw [decide_eq_false hs] at hb10
    have H10 : Hid (∀ w, Calls Try.prog 10 #[.string a0] w fun e w' => e = .returned (.bool false) ∧ w' = w) := hb10
    clear hb10
    go_enter Try.func3, Try.ntmps3
    go_wp2_with (go_at_call 10; refine (H10.out _).mono ?_; rintro e w' ⟨rfl, hw⟩; rw [hw])
    go_ret
    exact ⟨rfl, Below.refl _ _⟩

end Go.Proofs.Qxb6600542a.fnLiteralHeadClosedForm
