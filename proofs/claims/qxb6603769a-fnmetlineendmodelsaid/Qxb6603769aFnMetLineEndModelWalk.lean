/-
  The statement of seat b6603769a: the law returns true at every input.
-/
import Derived.Test.Qxb6603769aRows
import Derived.Test.Qxb6603769aQuotes
import Derived.WalkKit
import Derived.ProofKit
import Derived.OpenShut
import Derived.ShutString
namespace Go.Proofs.Qxb6603769a.fnMetLineEndModel
open Go.ChangeShapes Go.WideShapes Go.ChangeAt Go.RowKit Go.Lib Plain
open Go.ChangeMaps (open_string shut_string)
set_option linter.unusedVariables false

theorem own : ownKnob Try.prog.godebug = none := by kernel_rfl

/-! ### THE WALK -/
set_option maxHeartbeats 1000000 in
theorem bytes4 (s : ByteArray) (w : World) (h : s.size ≤ maxLen) :
    Calls Try.prog 4 #[.string s] w fun e w' => e = .returned (.bool (decide (s.size ≤ 1048576))) ∧ w' = w := by
  unfold maxLen at h
  by_cases hs : s.size ≤ 1048576
  · rw [decide_eq_true hs]
    go_enter Try.func4, Try.ntmps4
    go_wp2
    go_ret
    exact ⟨rfl, rfl⟩
  · rw [decide_eq_false hs]
    go_enter Try.func4, Try.ntmps4
    go_wp2
    go_ret
    exact ⟨rfl, rfl⟩

set_option maxHeartbeats 1000000 in
theorem zz_any (s : ByteArray) (b : Bool) (hb : met s.data.toList = b) (w : World) (hs : s.size ≤ 1048576) (m : Int) (hm : w.cell? ⟨0, 0, none⟩ = some (.int .i64 m)) (h0 : 0 < w.heap.size) :
    Calls Try.prog 5 #[.string s] w fun e w' => e = .returned (.bool b) ∧ Below w.heap.size w w' := by
  have c := met_any s w hs m hm h0
  rw [hb] at c
  have C : Hid (Calls Try.prog 7 #[.string s] w fun e w' => e = .returned (.bool b) ∧ Below w.heap.size w w') := c
  clear c hb
  go_enter Try.func5, Try.ntmps5
  go_wp2_with (go_at_call 7; refine C.out.mono ?_; rintro e w' ⟨rfl, hb⟩)
  go_ret
  exact ⟨rfl, hb⟩

set_option maxHeartbeats 1000000 in
theorem walk (a0 : ByteArray) (w0 : a0.size ≤ maxLen) (w : World) (m : Int) (hm : w.cell? ⟨0, 0, none⟩ = some (.int .i64 m)) (h0 : 0 < w.heap.size) :
    Calls Try.prog 3 #[.string a0] w fun e w' => e = .returned (.bool true) ∧ Below w.heap.size w w' := by
  have hb4 := fun w => bytes4 a0 w w0
  unfold maxLen at w0
  by_cases hs : a0.size ≤ 1048576
  · rw [decide_eq_true hs] at hb4
    have H4 : Hid (∀ w, Calls Try.prog 4 #[.string a0] w fun e w' => e = .returned (.bool true) ∧ w' = w) := hb4
    obtain ⟨b, hb⟩ : ∃ b, met a0.data.toList = b := ⟨_, rfl⟩
    have H5 : Hid (Calls Try.prog 5 #[.string a0] w fun e w' => e = .returned (.bool b) ∧ Below w.heap.size w w') := zz_any a0 b hb w hs m hm h0
    have H6 : Hid (∀ w, Calls Try.prog 6 #[.string a0] w fun e w' => e = .returned (.bool b) ∧ w' = w) := fun w => by
      rw [← hb]; exact quotes_any a0 w hs
    clear hb4 hb hm
    cases b
    all_goals
      go_enter Try.func3, Try.ntmps3
      go_wp2_with (first | (go_at_call 4; refine (H4.out _).mono ?_; rintro e w' ⟨rfl, hw⟩; rw [hw]) | (go_at_call 5; refine H5.out.mono ?_; rintro e w1 ⟨rfl, hb1⟩) | (go_at_call 6; refine (H6.out _).mono ?_; rintro e w' ⟨rfl, hw⟩; rw [hw]))
      go_ret
      exact ⟨rfl, hb1⟩
  · rw [decide_eq_false hs] at hb4
    have H4 : Hid (∀ w, Calls Try.prog 4 #[.string a0] w fun e w' => e = .returned (.bool false) ∧ w' = w) := hb4
    clear hb4
    go_enter Try.func3, Try.ntmps3
    go_wp2_with (go_at_call 4; refine (H4.out _).mono ?_; rintro e w' ⟨rfl, hw⟩; rw [hw])
    go_ret
    exact ⟨rfl, Below.refl _ _⟩

end Go.Proofs.Qxb6603769a.fnMetLineEndModel
