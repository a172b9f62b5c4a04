/-
  The law FnUnescapeUndoesMountinfoEscaping, walked.
-/
import Derived.Test.Qxb6600664aDoorEscape
namespace Go.Proofs.Qxb6600664aDoor.fnUnescapeUndoesMountinfoEscaping
open Go.Shelf Go.RowKit Plain
set_option linter.unusedVariables false

set_option maxHeartbeats 1000000 in
theorem bytes5 (s : ByteArray) (b : Bool) (w : World) (h : s.size ≤ maxLen) :
    Calls Tryd.prog 5 #[.string s, .bool b] w fun e w' => e = .returned (.bool (decide (s.size ≤ 1048576))) ∧ w' = w := by
  unfold maxLen at h
  by_cases hs : s.size ≤ 1048576
  · rw [decide_eq_true hs]
    go_enter Tryd.func5, Tryd.ntmps5
    go_wp2
    go_ret
    exact ⟨rfl, rfl⟩
  · rw [decide_eq_false hs]
    go_enter Tryd.func5, Tryd.ntmps5
    go_wp2
    go_ret
    exact ⟨rfl, rfl⟩

set_option maxHeartbeats 2000000 in
theorem walk (a0 : ByteArray) (a1 : Bool) (w0 : a0.size ≤ maxLen) (w : World) (hh : Held w) :
    Calls Tryd.prog 3 #[.string a0, .bool a1] w fun e w' => e = .returned (.bool true) ∧ Below w.heap.size w w' := by
  have hb5 := fun w => bytes5 a0 a1 w w0
  unfold maxLen at w0
  by_cases hs : a0.size ≤ 1048576
  · rw [decide_eq_true hs] at hb5
    have H5 : Hid (∀ w, Calls Tryd.prog 5 #[.string a0, .bool a1] w fun e w' => e = .returned (.bool true) ∧ w' = w) := hb5
    have HH : Aside (Held w) := hh
    clear hb5 hh
    by_cases h18 : a0.size ≤ 262144
    · have H7 : Hid (Calls Tryd.prog 7 #[.string a0, .bool a1] w fun e w' => ∃ u : ByteArray, e = .returned (.string u) ∧ u.data.toList = escape a1 a0.data.toList ∧ Below w.heap.size w w') := escape_any a0 a1 w h18
      go_enter Tryd.func3, Tryd.ntmps3
      go_wp2_with (go_at_call 5; refine (H5.out _).mono ?_; rintro e w' ⟨rfl, hw⟩; rw [hw])
      refine H7.out.mono ?_
      rintro e v1 ⟨u, rfl, hu, hb1⟩
      have huz : u.size ≤ 1048576 := by
        rw [Lib.size_eq, hu]
        have := escape_le a1 a0.data.toList
        rw [← Lib.size_eq] at this
        omega
      have H6 : Hid (Calls Tryd.prog 6 #[.string u] v1 fun e w' => ∃ r : ByteArray, e = .returned (.string r) ∧ r.data.toList = unesc u.data.toList ∧ Below v1.heap.size v1 w') := zz_any u v1 huz (HH.out.below HH.out.lt hb1)
      have HU : Aside (u.data.toList = escape a1 a0.data.toList) := hu
      clear hu huz
      go_wp2_with fail
      refine H6.out.mono ?_
      rintro e v2 ⟨r, rfl, hr, hb2⟩
      have er : r = a0 := by
        rw [← Lib.mk_data r, ← Lib.mk_data a0, hr, HU.out, undo]
      subst er
      have hb := hb1.trans (hb2.mono hb1.size)
      clear hr hb1 hb2 HU H6 H7 HH
      go_wp2
      go_ret
      exact ⟨rfl, hb⟩
    · go_enter Tryd.func3, Tryd.ntmps3
      go_wp2_with (go_at_call 5; refine (H5.out _).mono ?_; rintro e w' ⟨rfl, hw⟩; rw [hw])
      go_ret
      exact ⟨rfl, Below.refl _ _⟩
  · rw [decide_eq_false hs] at hb5
    have H5 : Hid (∀ w, Calls Tryd.prog 5 #[.string a0, .bool a1] w fun e w' => e = .returned (.bool false) ∧ w' = w) := hb5
    clear hb5 hh
    go_enter Tryd.func3, Tryd.ntmps3
    go_wp2_with (go_at_call 5; refine (H5.out _).mono ?_; rintro e w' ⟨rfl, hw⟩; rw [hw])
    go_ret
    exact ⟨rfl, Below.refl _ _⟩
end Go.Proofs.Qxb6600664aDoor.fnUnescapeUndoesMountinfoEscaping
