/-
  Statement FnReadDirectiveMatchesModelCardSaid: the law, walked.
-/
import Derived.Test.Qxb6601384aDoorModel
namespace Go.Proofs.Qxb6601384aDoor
open Go.Shelf Go.RowKit Plain
set_option linter.unusedVariables false

set_option maxHeartbeats 4000000 in
theorem zz_any (s : ByteArray) (hs : s.size ≤ 1048576) (w : World) (hh : Held w) :
    Calls Tryd.prog 7 #[.string s] w fun e w' => ∃ fl wd c cv n, Ans s fl wd c cv n ∧ e = .returned (.tuple #[.string fl, .int .i64 wd, .int .i64 c, .int .u8 cv, .int .i64 n]) ∧ Below w.heap.size w w' := by
  have HH : Aside (Held w) := hh
  clear hh
  go_enter Tryd.func7, Tryd.ntmps7
  go_wp2_with fail
  refine (read_any s hs w HH.out).mono ?_
  rintro e v ⟨fl, wd, c, cv, n, ha, rfl, hb⟩
  have HA : Aside (Ans s fl wd c cv n) := ha
  have HB : Aside (Below w.heap.size w v) := hb
  clear ha hb
  go_wp2
  go_quiet (fail)
  simp only [Exit.then]
  go_at_K
  go_wp2
  refine bodyPost_ret (v := .tuple #[.string fl, .int .i64 wd, .int .i64 c, .int .u8 cv, .int .i64 n]) (by simp [results, Tryd.results7, go_sem]) rfl ?_
  exact ⟨_, _, _, _, _, HA.out, rfl, (HB.out.alloc HB.out.size _).trans ((below_drewN _ nq).mono (HB.out.alloc HB.out.size _).size)⟩

set_option maxHeartbeats 1000000 in
theorem bytes6 (s : ByteArray) (w : World) (h : s.size ≤ maxLen) :
    Calls Tryd.prog 6 #[.string s] w fun e w' => e = .returned (.bool (decide (s.size ≤ 1048576))) ∧ w' = w := by
  unfold maxLen at h
  by_cases hs : s.size ≤ 1048576
  · rw [decide_eq_true hs]
    go_enter Tryd.func6, Tryd.ntmps6
    go_wp2
    go_ret
    exact ⟨rfl, rfl⟩
  · rw [decide_eq_false hs]
    go_enter Tryd.func6, Tryd.ntmps6
    go_wp2
    go_ret
    exact ⟨rfl, rfl⟩

set_option maxHeartbeats 4000000 in
theorem walk (a0 : ByteArray) (w0 : a0.size ≤ maxLen) (w : World) (hh : Held w) :
    Calls Tryd.prog 3 #[.string a0] w fun e w' => e = .returned (.bool true) ∧ Below w.heap.size w w' := by
  have hb6 := fun w => bytes6 a0 w w0
  unfold maxLen at w0
  by_cases hs : a0.size ≤ 1048576
  · rw [decide_eq_true hs] at hb6
    have H6 : Hid (∀ w, Calls Tryd.prog 6 #[.string a0] w fun e w' => e = .returned (.bool true) ∧ w' = w) := hb6
    have HH : Aside (Held w) := hh
    clear hb6 hh
    go_enter Tryd.func3, Tryd.ntmps3
    go_wp2_with (first | (go_at_call 6; refine (H6.out _).mono ?_; rintro e w' ⟨rfl, hw⟩; rw [hw]))
    refine (zz_any a0 hs w HH.out).mono ?_
    rintro e v ⟨fl, wd, c, cv, n, ha, rfl, hb⟩
    have HA : Aside (Ans a0 fl wd c cv n) := ha
    have HB : Aside (Below w.heap.size w v) := hb
    clear ha hb
    go_wp2_with fail
    refine (model_any a0 hs v).mono ?_
    rintro e v2 ⟨fl', wd', c', cv', n', ha, rfl, hb⟩
    obtain ⟨rfl, rfl, rfl, rfl, rfl⟩ := HA.out.unique ha
    have HB2 : Aside (Below w.heap.size w v2) := HB.out.trans (hb.mono HB.out.size)
    clear ha hb
    go_wp2
    go_ret
    exact ⟨rfl, HB2.out⟩
  · rw [decide_eq_false hs] at hb6
    have H6 : Hid (∀ w, Calls Tryd.prog 6 #[.string a0] w fun e w' => e = .returned (.bool false) ∧ w' = w) := hb6
    clear hb6 hh
    go_enter Tryd.func3, Tryd.ntmps3
    go_wp2_with (first | (go_at_call 6; refine (H6.out _).mono ?_; rintro e w' ⟨rfl, hw⟩; rw [hw]))
    go_ret
    exact ⟨rfl, Below.refl _ _⟩
end Go.Proofs.Qxb6601384aDoor
