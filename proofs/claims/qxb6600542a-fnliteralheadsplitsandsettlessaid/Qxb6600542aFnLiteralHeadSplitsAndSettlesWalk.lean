/-
  Statement 3 of seat b6600542a: the law returns true at every input.
-/
import Derived.Test.Qxb6600542aRows
import Derived.Test.Qxb6600542aModel
import Derived.WalkKit
import Derived.ProofKit
import Derived.OpenShut
import Derived.ShutString
namespace Go.Proofs.Qxb6600542a.fnLiteralHeadSplitsAndSettles
open Go.ChangeShapes Go.WideShapes Go.ChangeAt Go.RowKit Go.Lib Plain
open Go.ChangeMaps (open_string shut_string)
set_option linter.unusedVariables false

theorem own : ownKnob Try.prog.godebug = none := by kernel_rfl

/-! ### THE WALK -/
set_option maxHeartbeats 1000000 in
theorem bytes13 (s : ByteArray) (w : World) (h : s.size ≤ maxLen) :
    Calls Try.prog 13 #[.string s] w fun e w' => e = .returned (.bool (decide (s.size ≤ 1048576))) ∧ w' = w := by
  unfold maxLen at h
  by_cases hs : s.size ≤ 1048576
  · rw [decide_eq_true hs]
    go_enter Try.func13, Try.ntmps13
    go_wp2
    go_ret
    exact ⟨rfl, rfl⟩
  · rw [decide_eq_false hs]
    go_enter Try.func13, Try.ntmps13
    go_wp2
    go_ret
    exact ⟨rfl, rfl⟩

theorem list_append (s t : ByteArray) : (s ++ t).data.toList = s.data.toList ++ t.data.toList := by simp

theorem eq_of_list {s t : ByteArray} (h : s.data.toList = t.data.toList) : s = t := by rw [← Lib.mk_data s, ← Lib.mk_data t, h]

/-- The second split: a text without a wildcard is all head. -/
theorem settle (h : ByteArray) (w : World) (hs : h.size ≤ 1048576) (hn : NoMetaTo h.data.toList h.data.toList.length) :
    Calls Try.prog 11 #[.string h] w fun e w' => e = .returned (.tuple #[.string h, .string ⟨#[]⟩]) ∧ Below w.heap.size w w' := by
  refine (zz_any h w hs).mono ?_
  rintro e w' ⟨h2, t2, rfl, ⟨k, hk, hh, ht⟩, hb⟩
  have ek := hk.of_none hn
  subst ek
  have e1 : h2 = h := eq_of_list (by rw [hh, List.take_length])
  have e2 : t2 = ⟨#[]⟩ := eq_of_list (by rw [ht, List.drop_length])
  rw [e1, e2]
  exact ⟨rfl, hb⟩

set_option maxHeartbeats 1000000 in
theorem walk (a0 : ByteArray) (w0 : a0.size ≤ maxLen) (w : World) :
    Calls Try.prog 4 #[.string a0] w fun e w' => e = .returned (.bool true) ∧ Below w.heap.size w w' := by
  have hb13 := fun w => bytes13 a0 w w0
  unfold maxLen at w0
  by_cases hs : a0.size ≤ 1048576
  · rw [decide_eq_true hs] at hb13
    have H13 : Hid (∀ w, Calls Try.prog 13 #[.string a0] w fun e w' => e = .returned (.bool true) ∧ w' = w) := hb13
    clear hb13
    by_cases hz : a0.size = 0
    · have hzb : ((a0.size : Int) == 0) = true := beq_iff_eq.2 (by omega)
      go_enter Try.func4, Try.ntmps4
      go_wp2_with (go_at_call 13; refine (H13.out _).mono ?_; rintro e w' ⟨rfl, hw⟩; rw [hw])
      refine (zz_any a0 _ hs).mono ?_
      rintro e v1 ⟨h, t, rfl, ⟨k, hk, hh, ht⟩, hb1⟩
      have hkl := hk.le
      have hcat : h ++ t = a0 := eq_of_list (by rw [list_append, hh, ht, List.take_append_drop])
      have hhz : h.size ≤ 1048576 := by rw [Lib.size_eq, hh, List.length_take, ← Lib.size_eq]; omega
      have htl : t.size = a0.size - k := by rw [Lib.size_eq t, ht, List.length_drop, ← Lib.size_eq]
      have htz : t.size ≤ 1048576 := by omega
      have hnh : NoMetaTo h.data.toList h.data.toList.length := by rw [hh]; exact noMeta_take hk.head _
      have hmh := fun w => has_any h w hhz
      rw [hasMeta_false hnh] at hmh
      have HMH : Hid (∀ w, Calls Try.prog 14 #[.string h] w fun e w' => e = .returned (.bool false) ∧ w' = w) := hmh
      have HSET : Hid (∀ w, Calls Try.prog 11 #[.string h] w fun e w' => e = .returned (.tuple #[.string h, .string ⟨#[]⟩]) ∧ Below w.heap.size w w') := fun w => settle h w hhz hnh
      clear hmh hnh
      have het : t.toList.isEmpty = true := by
        rw [Lib.toList_data, List.length_eq_zero_iff.1 ((Lib.size_eq t).symm.trans (by omega))]; rfl
      clear htl hh ht hk hkl
      go_wp2_with (first | (go_at_call 14; refine (HMH.out _).mono ?_; rintro e w' ⟨rfl, hw⟩; rw [hw]) | (go_at_call 11; refine (HSET.out _).mono ?_; rintro e v2 ⟨rfl, hb2⟩))
      go_ret
      exact ⟨rfl, hb1.trans (hb2.mono hb1.size)⟩
    · have hzb : ((a0.size : Int) == 0) = false := beq_eq_false_iff_ne.2 (by omega)
      have hlt : 0 < a0.size := by omega
      obtain ⟨x, hx⟩ : ∃ x : UInt8, a0[0]'hlt = x := ⟨_, rfl⟩
      by_cases h47 : x = 47
      · have hxb : ((x.toNat : Int) == 47) = true := by rw [h47]; decide
        have H47 : Hid (x = 47) := h47
        clear h47
        go_enter Try.func4, Try.ntmps4
        go_wp2_with (go_at_call 13; refine (H13.out _).mono ?_; rintro e w' ⟨rfl, hw⟩; rw [hw])
        refine (zz_any a0 _ hs).mono ?_
        rintro e v1 ⟨h, t, rfl, ⟨k, hk, hh, ht⟩, hb1⟩
        have hkl := hk.le
        have hcat : h ++ t = a0 := eq_of_list (by rw [list_append, hh, ht, List.take_append_drop])
        have hhz : h.size ≤ 1048576 := by rw [Lib.size_eq, hh, List.length_take, ← Lib.size_eq]; omega
        have htl : t.size = a0.size - k := by rw [Lib.size_eq t, ht, List.length_drop, ← Lib.size_eq]
        have htz : t.size ≤ 1048576 := by omega
        have hnh : NoMetaTo h.data.toList h.data.toList.length := by rw [hh]; exact noMeta_take hk.head _
        have hmh := fun w => has_any h w hhz
        rw [hasMeta_false hnh] at hmh
        have HMH : Hid (∀ w, Calls Try.prog 14 #[.string h] w fun e w' => e = .returned (.bool false) ∧ w' = w) := hmh
        have HSET : Hid (∀ w, Calls Try.prog 11 #[.string h] w fun e w' => e = .returned (.tuple #[.string h, .string ⟨#[]⟩]) ∧ Below w.heap.size w w') := fun w => settle h w hhz hnh
        clear hmh hnh
        by_cases ht0 : t.size = 0
        · clear H47
          have het : t.toList.isEmpty = true := by
            rw [Lib.toList_data, List.length_eq_zero_iff.1 ((Lib.size_eq t).symm.trans (by omega))]; rfl
          clear htl hh ht hk hkl
          go_wp2_with (first | (go_at_call 14; refine (HMH.out _).mono ?_; rintro e w' ⟨rfl, hw⟩; rw [hw]) | (go_at_call 11; refine (HSET.out _).mono ?_; rintro e v2 ⟨rfl, hb2⟩))
          go_ret
          exact ⟨rfl, hb1.trans (hb2.mono hb1.size)⟩
        · have h47 := H47.out
          clear H47
          have hkl2 : k < a0.data.toList.length := by rw [← Lib.size_eq]; omega
          have het : t.toList.isEmpty = false := by
            rw [Lib.toList_data]
            cases e : t.data.toList with
            | nil => exact absurd (by rw [Lib.size_eq, e]; rfl) ht0
            | cons _ _ => rfl
          have HEL : Hid (∀ w, Calls Try.prog 15 #[.string t] w fun e w' => ∃ u : ByteArray, e = .returned (.string u) ∧ Hid (∀ w, Calls Try.prog 14 #[.string u] w fun e w' => e = .returned (.bool true) ∧ w' = w) ∧ w' = w) := fun w => by
            refine (elem_any t w htz).mono ?_
            rintro e w' ⟨u, rfl, ⟨j, hj, hu⟩, rfl⟩
            refine ⟨u, rfl, ?_, rfl⟩
            intro w
            have huz : u.size ≤ 1048576 := by rw [Lib.size_eq, hu, List.length_take, ← Lib.size_eq]; omega
            have := has_any u w huz
            rw [hu, ht, hk.elem hkl2 (by rw [← ht]; exact hj)] at this
            exact this
          have hlt0 : 0 < t.size := by omega
          obtain ⟨y, hy⟩ : ∃ y : UInt8, t[0]'hlt0 = y := ⟨_, rfl⟩
          have hy47 : y = 47 := by
            have h1 := hk.rooted hkl2 (by rw [byte_some a0 0 hlt, hx, h47])
            rw [← ht, byte_some t 0 hlt0, hy] at h1
            exact Option.some.inj h1
          have hyb : ((y.toNat : Int) != 47) = false := by rw [hy47]; decide
          clear hy47 h47
          clear htl hh ht hk hkl hkl2 ht0
          go_wp2_with (first | (go_at_call_of 14 (Value.string h); refine (HMH.out _).mono ?_; rintro e w' ⟨rfl, hw⟩; rw [hw]) | (go_at_call 15; refine (HEL.out _).mono ?_; rintro e w' ⟨u, rfl, HU, hw⟩; rw [hw]) | (go_at_call 14; refine (HU.out _).mono ?_; rintro e w' ⟨rfl, hw⟩; rw [hw]) | (go_at_call 11; refine (HSET.out _).mono ?_; rintro e v2 ⟨rfl, hb2⟩))
          go_ret
          exact ⟨rfl, hb1.trans (hb2.mono hb1.size)⟩
      · have hxb : ((x.toNat : Int) == 47) = false := by
          rw [beq_eq_false_iff_ne]
          intro e
          exact h47 (UInt8.toNat_inj.1 (by have : (47 : UInt8).toNat = 47 := rfl; omega))
        clear h47
        go_enter Try.func4, Try.ntmps4
        go_wp2_with (go_at_call 13; refine (H13.out _).mono ?_; rintro e w' ⟨rfl, hw⟩; rw [hw])
        refine (zz_any a0 _ hs).mono ?_
        rintro e v1 ⟨h, t, rfl, ⟨k, hk, hh, ht⟩, hb1⟩
        have hkl := hk.le
        have hcat : h ++ t = a0 := eq_of_list (by rw [list_append, hh, ht, List.take_append_drop])
        have hhz : h.size ≤ 1048576 := by rw [Lib.size_eq, hh, List.length_take, ← Lib.size_eq]; omega
        have htl : t.size = a0.size - k := by rw [Lib.size_eq t, ht, List.length_drop, ← Lib.size_eq]
        have htz : t.size ≤ 1048576 := by omega
        have hnh : NoMetaTo h.data.toList h.data.toList.length := by rw [hh]; exact noMeta_take hk.head _
        have hmh := fun w => has_any h w hhz
        rw [hasMeta_false hnh] at hmh
        have HMH : Hid (∀ w, Calls Try.prog 14 #[.string h] w fun e w' => e = .returned (.bool false) ∧ w' = w) := hmh
        have HSET : Hid (∀ w, Calls Try.prog 11 #[.string h] w fun e w' => e = .returned (.tuple #[.string h, .string ⟨#[]⟩]) ∧ Below w.heap.size w w') := fun w => settle h w hhz hnh
        clear hmh hnh
        by_cases ht0 : t.size = 0
        · have het : t.toList.isEmpty = true := by
            rw [Lib.toList_data, List.length_eq_zero_iff.1 ((Lib.size_eq t).symm.trans (by omega))]; rfl
          clear htl hh ht hk hkl
          go_wp2_with (first | (go_at_call 14; refine (HMH.out _).mono ?_; rintro e w' ⟨rfl, hw⟩; rw [hw]) | (go_at_call 11; refine (HSET.out _).mono ?_; rintro e v2 ⟨rfl, hb2⟩))
          go_ret
          exact ⟨rfl, hb1.trans (hb2.mono hb1.size)⟩
        · have hkl2 : k < a0.data.toList.length := by rw [← Lib.size_eq]; omega
          have het : t.toList.isEmpty = false := by
            rw [Lib.toList_data]
            cases e : t.data.toList with
            | nil => exact absurd (by rw [Lib.size_eq, e]; rfl) ht0
            | cons _ _ => rfl
          have HEL : Hid (∀ w, Calls Try.prog 15 #[.string t] w fun e w' => ∃ u : ByteArray, e = .returned (.string u) ∧ Hid (∀ w, Calls Try.prog 14 #[.string u] w fun e w' => e = .returned (.bool true) ∧ w' = w) ∧ w' = w) := fun w => by
            refine (elem_any t w htz).mono ?_
            rintro e w' ⟨u, rfl, ⟨j, hj, hu⟩, rfl⟩
            refine ⟨u, rfl, ?_, rfl⟩
            intro w
            have huz : u.size ≤ 1048576 := by rw [Lib.size_eq, hu, List.length_take, ← Lib.size_eq]; omega
            have := has_any u w huz
            rw [hu, ht, hk.elem hkl2 (by rw [← ht]; exact hj)] at this
            exact this
          clear htl hh ht hk hkl hkl2 ht0
          go_wp2_with (first | (go_at_call_of 14 (Value.string h); refine (HMH.out _).mono ?_; rintro e w' ⟨rfl, hw⟩; rw [hw]) | (go_at_call 15; refine (HEL.out _).mono ?_; rintro e w' ⟨u, rfl, HU, hw⟩; rw [hw]) | (go_at_call 14; refine (HU.out _).mono ?_; rintro e w' ⟨rfl, hw⟩; rw [hw]) | (go_at_call 11; refine (HSET.out _).mono ?_; rintro e v2 ⟨rfl, hb2⟩))
          go_ret
          exact ⟨rfl, hb1.trans (hb2.mono hb1.size)⟩
  · rw [decide_eq_false hs] at hb13
    have H13 : Hid (∀ w, Calls Try.prog 13 #[.string a0] w fun e w' => e = .returned (.bool false) ∧ w' = w) := hb13
    clear hb13
    go_enter Try.func4, Try.ntmps4
    go_wp2_with (go_at_call 13; refine (H13.out _).mono ?_; rintro e w' ⟨rfl, hw⟩; rw [hw])
    go_ret
    exact ⟨rfl, Below.refl _ _⟩

end Go.Proofs.Qxb6600542a.fnLiteralHeadSplitsAndSettles
