/-
  Statement 2 of seat b6600542a: the law returns true at every input.
-/
import Derived.Test.Qxb6600542aRows
import Derived.Test.Qxb6600542aModel
import Derived.WalkKit
import Derived.ProofKit
import Derived.OpenShut
import Derived.ShutString
namespace Go.Proofs.Qxb6600542a.fnLiteralHeadAppendAfterWildcard
open Go.ChangeShapes Go.WideShapes Go.ChangeAt Go.RowKit Go.Lib Plain
open Go.ChangeMaps (open_string shut_string)
set_option linter.unusedVariables false

theorem own : ownKnob Try.prog.godebug = none := by kernel_rfl

/-! ### THE WALK -/
set_option maxHeartbeats 1000000 in
theorem bytes16 (s t : ByteArray) (w : World) (h : s.size ≤ maxLen) (k : t.size ≤ maxLen) :
    Calls Try.prog 16 #[.string s, .string t] w fun e w' => e = .returned (.bool (decide (s.size + t.size ≤ 1048576))) ∧ w' = w := by
  unfold maxLen at h k
  by_cases hs : s.size ≤ 1048576
  · by_cases ht : t.size ≤ 1048576
    · by_cases hst : s.size + t.size ≤ 1048576
      · rw [decide_eq_true hst]
        go_enter Try.func16, Try.ntmps16
        go_wp2
        go_ret
        exact ⟨rfl, rfl⟩
      · rw [decide_eq_false hst]
        go_enter Try.func16, Try.ntmps16
        go_wp2
        go_ret
        exact ⟨rfl, rfl⟩
    · rw [decide_eq_false (by omega)]
      go_enter Try.func16, Try.ntmps16
      go_wp2
      go_ret
      exact ⟨rfl, rfl⟩
  · rw [decide_eq_false (by omega)]
    go_enter Try.func16, Try.ntmps16
    go_wp2
    go_ret
    exact ⟨rfl, rfl⟩

theorem list_append (s t : ByteArray) : (s ++ t).data.toList = s.data.toList ++ t.data.toList := by simp

theorem eq_of_list {s t : ByteArray} (h : s.data.toList = t.data.toList) : s = t := by rw [← Lib.mk_data s, ← Lib.mk_data t, h]

set_option maxHeartbeats 1000000 in
theorem walk (a0 : ByteArray) (a1 : ByteArray) (w0 : a0.size ≤ maxLen) (w1 : a1.size ≤ maxLen) (w : World) :
    Calls Try.prog 5 #[.string a0, .string a1] w fun e w' => e = .returned (.bool true) ∧ Below w.heap.size w w' := by
  have hb16 := fun w => bytes16 a0 a1 w w0 w1
  unfold maxLen at w0 w1
  by_cases hs : a0.size + a1.size ≤ 1048576
  · rw [decide_eq_true hs] at hb16
    have H16 : Hid (∀ w, Calls Try.prog 16 #[.string a0, .string a1] w fun e w' => e = .returned (.bool true) ∧ w' = w) := hb16
    clear hb16
    have hm := fun w => has_any a0 w (by omega)
    have hz : (a0 ++ a1).size ≤ 1048576 := by rw [Lib.size_eq, list_append, List.length_append, ← Lib.size_eq, ← Lib.size_eq]; exact hs
    cases hmeta : hasMeta a0.data.toList
    · rw [hmeta] at hm
      have HM : Hid (∀ w, Calls Try.prog 14 #[.string a0] w fun e w' => e = .returned (.bool false) ∧ w' = w) := hm
      have HT : Aside (hasMeta a0.data.toList = false) := hmeta
      clear hm hmeta
      by_cases h0 : a1.size = 0
      · have h0b : ¬ ((0 : Int) < (a1.size : Int)) := by omega
        go_enter Try.func5, Try.ntmps5
        go_wp2_with (go_at_call 16; refine (H16.out _).mono ?_; rintro e w' ⟨rfl, hw⟩; rw [hw])
        refine (zz_any a0 _ (by omega)).mono ?_
        rintro e v1 ⟨h, t, rfl, _, hb1⟩
        go_wp2_with fail
        refine (zz_any (a0 ++ a1) _ hz).mono ?_
        rintro e v2 ⟨h2, t2, rfl, _, hb2⟩
        have hb := hb1.trans (hb2.mono hb1.size)
        go_wp2_with (go_at_call 14; refine (HM.out _).mono ?_; rintro e w' ⟨rfl, hw⟩; rw [hw])
        go_ret
        exact ⟨rfl, hb⟩
      · have hlt : 0 < a1.size := by omega
        have h0b : (0 : Int) < (a1.size : Int) := by omega
        obtain ⟨x, hx⟩ : ∃ x : UInt8, a1[0]'hlt = x := ⟨_, rfl⟩
        have Hx : Aside (a1.data.toList[0]? = some x) := by rw [← hx]; exact byte_some a1 0 hlt
        by_cases h47 : x = 47
        · have hb : ((x.toNat : Int) == 47) = true := by rw [h47]; decide
          have Hx2 : Aside (a1.data.toList[0]? = some 47) := by rw [← h47]; exact Hx.out
          clear h47
          go_enter Try.func5, Try.ntmps5
          go_wp2_with (go_at_call 16; refine (H16.out _).mono ?_; rintro e w' ⟨rfl, hw⟩; rw [hw])
          refine (zz_any a0 _ (by omega)).mono ?_
          rintro e v1 ⟨h, t, rfl, _, hb1⟩
          go_wp2_with fail
          refine (zz_any (a0 ++ a1) _ hz).mono ?_
          rintro e v2 ⟨h2, t2, rfl, ⟨k, hk, hh2, _⟩, hb2⟩
          rw [list_append] at hk hh2
          have hk1 := hk.extend HT.out Hx2.out
          have hk2 := hk.le
          have hlen : a0.size ≤ h2.size := by
            rw [Lib.size_eq h2, hh2, List.length_take, Lib.size_eq a0]; omega
          have hcut : h2.extract 0 a0.size = a0 := by
            apply eq_of_list
            rw [(cut_strings h2 a0.size).1, hh2, List.take_take, Lib.size_eq a0, Nat.min_eq_left hk1, List.take_left]
          clear hk hh2 hk1 hk2
          have hb' := hb1.trans (hb2.mono hb1.size)
          go_wp2_with (go_at_call 14; refine (HM.out _).mono ?_; rintro e w' ⟨rfl, hw⟩; rw [hw])
          go_ret
          exact ⟨rfl, hb'⟩
        · have hb : ((x.toNat : Int) == 47) = false := by
            rw [beq_eq_false_iff_ne]
            intro e
            exact h47 (UInt8.toNat_inj.1 (by have : (47 : UInt8).toNat = 47 := rfl; omega))
          clear h47
          go_enter Try.func5, Try.ntmps5
          go_wp2_with (go_at_call 16; refine (H16.out _).mono ?_; rintro e w' ⟨rfl, hw⟩; rw [hw])
          refine (zz_any a0 _ (by omega)).mono ?_
          rintro e v1 ⟨h, t, rfl, _, hb1⟩
          go_wp2_with fail
          refine (zz_any (a0 ++ a1) _ hz).mono ?_
          rintro e v2 ⟨h2, t2, rfl, _, hb2⟩
          have hb' := hb1.trans (hb2.mono hb1.size)
          go_wp2_with (go_at_call 14; refine (HM.out _).mono ?_; rintro e w' ⟨rfl, hw⟩; rw [hw])
          go_ret
          exact ⟨rfl, hb'⟩
    · rw [hmeta] at hm
      have HM : Hid (∀ w, Calls Try.prog 14 #[.string a0] w fun e w' => e = .returned (.bool true) ∧ w' = w) := hm
      have HT : Aside (hasMeta a0.data.toList = true) := hmeta
      clear hm hmeta
      go_enter Try.func5, Try.ntmps5
      go_wp2_with (go_at_call 16; refine (H16.out _).mono ?_; rintro e w' ⟨rfl, hw⟩; rw [hw])
      refine (zz_any a0 _ (by omega)).mono ?_
      rintro e v1 ⟨h, t, rfl, ⟨k, hk, hh, ht⟩, hb1⟩
      have HK : Aside (IsCut a0.data.toList k ∧ h.data.toList = a0.data.toList.take k ∧ t.data.toList = a0.data.toList.drop k) := ⟨hk, hh, ht⟩
      clear hk hh ht
      go_wp2_with fail
      refine (zz_any (a0 ++ a1) _ hz).mono ?_
      rintro e v2 ⟨h2, t2, rfl, ⟨k', hk', hh', ht'⟩, hb2⟩
      rw [list_append] at hk' hh' ht'
      obtain ⟨hk, hh, ht⟩ := HK.out
      have hkl := hk.le
      have ek := hk'.unique (hk.append HT.out a1.data.toList)
      subst ek
      have eh : h2 = h := by
        apply eq_of_list
        rw [hh', hh, List.take_append_of_le_length hkl]
      have et : t2 = t ++ a1 := by
        apply eq_of_list
        rw [ht', list_append, ht, List.drop_append_of_le_length hkl]
      have htz : t.size ≤ 1048576 := by rw [Lib.size_eq, ht, List.length_drop, ← Lib.size_eq]; omega
      subst eh et
      have hb' := hb1.trans (hb2.mono hb1.size)
      clear hk hk' hh hh' ht ht' HK hkl
      go_wp2_with (go_at_call 14; refine (HM.out _).mono ?_; rintro e w' ⟨rfl, hw⟩; rw [hw])
      go_ret
      exact ⟨rfl, hb'⟩
  · rw [decide_eq_false hs] at hb16
    have H16 : Hid (∀ w, Calls Try.prog 16 #[.string a0, .string a1] w fun e w' => e = .returned (.bool false) ∧ w' = w) := hb16
    clear hb16
    go_enter Try.func5, Try.ntmps5
    go_wp2_with (go_at_call 16; refine (H16.out _).mono ?_; rintro e w' ⟨rfl, hw⟩; rw [hw])
    go_ret
    exact ⟨rfl, Below.refl _ _⟩

end Go.Proofs.Qxb6600542a.fnLiteralHeadAppendAfterWildcard
