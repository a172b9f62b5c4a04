/-
  The law FnUnescapeShrinksByThreePerEscape, walked.
-/
import Derived.Test.Qxb6600664aDoorUnesc
namespace Go.Proofs.Qxb6600664aDoor.fnUnescapeShrinksByThreePerEscape
open Go.Shelf Go.RowKit Plain
set_option linter.unusedVariables false

set_option maxHeartbeats 1000000 in
theorem bytes8 (s : ByteArray) (w : World) (h : s.size ≤ maxLen) :
    Calls Tryd.prog 8 #[.string s] w fun e w' => e = .returned (.bool (decide (s.size ≤ 1048576))) ∧ w' = w := by
  unfold maxLen at h
  by_cases hs : s.size ≤ 1048576
  · rw [decide_eq_true hs]
    go_enter Tryd.func8, Tryd.ntmps8
    go_wp2
    go_ret
    exact ⟨rfl, rfl⟩
  · rw [decide_eq_false hs]
    go_enter Tryd.func8, Tryd.ntmps8
    go_wp2
    go_ret
    exact ⟨rfl, rfl⟩

theorem take_snoc (l : List UInt8) (i : Nat) (x : UInt8) (h : l[i]? = some x) : l.take (i + 1) = l.take i ++ [x] := by
  obtain ⟨hi, e⟩ := List.getElem?_eq_some_iff.1 h
  rw [List.take_succ_eq_append_getElem hi, e]

set_option maxHeartbeats 2000000 in
theorem walk (a0 : ByteArray) (w0 : a0.size ≤ maxLen) (w : World) (hh : Held w) :
    Calls Tryd.prog 4 #[.string a0] w fun e w' => e = .returned (.bool true) ∧ Below w.heap.size w w' := by
  have hb8 := fun w => bytes8 a0 w w0
  unfold maxLen at w0
  by_cases hs : a0.size ≤ 1048576
  · rw [decide_eq_true hs] at hb8
    have H8 : Hid (∀ w, Calls Tryd.prog 8 #[.string a0] w fun e w' => e = .returned (.bool true) ∧ w' = w) := hb8
    have H6 : Hid (Calls Tryd.prog 6 #[.string a0] w fun e w' => ∃ u : ByteArray, e = .returned (.string u) ∧ u.data.toList = unesc a0.data.toList ∧ Below w.heap.size w w') := zz_any a0 w hs hh
    clear hb8 hh
    go_enter Tryd.func4, Tryd.ntmps4
    go_wp2_with (first | (go_at_call 8; refine (H8.out _).mono ?_; rintro e w' ⟨rfl, hw⟩; rw [hw]))
    refine H6.out.mono ?_
    rintro e v1 ⟨u, rfl, hu, hb1⟩
    obtain ⟨k, hk1, hk2⟩ := shrink a0.data.toList.length a0.data.toList (Nat.le_refl _)
    rw [← hu, ← Lib.size_eq, ← Lib.size_eq] at hk1
    have HK : Hid (a0.size = u.size + 3 * k) := hk1
    have HC : Aside (k ≤ a0.data.toList.count 92) := hk2
    have HZ : Aside (a0.data.toList.count 92 = 0 → u = a0) := fun h => by
      rw [← Lib.mk_data u, ← Lib.mk_data a0, hu, no_slash _ h]
    have hle : u.size ≤ a0.size := by omega
    clear hu hk1 hk2
    go_wp2
    go_loopg [4, 5] a0.size (fun g t4 t5 wx => ∃ (i n : Nat), i ≤ a0.size ∧ a0.size ≤ i + g ∧ t4 = .int .i64 n ∧ t5 = .int .i64 i ∧ n ≤ i ∧ n = (a0.data.toList.take i).count 92 ∧ wx = v1)
    case atStart => exact ⟨0, 0, by omega, by omega, rfl, rfl, Nat.le_refl _, rfl, rfl⟩
    case round =>
      obtain ⟨i, n, hi, hig, rfl, rfl, hni, hn, rfl⟩ := hrel
      have HN : Hid (n = (a0.data.toList.take i).count 92) := hn
      clear hn
      by_cases hlt : i < a0.size
      · obtain ⟨x, hx⟩ : ∃ x : UInt8, a0[i]'hlt = x := ⟨_, rfl⟩
        have Hx : Aside (a0.data.toList[i]? = some x) := by rw [← hx]; exact Lib.data_getElem? a0 i hlt
        obtain ⟨g, rfl⟩ : ∃ g, gk = g + 1 := ⟨gk - 1, by omega⟩
        by_cases h92 : x = 92
        · have hb : ((x.toNat : Int) == 92) = true := by rw [h92]; decide
          have HN2 : Aside (n + 1 = (a0.data.toList.take (i + 1)).count 92) := by
            rw [take_snoc _ i x Hx.out, List.count_append, ← HN.out, h92]; rfl
          clear h92
          go_wp2
          go_roundg g
          case measure => omega
          case rel => exact ⟨i + 1, n + 1, by omega, by omega, by go_num, by go_num, by omega, HN2.out, rfl⟩
        · have hb : ((x.toNat : Int) == 92) = false := by
            rw [beq_eq_false_iff_ne]
            intro e
            exact h92 (UInt8.toNat_inj.1 (by have : (92 : UInt8).toNat = 92 := rfl; omega))
          have HN2 : Aside (n = (a0.data.toList.take (i + 1)).count 92) := by
            rw [take_snoc _ i x Hx.out, List.count_append, ← HN.out, List.count_singleton, if_neg (by simpa using h92)]; rfl
          clear h92
          go_wp2
          go_roundg g
          case measure => omega
          case rel => exact ⟨i + 1, n, by omega, by omega, rfl, by go_num, by omega, HN2.out, rfl⟩
      · have hnc : n = a0.data.toList.count 92 := by
          have h := HN.out
          rw [List.take_of_length_le (by rw [← Lib.size_eq]; omega)] at h
          exact h
        have hkn : k ≤ n := by rw [hnc]; exact HC.out
        have hk1 := HK.out
        have hr : (((a0.size : Int) - (u.size : Int)) % 3 != 0) = false := by
          rw [bne_eq_false_iff_eq]; omega
        have hq : ((a0.size : Int) - (u.size : Int)) / 3 ≤ (n : Int) := by omega
        by_cases hn0 : n = 0
        · have hua : u = a0 := HZ.out (by rw [← hnc]; exact hn0)
          have hz : ((n : Int) == 0) = true := beq_iff_eq.2 (by omega)
          clear hnc hn0 hk1 hkn HN HK HC HZ
          subst hua
          go_wp2
          go_ret
          exact ⟨rfl, hb1⟩
        · have hz : ((n : Int) == 0) = false := beq_eq_false_iff_ne.2 (by omega)
          clear hnc hn0 hk1 hkn HN HK HC HZ
          go_wp2
          go_ret
          exact ⟨rfl, hb1⟩
  · rw [decide_eq_false hs] at hb8
    have H8 : Hid (∀ w, Calls Tryd.prog 8 #[.string a0] w fun e w' => e = .returned (.bool false) ∧ w' = w) := hb8
    clear hb8 hh
    go_enter Tryd.func4, Tryd.ntmps4
    go_wp2_with (go_at_call 8; refine (H8.out _).mono ?_; rintro e w' ⟨rfl, hw⟩; rw [hw])
    go_ret
    exact ⟨rfl, Below.refl _ _⟩
end Go.Proofs.Qxb6600664aDoor.fnUnescapeShrinksByThreePerEscape
