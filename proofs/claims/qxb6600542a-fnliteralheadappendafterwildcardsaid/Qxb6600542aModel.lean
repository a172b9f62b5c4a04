import Derived.Test.Qxb6600542aHeads
namespace Go.Proofs.Qxb6600542a
open Go.Shelf Go.RowKit Go.Lib Plain

theorem byte_some (s : ByteArray) (i : Nat) (h : i < s.size) : s.data.toList[i]? = some (s[i]'h) := Lib.data_getElem? s i h

set_option maxHeartbeats 1000000 in
theorem model_any (s : ByteArray) (w : World) (hs : s.size ≤ 1048576) :
    Calls Try.prog 12 #[.string s] w fun e w' => ∃ h t : ByteArray, e = .returned (.tuple #[.string h, .string t]) ∧ (∃ k, IsCut s.data.toList k ∧ h.data.toList = s.data.toList.take k ∧ t.data.toList = s.data.toList.drop k) ∧ Below w.heap.size w w' := by
  go_enter Try.func12, Try.ntmps12
  go_wp2
  go_loopg [4, 5] s.size (fun g t4 t5 wx => ∃ i : Nat, i ≤ s.size ∧ s.size ≤ i + g ∧ t4 = .int .i64 (-1) ∧ t5 = .int .i64 i ∧ NoMetaTo s.data.toList i ∧ wx = w)
  case atStart => exact ⟨0, by omega, by omega, rfl, rfl, NoMetaTo.zero _, rfl⟩
  case round =>
    obtain ⟨i, hi, hig, rfl, rfl, hno, rfl⟩ := hrel
    have HN : Aside (NoMetaTo s.data.toList i) := hno
    clear hno
    by_cases hlt : i < s.size
    · obtain ⟨x, hx⟩ : ∃ x : UInt8, s[i]'hlt = x := ⟨_, rfl⟩
      have Hx : Aside (s.data.toList[i]? = some x) := by rw [← hx]; exact byte_some s i hlt
      obtain ⟨g, rfl⟩ : ∃ g, gk = g + 1 := ⟨gk - 1, by omega⟩
      cases hm : isMeta x
      · have HM : Hid (∀ w, Calls Try.prog 33 #[.int .u8 x.toNat] w fun e w' => e = .returned (.bool false) ∧ w' = w) := fun w => by
          rw [← hm]; exact meta_any x w
        go_wp2_with (go_at_call 33; refine (HM.out _).mono ?_; rintro e w' ⟨rfl, hw⟩; rw [hw])
        go_roundg g
        case measure => omega
        case rel => exact ⟨i + 1, by omega, by omega, rfl, by go_num, HN.out.succ Hx.out hm, rfl⟩
      · have HM : Hid (∀ w, Calls Try.prog 33 #[.int .u8 x.toNat] w fun e w' => e = .returned (.bool true) ∧ w' = w) := fun w => by
          rw [← hm]; exact meta_any x w
        have HF : Aside (FirstMeta s.data.toList i) := ⟨HN.out, x, Hx.out, hm⟩
        go_wp2_with (go_at_call 33; refine (HM.out _).mono ?_; rintro e w' ⟨rfl, hw⟩; rw [hw])
        clear HM Hx HN
        go_loopg [6, 7] i (fun g t6 t7 wx => ∃ q : Int, -1 ≤ q ∧ q < i ∧ q < g ∧ t6 = .int .i64 0 ∧ t7 = .int .i64 q ∧ (∀ p : Nat, q < p → p < i → s.data.toList[p]? ≠ some 47) ∧ wx = wr)
        case atStart => exact ⟨(i : Int) - 1, by omega, by omega, by omega, rfl, rfl, fun p h1 h2 => by omega, rfl⟩
        case round =>
          obtain ⟨q, hq0, hq1, hqg, rfl, rfl, hsl, rfl⟩ := hrel
          have HS : Aside (∀ p : Nat, q < p → p < i → s.data.toList[p]? ≠ some 47) := hsl
          clear hsl
          by_cases hq : 1 ≤ q
          · obtain ⟨p, rfl⟩ : ∃ p : Nat, q = p := ⟨q.toNat, by omega⟩
            have hps : p < s.size := by omega
            obtain ⟨y, hy⟩ : ∃ y : UInt8, s[p]'hps = y := ⟨_, rfl⟩
            have Hy : Aside (s.data.toList[p]? = some y) := by rw [← hy]; exact byte_some s p hps
            by_cases h47 : y = 47
            · have hb : ((y.toNat : Int) == 47) = true := by rw [h47]; decide
              have P1 : Aside (IsCut s.data.toList p) := Or.inr ⟨i, by rw [← Lib.size_eq]; omega, HF.out, by omega, Or.inr (by rw [Hy.out, h47]), fun j h1 h2 => HS.out j (by omega) h2⟩
              clear h47
              go_wp2
              go_quiet (fail)
              go_wp2
              go_ret2
              exact ⟨s.extract 0 p, s.extract p s.size, rfl, ⟨p, P1.out, (cut_strings s p).1, (cut_strings s p).2⟩, below_drewN _ nq⟩
            · have hb : ((y.toNat : Int) == 47) = false := by
                rw [beq_eq_false_iff_ne]
                intro e
                exact h47 (UInt8.toNat_inj.1 (by have : (47 : UInt8).toNat = 47 := rfl; omega))
              go_wp2
              go_roundg p
              case measure => omega
              case rel => exact ⟨(p : Int) - 1, by omega, by omega, by omega, rfl, by go_num, fun r h1 h2 => by
                by_cases e : r = p
                · rw [e, Hy.out]; intro e2; exact h47 (Option.some.inj e2)
                · exact HS.out r (by omega) h2, rfl⟩
          · have P1 : Aside (IsCut s.data.toList 0) := Or.inr ⟨i, by rw [← Lib.size_eq]; omega, HF.out, by omega, Or.inl rfl, fun j h1 h2 => HS.out j (by omega) h2⟩
            go_wp2
            go_quiet (fail)
            go_wp2
            go_ret2
            exact ⟨ByteArray.empty, s, rfl, ⟨0, P1.out, rfl, rfl⟩, below_drewN _ nq⟩
    · have P1 : Aside (IsCut s.data.toList s.size) := Or.inl ⟨Lib.size_eq s, by rw [← Lib.size_eq, show s.size = i from by omega]; exact HN.out⟩
      go_wp2
      go_ret2
      exact ⟨s, ⟨#[]⟩, rfl, ⟨s.size, P1.out, by rw [Lib.size_eq, List.take_length], by rw [Lib.size_eq, List.drop_length]⟩, Below.refl _ _⟩

set_option maxHeartbeats 1000000 in
theorem has_any (s : ByteArray) (w : World) (hs : s.size ≤ 1048576) :
    Calls Try.prog 14 #[.string s] w fun e w' => e = .returned (.bool (hasMeta s.data.toList)) ∧ w' = w := by
  go_enter Try.func14, Try.ntmps14
  go_wp2
  go_loopg [3] s.size (fun g t3 wx => ∃ i : Nat, i ≤ s.size ∧ s.size ≤ i + g ∧ t3 = .int .i64 i ∧ NoMetaTo s.data.toList i ∧ wx = w)
  case atStart => exact ⟨0, by omega, by omega, rfl, NoMetaTo.zero _, rfl⟩
  case round =>
    obtain ⟨i, hi, hig, rfl, hno, rfl⟩ := hrel
    have HN : Aside (NoMetaTo s.data.toList i) := hno
    clear hno
    by_cases hlt : i < s.size
    · obtain ⟨x, hx⟩ : ∃ x : UInt8, s[i]'hlt = x := ⟨_, rfl⟩
      have Hx : Aside (s.data.toList[i]? = some x) := by rw [← hx]; exact byte_some s i hlt
      obtain ⟨g, rfl⟩ : ∃ g, gk = g + 1 := ⟨gk - 1, by omega⟩
      cases hm : isMeta x
      · have HM : Hid (∀ w, Calls Try.prog 33 #[.int .u8 x.toNat] w fun e w' => e = .returned (.bool false) ∧ w' = w) := fun w => by
          rw [← hm]; exact meta_any x w
        go_wp2_with (go_at_call 33; refine (HM.out _).mono ?_; rintro e w' ⟨rfl, hw⟩; rw [hw])
        go_roundg g
        case measure => omega
        case rel => exact ⟨i + 1, by omega, by omega, by go_num, HN.out.succ Hx.out hm, rfl⟩
      · have HM : Hid (∀ w, Calls Try.prog 33 #[.int .u8 x.toNat] w fun e w' => e = .returned (.bool true) ∧ w' = w) := fun w => by
          rw [← hm]; exact meta_any x w
        have HT : Aside (hasMeta s.data.toList = true) := hasMeta_true Hx.out hm
        go_wp2_with (go_at_call 33; refine (HM.out _).mono ?_; rintro e w' ⟨rfl, hw⟩; rw [hw])
        go_ret
        exact ⟨by rw [HT.out]; rfl, rfl⟩
    · have HT : Aside (hasMeta s.data.toList = false) := hasMeta_false (by rw [← Lib.size_eq, show s.size = i from by omega]; exact HN.out)
      go_wp2
      go_ret
      exact ⟨by rw [HT.out]; rfl, rfl⟩

set_option maxHeartbeats 1000000 in
theorem elem_any (s : ByteArray) (w : World) (hs : s.size ≤ 1048576) :
    Calls Try.prog 15 #[.string s] w fun e w' => ∃ h : ByteArray, e = .returned (.string h) ∧ (∃ j, ElemEnd s.data.toList j ∧ h.data.toList = s.data.toList.take j) ∧ w' = w := by
  go_enter Try.func15, Try.ntmps15
  go_wp2
  go_loopg [3] s.size (fun g t3 wx => ∃ i : Nat, 1 ≤ i ∧ (i ≤ s.size ∨ i = 1) ∧ s.size ≤ i + g ∧ t3 = .int .i64 i ∧ (∀ j, 1 ≤ j → j < i → s.data.toList[j]? ≠ some 47) ∧ wx = w)
  case atStart => exact ⟨1, by omega, by omega, by omega, rfl, fun j h1 h2 => by omega, rfl⟩
  case round =>
    obtain ⟨i, hi1, hi, hig, rfl, hno, rfl⟩ := hrel
    have HN : Aside (∀ j, 1 ≤ j → j < i → s.data.toList[j]? ≠ some 47) := hno
    clear hno
    have hsz := Lib.size_eq s
    have HZ : Aside (s.size = s.data.toList.length) := hsz
    clear hsz
    by_cases hlt : i < s.size
    · obtain ⟨y, hy⟩ : ∃ y : UInt8, s[i]'hlt = y := ⟨_, rfl⟩
      have Hy : Aside (s.data.toList[i]? = some y) := by rw [← hy]; exact byte_some s i hlt
      obtain ⟨g, rfl⟩ : ∃ g, gk = g + 1 := ⟨gk - 1, by omega⟩
      by_cases h47 : y = 47
      · have hb : ((y.toNat : Int) == 47) = true := by rw [h47]; decide
        have HE : Aside (ElemEnd s.data.toList i) := ⟨by have := HZ.out; omega, Or.inr ⟨hi1, by rw [Hy.out, h47]⟩, HN.out⟩
        clear h47
        go_wp2
        go_ret
        exact ⟨s.extract 0 i, rfl, ⟨i, HE.out, (cut_strings s i).1⟩, rfl⟩
      · have hb : ((y.toNat : Int) == 47) = false := by
          rw [beq_eq_false_iff_ne]
          intro e
          exact h47 (UInt8.toNat_inj.1 (by have : (47 : UInt8).toNat = 47 := rfl; omega))
        go_wp2
        go_roundg g
        case measure => omega
        case rel => exact ⟨i + 1, by omega, by omega, by omega, by go_num, fun r h1 h2 => by
          by_cases e : r = i
          · rw [e, Hy.out]; intro e2; exact h47 (Option.some.inj e2)
          · exact HN.out r h1 (by omega), rfl⟩
    · have HE : Aside (ElemEnd s.data.toList s.size) := ⟨by have := HZ.out; omega, Or.inl HZ.out, fun j h1 h2 => HN.out j h1 (by omega)⟩
      go_wp2
      go_ret
      exact ⟨s, rfl, ⟨s.size, HE.out, by rw [HZ.out, List.take_length]⟩, rfl⟩

set_option maxHeartbeats 1000000 in
theorem bytes10 (s : ByteArray) (w : World) (h : s.size ≤ maxLen) :
    Calls Try.prog 10 #[.string s] w fun e w' => e = .returned (.bool (decide (s.size ≤ 1048576))) ∧ w' = w := by
  unfold maxLen at h
  by_cases hs : s.size ≤ 1048576
  · rw [decide_eq_true hs]
    go_enter Try.func10, Try.ntmps10
    go_wp2
    go_ret
    exact ⟨rfl, rfl⟩
  · rw [decide_eq_false hs]
    go_enter Try.func10, Try.ntmps10
    go_wp2
    go_ret
    exact ⟨rfl, rfl⟩
end Go.Proofs.Qxb6600542a
