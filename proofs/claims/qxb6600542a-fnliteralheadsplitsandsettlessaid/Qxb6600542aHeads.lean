import Derived.Test.Qxb6600542aAny
namespace Go.Proofs.Qxb6600542a
open Go.Shelf Go.RowKit Go.Lib Plain

theorem contains_lit (s : ByteArray) (w : World) (hs : s.size ≤ 1048576) :
    Calls Try.prog 37 #[.string s, .string ⟨#[42, 63, 91, 92]⟩] w fun e w' => e = .returned (.bool (Lib.containsAny s.data.toList [42, 63, 91, 92])) ∧ Below w.heap.size w w' := contains_any s w hs

theorem meta_contains (x : UInt8) : ([42, 63, 91, 92] : List UInt8).contains x = isMeta x := by
  simp only [List.contains_cons, List.contains_nil, Bool.or_false, isMeta, Bool.or_assoc]

theorem any_cases (l : List UInt8) : (containsAny l [42, 63, 91, 92] = false ∧ NoMetaTo l l.length) ∨
    (containsAny l [42, 63, 91, 92] = true ∧ ∃ i x, i < l.length ∧ l[i]? = some x ∧ isMeta x = true ∧ NoMetaTo l i) := by
  have key : ∀ n, n ≤ l.length → NoMetaTo l n ∨ ∃ i x, i < l.length ∧ l[i]? = some x ∧ isMeta x = true ∧ NoMetaTo l i := fun n => by
    induction n with
    | zero => intro _; exact Or.inl (NoMetaTo.zero _)
    | succ n ih =>
      intro hn
      rcases ih (by omega) with h | h
      · have hx : l[n]? = some l[n] := List.getElem?_eq_getElem (by omega)
        cases hm : isMeta l[n]
        · exact Or.inl (h.succ hx hm)
        · exact Or.inr ⟨n, l[n], by omega, hx, hm, h⟩
      · exact Or.inr h
  rcases key l.length (Nat.le_refl _) with h | ⟨i, x, hi, hx, hm, hno⟩
  · refine Or.inl ⟨?_, h⟩
    rw [containsAny, indexAny_none (fun j b hj hb => by rw [meta_contains]; exact h j b hj hb)]
    decide
  · refine Or.inr ⟨?_, i, x, hi, hx, hm, hno⟩
    rw [containsAny, indexAny_hit (i := i) (x := x) (fun j b hj hb => by rw [meta_contains]; exact hno j b hj hb) hx (by rw [meta_contains]; exact hm)]
    exact decide_eq_true (by omega)

set_option maxHeartbeats 1000000 in
theorem meta_any (x : UInt8) (w : World) :
    Calls Try.prog 33 #[.int .u8 x.toNat] w fun e w' => e = .returned (.bool (isMeta x)) ∧ w' = w := by
  have e : ∀ n : UInt8, ((x.toNat : Int) == (n.toNat : Int)) = (x == n) := fun n => by
    rw [Bool.eq_iff_iff, beq_iff_eq, beq_iff_eq, ← UInt8.toNat_inj]; omega
  have e1 := e 42; have e2 := e 63; have e3 := e 91; have e4 := e 92
  have f : isMeta x = (((x.toNat : Int) == 42) || ((x.toNat : Int) == 63) || ((x.toNat : Int) == 91) || ((x.toNat : Int) == 92)) := by
    unfold isMeta
    rw [← e1, ← e2, ← e3, ← e4]; rfl
  rw [f]
  clear e e1 e2 e3 e4 f
  generalize (x.toNat : Int) = n
  cases h1 : (n == 42) <;> cases h2 : (n == 63) <;> cases h3 : (n == 91) <;> cases h4 : (n == 92)
  all_goals
    go_enter Try.func33, Try.ntmps33
    go_wp2
    go_ret
    exact ⟨rfl, rfl⟩

theorem cut_strings (s : ByteArray) (a : Nat) : (s.extract 0 a).data.toList = s.data.toList.take a ∧ (s.extract a s.size).data.toList = s.data.toList.drop a := by
  constructor
  · rw [Lib.extract_data, List.drop_zero, Nat.sub_zero]
  · rw [Lib.extract_data, Lib.size_eq, ← List.length_drop]; exact List.take_length

theorem piece_cases (s : ByteArray) (a b : Nat) (hab : a < b) (hb : b ≤ s.size) (hs : s.size ≤ 1048576) (hno : NoMetaTo s.data.toList a) (ha : a = 0 ∨ s.data.toList[a]? = some 47)
    (hsl : ∀ j, a < j → j < b → s.data.toList[j]? ≠ some 47) :
    (NoMetaTo s.data.toList b ∧ Hid (∀ wx, Calls Try.prog 37 #[.string (s.extract a b), .string ⟨#[42, 63, 91, 92]⟩] wx fun e w' => e = .returned (.bool false) ∧ Below wx.heap.size wx w')) ∨
    (IsCut s.data.toList a ∧ Hid (∀ wx, Calls Try.prog 37 #[.string (s.extract a b), .string ⟨#[42, 63, 91, 92]⟩] wx fun e w' => e = .returned (.bool true) ∧ Below wx.heap.size wx w')) := by
  have hsz := Lib.size_eq s
  have hlen : (s.extract a b).data.toList.length = b - a := by
    rw [Lib.extract_data, List.length_take, List.length_drop]; omega
  have hsz2 : (s.extract a b).size ≤ 1048576 := by rw [Lib.size_eq, hlen]; omega
  have hat : ∀ i, i < b - a → (s.extract a b).data.toList[i]? = s.data.toList[a + i]? := fun i hi => by
    rw [Lib.extract_data, List.getElem?_take, if_pos hi, List.getElem?_drop]
  have hc := fun wx => contains_lit (s.extract a b) wx hsz2
  rcases any_cases (s.extract a b).data.toList with ⟨h1, h2⟩ | ⟨h1, i, x, h2, h3, h4, h5⟩
  · rw [h1] at hc
    refine Or.inl ⟨fun j c hj hc' => ?_, hc⟩
    by_cases hja : j < a
    · exact hno j c hja hc'
    · exact h2 (j - a) c (by omega) (by rw [hat _ (by omega), show a + (j - a) = j from by omega]; exact hc')
  · rw [h1] at hc
    rw [hlen] at h2
    refine Or.inr ⟨IsCut.hit (b := b) (m := a + i) (by omega) hno ha hsl (by omega) (by omega) ⟨x, by rw [← hat i h2]; exact h3, h4⟩ fun j c hj1 hj2 hj3 => ?_, hc⟩
    exact h5 (j - a) c (by omega) (by rw [hat _ (by omega), show a + (j - a) = j from by omega]; exact hj3)

set_option maxHeartbeats 1000000 in
theorem head_any (s : ByteArray) (w : World) (hs : s.size ≤ 1048576) :
    Calls Try.prog 32 #[.string s] w fun e w' => ∃ h t : ByteArray, e = .returned (.tuple #[.string h, .string t]) ∧ (∃ k, IsCut s.data.toList k ∧ h.data.toList = s.data.toList.take k ∧ t.data.toList = s.data.toList.drop k) ∧ Below w.heap.size w w' := by
  go_enter Try.func32, Try.ntmps32
  go_wp2
  go_loopg [4] s.size (fun g t4 wx => ∃ a : Nat, a ≤ s.size ∧ s.size ≤ a + g ∧ t4 = .int .i64 a ∧ NoMetaTo s.data.toList a ∧ (a = 0 ∨ s.data.toList[a]? = some 47 ∨ a = s.size) ∧ Below w.heap.size w wx)
  case atStart => exact ⟨0, by omega, by omega, rfl, NoMetaTo.zero _, Or.inl rfl, Below.refl _ _⟩
  case round =>
    obtain ⟨a, ha, hag, rfl, hno, hsl, hbel⟩ := hrel
    have HN : Aside (NoMetaTo s.data.toList a) := hno
    have HS : Aside (a = 0 ∨ s.data.toList[a]? = some 47 ∨ a = s.size) := hsl
    have HB : Aside (Below w.heap.size w wr) := hbel
    clear hno hsl hbel
    by_cases hlt : a < s.size
    · have hL : (s.extract (a + 1) s.size).data.toList = s.data.toList.drop (a + 1) := by
        rw [Lib.extract_data, Lib.size_eq, ← List.length_drop]; exact List.take_length
      have h47 : ∀ wx, Calls Try.prog 36 #[.string (s.extract (a + 1) s.size), .int .u8 47] wx fun e w' => e = .returned (.int .i64 (Lib.indexByte (s.data.toList.drop (a + 1)) 47)) ∧ w' = wx := fun wx => by
        have := Try.strings_IndexByte (s.extract (a + 1) s.size) 47 wx
        rw [hL] at this
        exact this
      clear hL
      obtain ⟨g, rfl⟩ : ∃ g, gk = g + 1 := ⟨gk - 1, by omega⟩
      by_cases hq : Lib.indexByte (s.data.toList.drop (a + 1)) 47 = -1
      · rw [hq] at h47
        have H47 : Hid (∀ wx, Calls Try.prog 36 #[.string (s.extract (a + 1) s.size), .int .u8 47] wx fun e w' => e = .returned (.int .i64 (-1)) ∧ w' = wx) := h47
        have HQ : Aside (∀ j, a < j → j < s.size → s.data.toList[j]? ≠ some 47) := fun j h1 h2 => by
          have := Lib.indexByte_none hq (j - (a + 1))
          rw [List.getElem?_drop, show a + 1 + (j - (a + 1)) = j from by omega] at this
          exact this
        clear h47 hq
        have hp := piece_cases s a s.size hlt (Nat.le_refl _) hs HN.out (HS.out.elim Or.inl fun h => h.elim Or.inr fun h => absurd h (by omega)) HQ.out
        rcases hp with ⟨p1, p2⟩ | ⟨p1, p2⟩
        · have P1 : Aside (NoMetaTo s.data.toList s.size) := p1
          clear p1
          go_wp2_with (first | (go_at_call 36; refine (H47.out _).mono ?_; rintro e w' ⟨rfl, hw⟩; rw [hw]) | (go_at_call 37; refine (p2.out _).mono ?_; rintro e w2 ⟨rfl, hb2⟩))
          go_roundg g
          case measure => omega
          case rel => exact ⟨s.size, by omega, by omega, rfl, P1.out, Or.inr (Or.inr rfl), HB.out.trans (hb2.mono HB.out.size)⟩
        · have P1 : Aside (IsCut s.data.toList a) := p1
          clear p1
          go_wp2_with (first | (go_at_call 36; refine (H47.out _).mono ?_; rintro e w' ⟨rfl, hw⟩; rw [hw]) | (go_at_call 37; refine (p2.out _).mono ?_; rintro e w2 ⟨rfl, hb2⟩))
          go_quiet (fail)
          go_wp2
          go_ret2
          have hb3 := HB.out.trans (hb2.mono HB.out.size)
          exact ⟨s.extract 0 a, s.extract a s.size, rfl, ⟨a, P1.out, (cut_strings s a).1, (cut_strings s a).2⟩, hb3.trans ((below_drewN w2 nq).mono hb3.size)⟩
      · obtain ⟨o, ho⟩ : ∃ o : Nat, Lib.indexByte (s.data.toList.drop (a + 1)) 47 = o := ⟨(Lib.indexByte (s.data.toList.drop (a + 1)) 47).toNat, by have := Lib.indexByte_ge (s.data.toList.drop (a + 1)) 47; omega⟩
        rw [ho] at h47
        have H47 : Hid (∀ wx, Calls Try.prog 36 #[.string (s.extract (a + 1) s.size), .int .u8 47] wx fun e w' => e = .returned (.int .i64 o) ∧ w' = wx) := h47
        obtain ⟨o1, o2⟩ := Lib.indexByte_some ho
        have hob : a + 1 + o < s.size := by
          rw [List.getElem?_drop] at o1
          rw [Lib.size_eq]
          exact (List.getElem?_eq_some_iff.1 o1).1
        have HO : Aside (s.data.toList[a + 1 + o]? = some 47) := by rw [← List.getElem?_drop]; exact o1
        have HQ : Aside (∀ j, a < j → j < a + 1 + o → s.data.toList[j]? ≠ some 47) := fun j h1 h2 => by
          have := o2 (j - (a + 1)) (by omega)
          rw [List.getElem?_drop, show a + 1 + (j - (a + 1)) = j from by omega] at this
          exact this
        clear h47 hq ho o1 o2
        have hp := piece_cases s a (o + (a + 1)) (by omega) (by omega) hs HN.out (HS.out.elim Or.inl fun h => h.elim Or.inr fun h => absurd h (by omega)) (fun j h1 h2 => HQ.out j h1 (by omega))
        rcases hp with ⟨p1, p2⟩ | ⟨p1, p2⟩
        · have P1 : Aside (NoMetaTo s.data.toList (o + (a + 1))) := p1
          clear p1
          go_wp2_with (first | (go_at_call 36; refine (H47.out _).mono ?_; rintro e w' ⟨rfl, hw⟩; rw [hw]) | (go_at_call 37; refine (p2.out _).mono ?_; rintro e w2 ⟨rfl, hb2⟩))
          go_roundg g
          case measure => omega
          case rel => exact ⟨o + (a + 1), by omega, by omega, by go_num, P1.out, Or.inr (Or.inl (by rw [show o + (a + 1) = a + 1 + o from by omega]; exact HO.out)), HB.out.trans (hb2.mono HB.out.size)⟩
        · have P1 : Aside (IsCut s.data.toList a) := p1
          clear p1
          go_wp2_with (first | (go_at_call 36; refine (H47.out _).mono ?_; rintro e w' ⟨rfl, hw⟩; rw [hw]) | (go_at_call 37; refine (p2.out _).mono ?_; rintro e w2 ⟨rfl, hb2⟩))
          go_quiet (fail)
          go_wp2
          go_ret2
          have hb3 := HB.out.trans (hb2.mono HB.out.size)
          exact ⟨s.extract 0 a, s.extract a s.size, rfl, ⟨a, P1.out, (cut_strings s a).1, (cut_strings s a).2⟩, hb3.trans ((below_drewN w2 nq).mono hb3.size)⟩
    · have P1 : Aside (IsCut s.data.toList s.size) := Or.inl ⟨Lib.size_eq s, by rw [← Lib.size_eq, show s.size = a from by omega]; exact HN.out⟩
      go_wp2
      go_ret2
      exact ⟨s, ⟨#[]⟩, rfl, ⟨s.size, P1.out, by rw [Lib.size_eq, List.take_length], by rw [Lib.size_eq, List.drop_length]⟩, HB.out⟩

set_option maxHeartbeats 1000000 in
theorem zz_any (s : ByteArray) (w : World) (hs : s.size ≤ 1048576) :
    Calls Try.prog 11 #[.string s] w fun e w' => ∃ h t : ByteArray, e = .returned (.tuple #[.string h, .string t]) ∧ (∃ k, IsCut s.data.toList k ∧ h.data.toList = s.data.toList.take k ∧ t.data.toList = s.data.toList.drop k) ∧ Below w.heap.size w w' := by
  go_enter Try.func11, Try.ntmps11
  go_wp2_with (go_at_call 32; refine (head_any _ _ hs).mono ?_; rintro e w' ⟨h, t, rfl, hk, hb⟩)
  go_ret2
  exact ⟨h, t, rfl, hk, hb⟩
end Go.Proofs.Qxb6600542a
