import Derived.Test.Qxb6600542aRune
import Derived.Lib.OthersKept
namespace Go.Proofs.Qxb6600542a
open Go.Shelf Go.RowKit Go.Lib

theorem decode_cont (s : ByteArray) (pos : Nat) (h : pos < s.size) (ha : 128 ≤ (s[pos]'h).toNat) :
    ∀ k, k < (Utf8.decode s pos).2 → pos + k < s.size ∧ 128 ≤ (s.get! (pos + k)).toNat := by
  have hn : ¬ (s[pos]'h).toNat < 128 := by omega
  have h0 : pos + 0 < s.size ∧ 128 ≤ (s.get! (pos + 0)).toNat := ⟨h, by rw [get_at s pos h]; exact ha⟩
  have one : ∀ k, k < 1 → pos + k < s.size ∧ 128 ≤ (s.get! (pos + k)).toNat := fun k hk => by
    obtain rfl : k = 0 := by omega
    exact h0
  have hc : ∀ k, (decide (pos + k < s.size) && (s.get! (pos + k)).toNat / 64 == 2) = true → pos + k < s.size ∧ 128 ≤ (s.get! (pos + k)).toNat := fun k hk => by
    simp only [Bool.and_eq_true, decide_eq_true_eq, beq_iff_eq] at hk
    exact ⟨hk.1, by omega⟩
  simp only [Utf8.decode, get_at s pos h, hn, if_false]
  split
  · rename_i h1
    rw [Bool.and_eq_true] at h1
    split
    · intro k hk
      have hk : k < 2 := hk
      match k, hk with
      | 0, _ => exact h0
      | 1, _ => exact hc 1 h1.2
    · exact one
  · split
    · rename_i h1
      simp only [Bool.and_eq_true] at h1
      split
      · intro k hk
        have hk : k < 3 := hk
        match k, hk with
        | 0, _ => exact h0
        | 1, _ => exact hc 1 (by simpa using h1.1.2)
        | 2, _ => exact hc 2 (by simpa using h1.2)
      · exact one
    · split
      · rename_i h1
        simp only [Bool.and_eq_true] at h1
        split
        · intro k hk
          have hk : k < 4 := hk
          match k, hk with
          | 0, _ => exact h0
          | 1, _ => exact hc 1 (by simpa using h1.1.1.2)
          | 2, _ => exact hc 2 (by simpa using h1.1.2)
          | 3, _ => exact hc 3 (by simpa using h1.2)
        · exact one
      · exact one

theorem decode_top (s : ByteArray) (pos : Nat) : (Utf8.decode s pos).1 ≤ 1114111 := by
  have hb : ∀ k, (s.get! (pos + k)).toNat < 256 := fun k => (s.get! (pos + k)).toNat_lt
  have h0 := hb 0; have h1 := hb 1; have h2 := hb 2; have h3 := hb 3
  simp only [Utf8.decode]
  repeat' split
  all_goals simp_all [Utf8.runeError, Utf8.valid]
  all_goals omega

theorem metas_high (b : UInt8) (h : 128 ≤ b.toNat) : metas.data.toList.contains b = false := by
  have e : ∀ x : UInt8, x.toNat < 128 → (b == x) = false := fun x hx => by
    rw [beq_eq_false_iff_ne]; intro e; rw [e] at h; omega
  show List.contains [42, 63, 91, 92] b = false
  simp only [List.contains_cons, List.contains_nil, e 42 (by decide), e 63 (by decide), e 91 (by decide), e 92 (by decide), Bool.or_false]

theorem getElem?_get! (s : ByteArray) (j : Nat) (b : UInt8) (h : s.data.toList[j]? = some b) : s.get! j = b := by
  have hj : j < s.size := by
    rw [Lib.size_eq]; exact (List.getElem?_eq_some_iff.1 h).1
  rw [Lib.data_getElem? s j hj] at h
  have := Option.some.inj h
  rw [← this]
  exact get_at s j hj

theorem NoAny_skip {s : ByteArray} {i d : Nat} (h : Lib.NoAny s.data.toList metas.data.toList i) (hd : ∀ k, k < d → i + k < s.size ∧ 128 ≤ (s.get! (i + k)).toNat) : Lib.NoAny s.data.toList metas.data.toList (i + d) := fun j b hj hb => by
  by_cases hlt : j < i
  · exact h j b hlt hb
  · obtain ⟨_, h2⟩ := hd (j - i) (by omega)
    rw [show i + (j - i) = j from by omega, getElem?_get! s j b hb] at h2
    exact metas_high b h2

set_option maxHeartbeats 2000000 in
set_option maxRecDepth 1000000 in
theorem any_short (s : ByteArray) (w : World) (h8 : s.size ≤ 8) :
    Calls Try.prog 45 #[.string s, .string metas] w fun e w' => e = .returned (.int .i64 (Lib.indexAny s.data.toList metas.data.toList)) ∧ Below w.heap.size w w' := by
  have hemp : metas.toList.isEmpty = false := by rw [Lib.toList_data]; rfl
  have hsz : metas.size = 4 := rfl
  have h8z : decide ((8 : Int) < (s.size : Int)) = false := decide_eq_false (by omega)
  obtain ⟨chars, hch⟩ : ∃ chars, chars = metas := ⟨_, rfl⟩
  rw [← hch] at hemp hsz ⊢
  have HC : Hid (chars = metas) := hch
  clear hch
  go_enter Try.func45, Try.ntmps45
  go_wp2_with (go_at_call 53; refine (Try.strings_shouldUseASCIISet _ _).mono ?_; rintro e w' ⟨rfl, hw⟩; rw [hw, h8z])
  go_loopg [9, 10] s.size (fun g _ _ wx => ∃ i : Nat, i ≤ s.size ∧ s.size ≤ i + g ∧ wx.heap[w.heap.size]? = some (.stringIter s i) ∧ w.heap.size < wx.heap.size ∧ Below w.heap.size w wx ∧ Lib.NoAny s.data.toList chars.data.toList i)
  case atStart => exact ⟨0, by omega, by omega, World.iter_heap w s 0, by simp [World.iter], (Below.refl _ _).alloc (Nat.le_refl _) _, Lib.NoAny.zero _ _⟩
  case round =>
    obtain ⟨i, his, hig, hit, hsz', hbel, hno⟩ := hrel
    have HN : Aside (Lib.NoAny s.data.toList chars.data.toList i) := hno
    have HB : Aside (Below w.heap.size w wr) := hbel
    have HI : Aside (wr.heap[w.heap.size]? = some (.stringIter s i)) := hit
    clear hno hbel hit
    by_cases hlt : i < s.size
    · obtain ⟨x, hx⟩ : ∃ x : UInt8, s[i]'hlt = x := ⟨_, rfl⟩
      have hxl : s.data.toList[i]? = some x := by rw [← hx]; exact Lib.data_getElem? s i hlt
      have Hx : Aside (s.data.toList[i]? = some x) := hxl
      clear hxl
      obtain ⟨g, rfl⟩ : ∃ g, gk = g + 1 := ⟨gk - 1, by omega⟩
      by_cases h128 : x.toNat < 128
      · have hnx := fun ty => run_next_ascii_at (P := Try.prog) wr w.heap.size s i ty HI.out hlt (by rw [hx]; exact h128)
        rw [hx] at hnx
        clear hx
        have hcon := Lib.contains_iff_indexByte chars.data.toList x
        have hback : ((x.toNat : Int)).toNat.toUInt8 = x := by simp
        have HB2 : Aside (Below w.heap.size w (wr.iterAt w.heap.size s (i + 1))) := below_iterAt HB.out (Nat.le_refl _) s (i + 1)
        have HI2 : Aside ((wr.iterAt w.heap.size s (i + 1)).heap[w.heap.size]? = some (.stringIter s (i + 1))) := iterAt_heap wr w.heap.size s i (i + 1) HI.out
        have hsz2 : w.heap.size < (wr.iterAt w.heap.size s (i + 1)).heap.size := by rw [iterAt_size]; exact hsz'
        generalize wr.iterAt w.heap.size s (i + 1) = w2 at *
        cases hin : chars.data.toList.contains x
        · rw [hin] at hcon
          have hlt0 : ¬ ((0 : Int) ≤ Lib.indexByte chars.data.toList x) := of_decide_eq_false hcon.symm
          clear hcon
          go_wp2_with (go_at_call 52; refine (Try.strings_IndexRune_ascii _ _ _ (by omega) (by omega)).mono ?_; rintro e w' ⟨rfl, hw⟩; rw [hw, hback])
          go_roundg g
          case measure => omega
          case rel => exact ⟨i + 1, by omega, by omega, HI2.out, hsz2, HB2.out, HN.out.succ Hx.out hin⟩
        · rw [hin] at hcon
          have hge : (0 : Int) ≤ Lib.indexByte chars.data.toList x := of_decide_eq_true hcon.symm
          clear hcon
          go_wp2_with (go_at_call 52; refine (Try.strings_IndexRune_ascii _ _ _ (by omega) (by omega)).mono ?_; rintro e w' ⟨rfl, hw⟩; rw [hw, hback])
          go_ret
          exact ⟨by rw [Lib.indexAny_hit HN.out Hx.out hin]; rfl, HB2.out⟩
      · have hnx := fun ty => run_next_any_at (P := Try.prog) wr w.heap.size s i ty HI.out hlt
        have hge := decode_high s i hlt (by rw [hx]; omega)
        have hcont := decode_cont s i hlt (by rw [hx]; omega)
        have htop := decode_top s i
        clear hx
        generalize Utf8.decode s i = d at *
        obtain ⟨r, m⟩ := d
        simp only at hnx hge hcont htop
        obtain ⟨hr, hm⟩ := hge
        have hNm : Lib.NoAny s.data.toList chars.data.toList (i + m) := by
          have e := HC.out
          rw [e]
          exact NoAny_skip (by rw [← e]; exact HN.out) hcont
        have him : i + m ≤ s.size := by have := (hcont (m - 1) (by omega)).1; omega
        have HNm : Aside (Lib.NoAny s.data.toList chars.data.toList (i + m)) := hNm
        clear hNm hcont
        have HB2 : Aside (Below w.heap.size w (wr.iterAt w.heap.size s (i + m))) := below_iterAt HB.out (Nat.le_refl _) s (i + m)
        have HI2 : Aside ((wr.iterAt w.heap.size s (i + m)).heap[w.heap.size]? = some (.stringIter s (i + m))) := iterAt_heap wr w.heap.size s i (i + m) HI.out
        have hsz2 : w.heap.size < (wr.iterAt w.heap.size s (i + m)).heap.size := by rw [iterAt_size]; exact hsz'
        have HR : Hid (∀ w, Calls Try.prog 52 #[.string chars, .int .i32 r] w fun e w' => e = .returned (.int .i64 (-1)) ∧ Below w.heap.size w w') := by
          intro w
          rw [HC.out]
          exact idx_high r (by omega) (by omega) w
        generalize wr.iterAt w.heap.size s (i + m) = w2 at *
        go_wp2_with (go_at_call 52; refine (HR.out _).mono ?_; rintro e w3 ⟨rfl, hb3⟩)
        go_roundg g
        case measure => omega
        case rel => exact ⟨i + m, by omega, by omega, by rw [hb3.block _ hsz2]; exact HI2.out, Nat.lt_of_lt_of_le hsz2 hb3.size, HB2.out.trans (hb3.mono (by omega)), HNm.out⟩
    · have hnx := fun ty => run_next_end_at (P := Try.prog) wr w.heap.size s i ty HI.out hlt
      have hfin : Aside (Lib.indexAny s.data.toList chars.data.toList = -1) := by
        refine Lib.indexAny_none ?_
        rw [← Lib.size_eq, show s.size = i from by omega]
        exact HN.out
      go_wp2
      go_ret
      exact ⟨by rw [hfin.out]; rfl, HB.out⟩

theorem metas_ascii : ∀ (j : Nat) b, metas.data.toList[j]? = some b → b.toNat < 128 := fun j b h => by
  have hm : b ∈ [42, 63, 91, 92] := List.mem_of_getElem? h
  revert b
  intro b _ hm
  simp only [List.mem_cons, List.not_mem_nil, or_false] at hm
  rcases hm with rfl | rfl | rfl | rfl <;> decide

theorem any_all (s : ByteArray) (w : World) (hs : s.size ≤ 1048576) :
    Calls Try.prog 45 #[.string s, .string metas] w fun e w' => e = .returned (.int .i64 (Lib.indexAny s.data.toList metas.data.toList)) ∧ Below w.heap.size w w' := by
  by_cases h8 : s.size ≤ 8
  · exact any_short s w h8
  · refine (Try.strings_IndexAny_long (fun w => by kernel_rfl) s metas w (by decide) (by omega) (by omega) (by decide) metas_ascii).mono fun e w' ⟨h1, h2⟩ => ⟨h1, ?_⟩
    rw [h2]
    exact ((Below.refl _ _).alloc (Nat.le_refl _) _).alloc (by simp) _

set_option maxHeartbeats 1000000 in
/-- strings.ContainsAny(s, the four wildcards): at every s. -/
theorem contains_any (s : ByteArray) (w : World) (hs : s.size ≤ 1048576) :
    Calls Try.prog 37 #[.string s, .string metas] w fun e w' => e = .returned (.bool (Lib.containsAny s.data.toList metas.data.toList)) ∧ Below w.heap.size w w' := by
  have c := any_all s w hs
  obtain ⟨chars, hch⟩ : ∃ chars, chars = metas := ⟨_, rfl⟩
  rw [← hch] at c ⊢
  clear hch
  have C : Hid (Calls Try.prog 45 #[.string s, .string chars] w fun e w' => e = .returned (.int .i64 (Lib.indexAny s.data.toList chars.data.toList)) ∧ Below w.heap.size w w') := c
  clear c
  go_enter Try.func37, Try.ntmps37
  go_wp2_with (go_at_call 45; refine C.out.mono ?_; rintro e w' ⟨rfl, hw⟩)
  go_ret
  exact ⟨rfl, hw⟩
end Go.Proofs.Qxb6600542a
