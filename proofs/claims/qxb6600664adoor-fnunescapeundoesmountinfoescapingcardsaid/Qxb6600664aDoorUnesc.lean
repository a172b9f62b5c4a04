/-
  cpustat.unescape, walked.
-/
import Derived.Test.Qxb6600664aDoorPub
import Derived.Test.Qxb6600664aDoorBuild
import Derived.Deep.LoopGhost
namespace Go.Proofs.Qxb6600664aDoor
open Go.Shelf Go.RowKit Plain
set_option linter.unusedVariables false

theorem parse8_le : ∀ (l : List UInt8) (acc u : Nat), acc ≤ 255 → parse8 acc l = some (some u) → u ≤ 255
  | [], acc, u, h, e => by simp only [parse8, Option.some.injEq] at e; omega
  | c :: r, acc, u, h, e => by
    rw [parse8] at e
    split at e
    · split at e
      · cases e
      · exact parse8_le r _ u (by omega) e
    · cases e

theorem esc_take {x : UInt8} {r : List UInt8} (hx : x = 92) (h : 3 ≤ r.length) : escAt (x :: r) = (match parse8 0 (r.take 3) with | some (some u) => some u | _ => none) := by
  match r, h with
  | a :: b :: c :: t, _ =>
    show (if x = 92 then (match parse8 0 [a, b, c] with | some (some u) => some u | _ => none) else none) = _
    rw [if_pos hx]
    rfl

theorem esc_short {x : UInt8} {r : List UInt8} (h : r.length < 3) : escAt (x :: r) = none := by
  cases e : escAt (x :: r) with
  | none => rfl
  | some u => have := (escAt_some e).2; omega

theorem esc_other {x : UInt8} {r : List UInt8} (h : ¬ x = 92) : escAt (x :: r) = none := by
  cases e : escAt (x :: r) with
  | none => rfl
  | some u => exact absurd (escAt_some e).1 h

theorem cells_snoc (acc : List UInt8) (x : UInt8) : Lib.byteCells acc ++ [.int .u8 x.toNat] = Lib.byteCells (acc ++ [x]) := by
  simp [Lib.byteCells]

theorem cells_length (acc : List UInt8) : (Lib.byteCells acc).length = acc.length := by simp [Lib.byteCells]

/-- A round that keeps the byte. -/
theorem step_keep {l acc : List UInt8} {i : Nat} {x : UInt8} (h : unesc l = acc ++ unesc (l.drop i)) (hx : l[i]? = some x) (he : escAt (x :: l.drop (i + 1)) = none) : unesc l = (acc ++ [x]) ++ unesc (l.drop (i + 1)) := by
  have hd : l.drop i = x :: l.drop (i + 1) := by
    obtain ⟨hi, e⟩ := List.getElem?_eq_some_iff.1 hx
    rw [List.drop_eq_getElem_cons hi, e]
  rw [hd, unesc_plain he] at h
  rw [h, List.append_assoc, List.singleton_append]

/-- A round that takes an escape. -/
theorem step_esc {l acc : List UInt8} {i u : Nat} {x : UInt8} (h : unesc l = acc ++ unesc (l.drop i)) (hx : l[i]? = some x) (he : escAt (x :: l.drop (i + 1)) = some u) : unesc l = (acc ++ [UInt8.ofNat u]) ++ unesc (l.drop (i + 4)) := by
  have hd : l.drop i = x :: l.drop (i + 1) := by
    obtain ⟨hi, e⟩ := List.getElem?_eq_some_iff.1 hx
    rw [List.drop_eq_getElem_cons hi, e]
  rw [hd, unesc_esc he, List.drop_drop] at h
  rw [h, List.append_assoc, List.singleton_append, show i + 1 + 3 = i + 4 from by omega]

theorem none_count : ∀ (l : List UInt8), Lib.indexByte l 92 = -1 → l.count 92 = 0 := fun l h => by
  rw [List.count_eq_zero]
  intro hm
  obtain ⟨i, hi, e⟩ := List.getElem_of_mem hm
  exact Lib.indexByte_none h i (by rw [List.getElem?_eq_getElem hi, e])

theorem isBuilder_kept {B b : Nat} {bs : List Value} {w w' : World} (h : Lib.IsBuilder 31 5 B b bs w) (hb : Below w.heap.size w w') : Lib.IsBuilder 31 5 B b bs w' :=
  h.elim (fun h => Or.inl (builder_kept h hb)) (fun h => Or.inr (builder_kept h hb))

set_option maxHeartbeats 2000000 in
set_option maxRecDepth 100000 in
theorem unescape_any (s : ByteArray) (w : World) (hs : s.size ≤ 1048576) (hh : Held w) :
    Calls Tryd.prog 9 #[.string s] w fun e w' => ∃ u : ByteArray, e = .returned (.string u) ∧ u.data.toList = unesc s.data.toList ∧ Below w.heap.size w w' := by
  have HH : Aside (Held w) := hh
  clear hh
  have hc := Tryd.strings_Contains_one s 92 w
  by_cases hq : Lib.indexByte s.data.toList 92 = -1
  · rw [hq] at hc
    have HC : Hid (Calls Tryd.prog 10 #[.string s, .string ⟨#[92]⟩] w fun e w' => e = .returned (.bool false) ∧ w' = w) := hc
    have HF : Aside (unesc s.data.toList = s.data.toList) := no_slash _ (none_count _ hq)
    clear hc hq
    go_enter Tryd.func9, Tryd.ntmps9
    go_wp2_with (go_at_call 10; refine HC.out.mono ?_; rintro e w' ⟨rfl, hw⟩; rw [hw])
    go_ret
    exact ⟨s, rfl, HF.out.symm, Below.refl _ _⟩
  · have hge := Lib.indexByte_ge s.data.toList 92
    rw [decide_eq_true (by omega)] at hc
    have HC : Hid (Calls Tryd.prog 10 #[.string s, .string ⟨#[92]⟩] w fun e w' => e = .returned (.bool true) ∧ w' = w) := hc
    clear hc hq hge
    go_enter Tryd.func9, Tryd.ntmps9
    go_wp2_with (go_at_call 10; refine HC.out.mono ?_; rintro e w' ⟨rfl, hw⟩; rw [hw])
    go_loopg [4] s.size (fun g t4 wx => ∃ (i : Nat) (acc : List UInt8), i ≤ s.size ∧ s.size ≤ i + g ∧ t4 = .int .i64 i ∧ acc.length ≤ i ∧ unesc s.data.toList = acc ++ unesc (s.data.toList.drop i) ∧ Lib.IsBuilder 31 5 w.heap.size w.heap.size (Lib.byteCells acc) wx ∧ Below w.heap.size w wx)
    case atStart => exact ⟨0, [], by omega, by omega, rfl, Nat.le_refl _, rfl, Lib.fresh_isBuilder 31 5 w, (Below.refl _ _).alloc (Nat.le_refl _) _⟩
    case round =>
      obtain ⟨i, acc, hi, hig, rfl, hal, hun, hbu, hbel⟩ := hrel
      have HU : Aside (unesc s.data.toList = acc ++ unesc (s.data.toList.drop i)) := hun
      have HB : Aside (Below w.heap.size w wr) := hbel
      have HI : Aside (Lib.IsBuilder 31 5 w.heap.size w.heap.size (Lib.byteCells acc) wr) := hbu
      clear hun hbel hbu
      by_cases hlt : i < s.size
      · obtain ⟨x, hx⟩ : ∃ x : UInt8, s[i]'hlt = x := ⟨_, rfl⟩
        have Hx : Aside (s.data.toList[i]? = some x) := by rw [← hx]; exact Lib.data_getElem? s i hlt
        obtain ⟨g, rfl⟩ : ∃ g, gk = g + 1 := ⟨gk - 1, by omega⟩
        have HWR : Hid (∀ wx, Lib.IsBuilder 31 5 w.heap.size w.heap.size (Lib.byteCells acc) wx → w.heap.size ≤ wx.heap.size → Calls Tryd.prog 12 #[.pointer (some ⟨w.heap.size, 0, none⟩), .int .u8 x.toNat] wx fun e w' => e = .returned .nilIface ∧ (Lib.BuilderAt 31 5 w.heap.size w.heap.size (.pointer (some ⟨w.heap.size, 0, none⟩)) (Lib.byteCells (acc ++ [x])) w' ∧ Below w.heap.size wx w')) := fun wx h1 h2 => by
          rw [← cells_snoc]
          exact write_any _ _ _ _ wx h1 (by rw [cells_length]; omega) h2
        by_cases h92 : x = 92
        · have hb : ((x.toNat : Int) == 92) = true := by rw [h92]; decide
          by_cases h4 : i + 4 ≤ s.size
          · have h4b : (i : Int) + 4 ≤ (s.size : Int) := by omega
            have hlen : (s.data.toList.drop (i + 1)).length = s.size - (i + 1) := by rw [List.length_drop, ← Lib.size_eq]
            have hT : (s.extract (i + 1) (i + 4)).data.toList = (s.data.toList.drop (i + 1)).take 3 := by
              rw [Lib.extract_data, show i + 4 - (i + 1) = 3 from by omega]
            have hTz : (s.extract (i + 1) (i + 4)).size = 3 := by
              rw [Lib.size_eq, hT, List.length_take, hlen]; omega
            have hhr : Held wr := HH.out.below HH.out.lt HB.out
            have het := esc_take (r := s.data.toList.drop (i + 1)) h92 (by rw [hlen]; omega)
            by_cases hp : ∃ u, parse8 0 ((s.data.toList.drop (i + 1)).take 3) = some (some u)
            · obtain ⟨u, hp⟩ := hp
              have hu := parse8_le _ 0 u (by omega) hp
              rw [hp] at het
              have HE : Aside (unesc s.data.toList = (acc ++ [UInt8.ofNat u]) ++ unesc (s.data.toList.drop (i + 4))) := step_esc HU.out Hx.out het
              have HP : Hid (Calls Tryd.prog 11 #[.string (s.extract (i + 1) (i + 4)), .int .i64 8, .int .i64 8] wr fun e w' => e = .returned (.tuple #[.int .u64 u, .nilIface]) ∧ Below wr.heap.size wr w') := pub_ok _ (by rw [hTz]; decide) (by omega) u (by rw [hT]; exact hp) wr
              have HWU : Hid (∀ wx, Lib.IsBuilder 31 5 w.heap.size w.heap.size (Lib.byteCells acc) wx → w.heap.size ≤ wx.heap.size → Calls Tryd.prog 12 #[.pointer (some ⟨w.heap.size, 0, none⟩), .int .u8 u] wx fun e w' => e = .returned .nilIface ∧ (Lib.BuilderAt 31 5 w.heap.size w.heap.size (.pointer (some ⟨w.heap.size, 0, none⟩)) (Lib.byteCells (acc ++ [UInt8.ofNat u])) w' ∧ Below w.heap.size wx w')) := fun wx h1 h2 => by
                rw [← cells_snoc]
                have e : ((UInt8.ofNat u).toNat : Int) = (u : Int) := by
                  rw [UInt8.toNat_ofNat_of_lt' (by simp only [UInt8.size]; omega)]
                rw [e]
                exact write_any _ _ _ _ wx h1 (by rw [cells_length]; omega) h2
              clear hlen hT hTz hhr het hp h92 HWR
              go_wp2_with (go_at_call 11; refine HP.out.mono ?_; rintro e v1 ⟨rfl, hv1⟩)
              have hkb := isBuilder_kept HI.out hv1
              have hb1 := HB.out.trans (hv1.mono HB.out.size)
              refine (HWU.out _ hkb hb1.size).mono ?_
              rintro e v2 ⟨rfl, hbu2, hb2⟩
              go_wp2
              go_roundg (g - 3)
              case measure => omega
              case rel => exact ⟨i + 4, acc ++ [UInt8.ofNat u], by omega, by omega, by go_num, by rw [List.length_append, List.length_singleton]; omega, HE.out, Or.inr hbu2, hb1.trans hb2⟩
            · have HE : Aside (unesc s.data.toList = (acc ++ [x]) ++ unesc (s.data.toList.drop (i + 1))) := step_keep HU.out Hx.out (by
                rw [het]
                cases hq : parse8 0 ((s.data.toList.drop (i + 1)).take 3) with
                | none => rfl
                | some o =>
                  cases o with
                  | none => rfl
                  | some u => exact absurd ⟨u, hq⟩ hp)
              have HP : Hid (Calls Tryd.prog 11 #[.string (s.extract (i + 1) (i + 4)), .int .i64 8, .int .i64 8] wr fun e w' => (∃ x N, e = .returned (.tuple #[.int .u64 x, .iface 44 (.pointer (some ⟨N, 0, none⟩))])) ∧ Below wr.heap.size wr w') := pub_no _ (by rw [hTz]; decide) (by omega) (fun u hu => hp ⟨u, by rw [← hT]; exact hu⟩) wr hhr
              clear hlen hT hTz hhr het hp h92
              go_wp2_with (go_at_call 11; refine HP.out.mono ?_; rintro e v1 ⟨⟨y, N, rfl⟩, hv1⟩)
              have hkb := isBuilder_kept HI.out hv1
              have hb1 := HB.out.trans (hv1.mono HB.out.size)
              refine (HWR.out _ hkb hb1.size).mono ?_
              rintro e v2 ⟨rfl, hbu2, hb2⟩
              go_wp2
              go_roundg g
              case measure => omega
              case rel => exact ⟨i + 1, acc ++ [x], by omega, by omega, by go_num, by rw [List.length_append, List.length_singleton]; omega, HE.out, Or.inr hbu2, hb1.trans hb2⟩
          · have HE : Aside (unesc s.data.toList = (acc ++ [x]) ++ unesc (s.data.toList.drop (i + 1))) := step_keep HU.out Hx.out (esc_short (by rw [List.length_drop, ← Lib.size_eq]; omega))
            have h4b : ¬ ((i : Int) + 4 ≤ (s.size : Int)) := by omega
            clear h92
            go_wp2_with (go_at_call 12; refine (HWR.out _ HI.out HB.out.size).mono ?_; rintro e w2 ⟨rfl, hbu2, hb2⟩)
            go_roundg g
            case measure => omega
            case rel => exact ⟨i + 1, acc ++ [x], by omega, by omega, by go_num, by rw [List.length_append, List.length_singleton]; omega, HE.out, Or.inr hbu2, HB.out.trans hb2⟩
        · have hb : ((x.toNat : Int) == 92) = false := by
            rw [beq_eq_false_iff_ne]
            intro e
            exact h92 (UInt8.toNat_inj.1 (by have : (92 : UInt8).toNat = 92 := rfl; omega))
          have HE : Aside (unesc s.data.toList = (acc ++ [x]) ++ unesc (s.data.toList.drop (i + 1))) := step_keep HU.out Hx.out (esc_other h92)
          clear h92
          go_wp2_with (go_at_call 12; refine (HWR.out _ HI.out HB.out.size).mono ?_; rintro e w2 ⟨rfl, hbu2, hb2⟩)
          go_roundg g
          case measure => omega
          case rel => exact ⟨i + 1, acc ++ [x], by omega, by omega, by go_num, by rw [List.length_append, List.length_singleton]; omega, HE.out, Or.inr hbu2, HB.out.trans hb2⟩
      · have HF : Aside (acc = unesc s.data.toList) := by
          have h := HU.out
          rw [List.drop_eq_nil_of_le (by rw [← Lib.size_eq]; omega), unesc_nil, List.append_nil] at h
          exact h.symm
        have HST : Hid (Calls Tryd.prog 13 #[.pointer (some ⟨w.heap.size, 0, none⟩)] wr fun e w' => e = .returned (.string ⟨acc.toArray⟩) ∧ Below w.heap.size wr w') := Tryd.Builder_String_any w.heap.size w.heap.size acc wr HI.out HB.out.size
        go_wp2_with (go_at_call 13; refine HST.out.mono ?_; rintro e w2 ⟨rfl, hb2⟩)
        go_ret
        exact ⟨⟨acc.toArray⟩, rfl, HF.out, HB.out.trans hb2⟩

set_option maxHeartbeats 1000000 in
theorem zz_any (s : ByteArray) (w : World) (hs : s.size ≤ 1048576) (hh : Held w) :
    Calls Tryd.prog 6 #[.string s] w fun e w' => ∃ u : ByteArray, e = .returned (.string u) ∧ u.data.toList = unesc s.data.toList ∧ Below w.heap.size w w' := by
  have C : Hid (Calls Tryd.prog 9 #[.string s] w fun e w' => ∃ u : ByteArray, e = .returned (.string u) ∧ u.data.toList = unesc s.data.toList ∧ Below w.heap.size w w') := unescape_any s w hs hh
  clear hh
  go_enter Tryd.func6, Tryd.ntmps6
  go_wp2_with (go_at_call 9; refine C.out.mono ?_; rintro e w' ⟨u, rfl, hu, hb⟩)
  have HU : Aside (u.data.toList = unesc s.data.toList) := hu
  clear hu
  go_wp2
  go_ret
  exact ⟨u, rfl, HU.out, hb⟩
end Go.Proofs.Qxb6600664aDoor
