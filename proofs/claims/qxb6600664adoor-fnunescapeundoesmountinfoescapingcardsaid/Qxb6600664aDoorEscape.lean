/-
  The law's own cpuEscape, walked.
-/
import Derived.Test.Qxb6600664aDoorUnesc
import Derived.OwnWalk
import Derived.Lib.SlBytesRow
namespace Go.Proofs.Qxb6600664aDoor
open Go.Shelf Go.RowKit Plain
set_option linter.unusedVariables false

theorem and7 : ∀ n : Fin 256, bits BinOp.and IntKind.u8 (n.val : Int) 7 = (n.val : Int) % 8 := by decide +kernel
theorem and7_of (n : Int) (h0 : 0 ≤ n) (h1 : n < 256) : bits BinOp.and IntKind.u8 n 7 = n % 8 := by
  have := and7 ⟨n.toNat, by omega⟩
  rw [show ((n.toNat : Nat) : Int) = n from by omega] at this
  exact this

theorem escByte_cells (x : UInt8) : [Value.int .u8 92, .int .u8 (48 + (x.toNat : Int) / 64), .int .u8 (48 + (x.toNat : Int) / 8 % 8), .int .u8 (48 + (x.toNat : Int) % 8)] = Lib.byteCells (escByte x) := by
  have hx := x.toNat_lt
  have e : ∀ n : Nat, n < 256 → ((UInt8.ofNat n).toNat : Int) = (n : Int) := fun n hn => by
    rw [UInt8.toNat_ofNat_of_lt' (by simp only [UInt8.size]; omega)]
  unfold escByte Lib.byteCells
  simp only [List.map_cons, List.map_nil]
  rw [e _ (by omega), e _ (by omega), e _ (by omega)]
  rfl

theorem bf (x n : UInt8) (h : ¬ x = n) : ((x.toNat : Int) == (n.toNat : Int)) = false := by
  rw [beq_eq_false_iff_ne]
  intro e
  exact h (UInt8.toNat_inj.1 (by omega))

theorem bytes_of {w : World} {g : Nat} {u : ByteArray} {cur : Array Value} {e : TypeId} {fr : Nat × Nat} (hh : w.heap[g]? = some (.cells cur e fr)) (h : cur.toList.take u.data.toList.length = Lib.byteCells u.data.toList) : Lib.Bytes w g 0 u := by
  intro i hi
  have hl : i < u.data.toList.length := by rw [← Lib.size_eq]; exact hi
  have h1 : (cur.toList.take u.data.toList.length)[i]? = (Lib.byteCells u.data.toList)[i]? := by rw [h]
  rw [List.getElem?_take, if_pos hl] at h1
  rw [Nat.zero_add, Lib.cell_of_heap hh, ← Array.getElem?_toList, h1, Lib.byteCells, List.getElem?_map, Lib.data_getElem? u i hi]
  rfl

theorem escape_snoc (every : Bool) (l : List UInt8) (i : Nat) (x : UInt8) (h : l[i]? = some x) : escape every (l.take (i + 1)) = escape every (l.take i) ++ (if wants every x then escByte x else [x]) := by
  obtain ⟨hi, e⟩ := List.getElem?_eq_some_iff.1 h
  rw [List.take_succ_eq_append_getElem hi, e]
  unfold escape
  rw [List.flatMap_append, List.flatMap_cons, List.flatMap_nil, List.append_nil]

theorem cells_append (a b : List UInt8) : Lib.byteCells a ++ Lib.byteCells b = Lib.byteCells (a ++ b) := by simp [Lib.byteCells]

set_option maxHeartbeats 4000000 in
set_option maxRecDepth 100000 in
theorem escape_any (s : ByteArray) (every : Bool) (w : World) (hs : s.size ≤ 262144) :
    Calls Tryd.prog 7 #[.string s, .bool every] w fun e w' => ∃ u : ByteArray, e = .returned (.string u) ∧ u.data.toList = escape every s.data.toList ∧ Below w.heap.size w w' := by
  obtain ⟨i0, hi, hz0, hz1, hz2⟩ := info_parts infoByte
  go_enter Tryd.func7, Tryd.ntmps7
  go_wp2_with (at_make; refine wpList_make_own _ rfl _ _ 26 rfl w.heap.size 5 i0 (.int .u8 0) 1 Tryd.underlying26 hi hz0 hz1 .i64 .i64 (4 * (s.size : Int)) (4 * s.size) rfl rfl (by omega) ?m1 ?m2 ?m3 ?_)
  case m1 => rw [hz2]; omega
  case m2 => unfold maxLen; omega
  case m3 => exact Nat.le_refl _
  intro w1 hown hgrow
  go_wp2
  have hb1 : Below w.heap.size w w1 := (Below.refl _ _).grown hgrow (Nat.le_refl _) (fun k hk => by cases hk)
  clear hgrow
  go_loopg [5, 6] s.size (fun g t5 t6 wx => ∃ i : Nat, i ≤ s.size ∧ s.size ≤ i + g ∧ t6 = .int .i64 i ∧ t5 ≠ .slice none 0 0 ∧ wx.ownsRow w.heap.size 5 1 t5 (escape every (s.data.toList.take i)).length (Lib.byteCells (escape every (s.data.toList.take i))) ∧ Below w.heap.size w wx)
  case atStart => exact ⟨0, by omega, by omega, rfl, (by intro h; cases h), hown, hb1⟩
  case round =>
    obtain ⟨i, hi', hig, rfl, hnn, hown, hbel⟩ := hrel
    have HB : Aside (Below w.heap.size w wr) := hbel
    have HL : Aside ((escape every (s.data.toList.take i)).length ≤ 4 * i) := by
      have := escape_le every (s.data.toList.take i)
      rw [List.length_take] at this
      exact Nat.le_trans this (by omega)
    clear hbel
    by_cases hlt : i < s.size
    · obtain ⟨x, hx⟩ : ∃ x : UInt8, s[i]'hlt = x := ⟨_, rfl⟩
      have Hx : Aside (s.data.toList[i]? = some x) := by rw [← hx]; exact Lib.data_getElem? s i hlt
      obtain ⟨g, rfl⟩ : ∃ g, gk = g + 1 := ⟨gk - 1, by omega⟩
      have hx256 : (x.toNat : Int) < 256 := by have := x.toNat_lt; omega
      have hx0 : (0 : Int) ≤ (x.toNat : Int) := by omega
      have hA := and7_of ((x.toNat : Int) / 8) (by omega) (by omega)
      have hB := and7_of (x.toNat : Int) (by omega) (by omega)
      have HW : Hid (wants every x = (every || x == 32 || x == 9 || x == 10 || x == 92)) := rfl
      by_cases he : every = true
      · subst he
        have hw : Hid (wants true x = true) := rfl
        have HS := escape_snoc true s.data.toList i x Hx.out
        rw [hw.out] at HS
        rw [if_pos rfl] at HS
        have HS' : Hid (escape true (s.data.toList.take (i + 1)) = _) := HS
        clear HS
        have HL := HL.out
        go_wp2_with (at_builtin; refine wpList_append_own _ rfl _ _ 26 rfl w.heap.size 5 i0 (.int .u8 0) 1 1 Tryd.underlying26 hi hz0 hz1 hz2 rfl (by decide) _ _ _ rfl (hown.alloc _) ⟨wr.heap.size, 0, none⟩ 4 4 [.int .u8 92, .int .u8 (48 + (x.toNat : Int) / 64), .int .u8 (48 + (x.toNat : Int) / 8 % 8), .int .u8 (48 + (x.toNat : Int) % 8)] rfl rfl ?c1 ?c2 ?c3 ?c4 ?c5 ?_)
        case c1 =>
          intro j u hj
          match j, hj with
          | 0, hj => simp at hj; subst hj; simp [Addr.add]
          | 1, hj => simp at hj; subst hj; simp [Addr.add]
          | 2, hj => simp at hj; subst hj; simp [Addr.add]
          | 3, hj => simp at hj; subst hj; simp [Addr.add]
          | _ + 4, hj => simp at hj
        case c2 => intro u hu; simp at hu; rcases hu with rfl | rfl | rfl | rfl <;> rfl
        case c3 => unfold maxLen; omega
        case c4 => omega
        case c5 => have := HB.out.size; simp; omega
        intro v' w2 hown' hgrow hnil
        have hb2 : Below w.heap.size w w2 := (HB.out.alloc HB.out.size _).grown hgrow (by have := HB.out.size; simp; omega) (fun k hk => (hown.lt k hk).1)
        have hnn' : v' ≠ .slice none 0 0 := by first | exact hnil | exact fun e => hnn (hnil.1 e).1
        rw [escByte_cells, cells_append] at hown'
        have HO : Aside (w2.ownsRow w.heap.size 5 1 v' (escape true (s.data.toList.take (i + 1))).length (Lib.byteCells (escape true (s.data.toList.take (i + 1))))) := by
          rw [HS'.out]
          have e : (escape true (s.data.toList.take i) ++ escByte x).length = (escape true (s.data.toList.take i)).length + 4 := by rw [List.length_append]; rfl
          rw [e]
          exact hown'
        clear hown' hgrow hnil
        go_wp2
        go_roundg g
        case measure => omega
        case rel => exact ⟨i + 1, by omega, by omega, by go_num, hnn', HO.out, hb2⟩
      · have he' : every = false := by simpa using he
        clear he
        subst he'
        by_cases h32 : x = 32
        · have b32 : ((x.toNat : Int) == 32) = true := by rw [h32]; decide
          have hw : Hid (wants false x = true) := by show wants false x = true; rw [h32]; decide
          clear h32
          have HS := escape_snoc false s.data.toList i x Hx.out
          rw [hw.out] at HS
          rw [if_pos rfl] at HS
          have HS' : Hid (escape false (s.data.toList.take (i + 1)) = _) := HS
          clear HS
          have HL := HL.out
          go_wp2_with (at_builtin; refine wpList_append_own _ rfl _ _ 26 rfl w.heap.size 5 i0 (.int .u8 0) 1 1 Tryd.underlying26 hi hz0 hz1 hz2 rfl (by decide) _ _ _ rfl (hown.alloc _) ⟨wr.heap.size, 0, none⟩ 4 4 [.int .u8 92, .int .u8 (48 + (x.toNat : Int) / 64), .int .u8 (48 + (x.toNat : Int) / 8 % 8), .int .u8 (48 + (x.toNat : Int) % 8)] rfl rfl ?c1 ?c2 ?c3 ?c4 ?c5 ?_)
          case c1 =>
            intro j u hj
            match j, hj with
            | 0, hj => simp at hj; subst hj; simp [Addr.add]
            | 1, hj => simp at hj; subst hj; simp [Addr.add]
            | 2, hj => simp at hj; subst hj; simp [Addr.add]
            | 3, hj => simp at hj; subst hj; simp [Addr.add]
            | _ + 4, hj => simp at hj
          case c2 => intro u hu; simp at hu; rcases hu with rfl | rfl | rfl | rfl <;> rfl
          case c3 => unfold maxLen; omega
          case c4 => omega
          case c5 => have := HB.out.size; simp; omega
          intro v' w2 hown' hgrow hnil
          have hb2 : Below w.heap.size w w2 := (HB.out.alloc HB.out.size _).grown hgrow (by have := HB.out.size; simp; omega) (fun k hk => (hown.lt k hk).1)
          have hnn' : v' ≠ .slice none 0 0 := by first | exact hnil | exact fun e => hnn (hnil.1 e).1
          rw [escByte_cells, cells_append] at hown'
          have HO : Aside (w2.ownsRow w.heap.size 5 1 v' (escape false (s.data.toList.take (i + 1))).length (Lib.byteCells (escape false (s.data.toList.take (i + 1))))) := by
            rw [HS'.out]
            have e : (escape false (s.data.toList.take i) ++ escByte x).length = (escape false (s.data.toList.take i)).length + 4 := by rw [List.length_append]; rfl
            rw [e]
            exact hown'
          clear hown' hgrow hnil
          go_wp2
          go_roundg g
          case measure => omega
          case rel => exact ⟨i + 1, by omega, by omega, by go_num, hnn', HO.out, hb2⟩
        · have b32 : ((x.toNat : Int) == 32) = false := bf x 32 h32
          by_cases h9 : x = 9
          · have b9 : ((x.toNat : Int) == 9) = true := by rw [h9]; decide
            have hw : Hid (wants false x = true) := by show wants false x = true; rw [h9]; decide
            clear h9
            have HS := escape_snoc false s.data.toList i x Hx.out
            rw [hw.out] at HS
            rw [if_pos rfl] at HS
            have HS' : Hid (escape false (s.data.toList.take (i + 1)) = _) := HS
            clear HS
            have HL := HL.out
            go_wp2_with (at_builtin; refine wpList_append_own _ rfl _ _ 26 rfl w.heap.size 5 i0 (.int .u8 0) 1 1 Tryd.underlying26 hi hz0 hz1 hz2 rfl (by decide) _ _ _ rfl (hown.alloc _) ⟨wr.heap.size, 0, none⟩ 4 4 [.int .u8 92, .int .u8 (48 + (x.toNat : Int) / 64), .int .u8 (48 + (x.toNat : Int) / 8 % 8), .int .u8 (48 + (x.toNat : Int) % 8)] rfl rfl ?c1 ?c2 ?c3 ?c4 ?c5 ?_)
            case c1 =>
              intro j u hj
              match j, hj with
              | 0, hj => simp at hj; subst hj; simp [Addr.add]
              | 1, hj => simp at hj; subst hj; simp [Addr.add]
              | 2, hj => simp at hj; subst hj; simp [Addr.add]
              | 3, hj => simp at hj; subst hj; simp [Addr.add]
              | _ + 4, hj => simp at hj
            case c2 => intro u hu; simp at hu; rcases hu with rfl | rfl | rfl | rfl <;> rfl
            case c3 => unfold maxLen; omega
            case c4 => omega
            case c5 => have := HB.out.size; simp; omega
            intro v' w2 hown' hgrow hnil
            have hb2 : Below w.heap.size w w2 := (HB.out.alloc HB.out.size _).grown hgrow (by have := HB.out.size; simp; omega) (fun k hk => (hown.lt k hk).1)
            have hnn' : v' ≠ .slice none 0 0 := by first | exact hnil | exact fun e => hnn (hnil.1 e).1
            rw [escByte_cells, cells_append] at hown'
            have HO : Aside (w2.ownsRow w.heap.size 5 1 v' (escape false (s.data.toList.take (i + 1))).length (Lib.byteCells (escape false (s.data.toList.take (i + 1))))) := by
              rw [HS'.out]
              have e : (escape false (s.data.toList.take i) ++ escByte x).length = (escape false (s.data.toList.take i)).length + 4 := by rw [List.length_append]; rfl
              rw [e]
              exact hown'
            clear hown' hgrow hnil
            go_wp2
            go_roundg g
            case measure => omega
            case rel => exact ⟨i + 1, by omega, by omega, by go_num, hnn', HO.out, hb2⟩
          · have b9 : ((x.toNat : Int) == 9) = false := bf x 9 h9
            by_cases h10 : x = 10
            · have b10 : ((x.toNat : Int) == 10) = true := by rw [h10]; decide
              have hw : Hid (wants false x = true) := by show wants false x = true; rw [h10]; decide
              clear h10
              have HS := escape_snoc false s.data.toList i x Hx.out
              rw [hw.out] at HS
              rw [if_pos rfl] at HS
              have HS' : Hid (escape false (s.data.toList.take (i + 1)) = _) := HS
              clear HS
              have HL := HL.out
              go_wp2_with (at_builtin; refine wpList_append_own _ rfl _ _ 26 rfl w.heap.size 5 i0 (.int .u8 0) 1 1 Tryd.underlying26 hi hz0 hz1 hz2 rfl (by decide) _ _ _ rfl (hown.alloc _) ⟨wr.heap.size, 0, none⟩ 4 4 [.int .u8 92, .int .u8 (48 + (x.toNat : Int) / 64), .int .u8 (48 + (x.toNat : Int) / 8 % 8), .int .u8 (48 + (x.toNat : Int) % 8)] rfl rfl ?c1 ?c2 ?c3 ?c4 ?c5 ?_)
              case c1 =>
                intro j u hj
                match j, hj with
                | 0, hj => simp at hj; subst hj; simp [Addr.add]
                | 1, hj => simp at hj; subst hj; simp [Addr.add]
                | 2, hj => simp at hj; subst hj; simp [Addr.add]
                | 3, hj => simp at hj; subst hj; simp [Addr.add]
                | _ + 4, hj => simp at hj
              case c2 => intro u hu; simp at hu; rcases hu with rfl | rfl | rfl | rfl <;> rfl
              case c3 => unfold maxLen; omega
              case c4 => omega
              case c5 => have := HB.out.size; simp; omega
              intro v' w2 hown' hgrow hnil
              have hb2 : Below w.heap.size w w2 := (HB.out.alloc HB.out.size _).grown hgrow (by have := HB.out.size; simp; omega) (fun k hk => (hown.lt k hk).1)
              have hnn' : v' ≠ .slice none 0 0 := by first | exact hnil | exact fun e => hnn (hnil.1 e).1
              rw [escByte_cells, cells_append] at hown'
              have HO : Aside (w2.ownsRow w.heap.size 5 1 v' (escape false (s.data.toList.take (i + 1))).length (Lib.byteCells (escape false (s.data.toList.take (i + 1))))) := by
                rw [HS'.out]
                have e : (escape false (s.data.toList.take i) ++ escByte x).length = (escape false (s.data.toList.take i)).length + 4 := by rw [List.length_append]; rfl
                rw [e]
                exact hown'
              clear hown' hgrow hnil
              go_wp2
              go_roundg g
              case measure => omega
              case rel => exact ⟨i + 1, by omega, by omega, by go_num, hnn', HO.out, hb2⟩
            · have b10 : ((x.toNat : Int) == 10) = false := bf x 10 h10
              by_cases h92 : x = 92
              · have b92 : ((x.toNat : Int) == 92) = true := by rw [h92]; decide
                have hw : Hid (wants false x = true) := by show wants false x = true; rw [h92]; decide
                clear h92
                have HS := escape_snoc false s.data.toList i x Hx.out
                rw [hw.out] at HS
                rw [if_pos rfl] at HS
                have HS' : Hid (escape false (s.data.toList.take (i + 1)) = _) := HS
                clear HS
                have HL := HL.out
                go_wp2_with (at_builtin; refine wpList_append_own _ rfl _ _ 26 rfl w.heap.size 5 i0 (.int .u8 0) 1 1 Tryd.underlying26 hi hz0 hz1 hz2 rfl (by decide) _ _ _ rfl (hown.alloc _) ⟨wr.heap.size, 0, none⟩ 4 4 [.int .u8 92, .int .u8 (48 + (x.toNat : Int) / 64), .int .u8 (48 + (x.toNat : Int) / 8 % 8), .int .u8 (48 + (x.toNat : Int) % 8)] rfl rfl ?c1 ?c2 ?c3 ?c4 ?c5 ?_)
                case c1 =>
                  intro j u hj
                  match j, hj with
                  | 0, hj => simp at hj; subst hj; simp [Addr.add]
                  | 1, hj => simp at hj; subst hj; simp [Addr.add]
                  | 2, hj => simp at hj; subst hj; simp [Addr.add]
                  | 3, hj => simp at hj; subst hj; simp [Addr.add]
                  | _ + 4, hj => simp at hj
                case c2 => intro u hu; simp at hu; rcases hu with rfl | rfl | rfl | rfl <;> rfl
                case c3 => unfold maxLen; omega
                case c4 => omega
                case c5 => have := HB.out.size; simp; omega
                intro v' w2 hown' hgrow hnil
                have hb2 : Below w.heap.size w w2 := (HB.out.alloc HB.out.size _).grown hgrow (by have := HB.out.size; simp; omega) (fun k hk => (hown.lt k hk).1)
                have hnn' : v' ≠ .slice none 0 0 := by first | exact hnil | exact fun e => hnn (hnil.1 e).1
                rw [escByte_cells, cells_append] at hown'
                have HO : Aside (w2.ownsRow w.heap.size 5 1 v' (escape false (s.data.toList.take (i + 1))).length (Lib.byteCells (escape false (s.data.toList.take (i + 1))))) := by
                  rw [HS'.out]
                  have e : (escape false (s.data.toList.take i) ++ escByte x).length = (escape false (s.data.toList.take i)).length + 4 := by rw [List.length_append]; rfl
                  rw [e]
                  exact hown'
                clear hown' hgrow hnil
                go_wp2
                go_roundg g
                case measure => omega
                case rel => exact ⟨i + 1, by omega, by omega, by go_num, hnn', HO.out, hb2⟩
              · have b92 : ((x.toNat : Int) == 92) = false := bf x 92 h92
                have hw : Hid (wants false x = false) := by show wants false x = false; unfold wants; simp [h32, h9, h10, h92]
                clear h32 h9 h10 h92
                have HS := escape_snoc false s.data.toList i x Hx.out
                rw [hw.out] at HS
                rw [if_neg Bool.false_ne_true] at HS
                have HS' : Hid (escape false (s.data.toList.take (i + 1)) = _) := HS
                clear HS
                have HL := HL.out
                go_wp2_with (at_builtin; refine wpList_append_own _ rfl _ _ 26 rfl w.heap.size 5 i0 (.int .u8 0) 1 1 Tryd.underlying26 hi hz0 hz1 hz2 rfl (by decide) _ _ _ rfl (hown.alloc _) ⟨wr.heap.size, 0, none⟩ 1 1 [.int .u8 x.toNat] rfl rfl ?c1 ?c2 ?c3 ?c4 ?c5 ?_)
                case c1 =>
                  intro j u hj
                  match j, hj with
                  | 0, hj => simp at hj; subst hj; simp [Addr.add]
                case c2 => intro u hu; simp at hu; subst hu; rfl
                case c3 => unfold maxLen; omega
                case c4 => omega
                case c5 => have := HB.out.size; simp; omega
                intro v' w2 hown' hgrow hnil
                have hb2 : Below w.heap.size w w2 := (HB.out.alloc HB.out.size _).grown hgrow (by have := HB.out.size; simp; omega) (fun k hk => (hown.lt k hk).1)
                have hnn' : v' ≠ .slice none 0 0 := by first | exact hnil | exact fun e => hnn (hnil.1 e).1
                rw [cells_snoc] at hown'
                have HO : Aside (w2.ownsRow w.heap.size 5 1 v' (escape false (s.data.toList.take (i + 1))).length (Lib.byteCells (escape false (s.data.toList.take (i + 1))))) := by
                  rw [HS'.out]
                  have e : (escape false (s.data.toList.take i) ++ [x]).length = (escape false (s.data.toList.take i)).length + 1 := by rw [List.length_append]; rfl
                  rw [e]
                  exact hown'
                clear hown' hgrow hnil
                go_wp2
                go_roundg g
                case measure => omega
                case rel => exact ⟨i + 1, by omega, by omega, by go_num, hnn', HO.out, hb2⟩
    · have HE : Aside (s.data.toList.take i = s.data.toList) := List.take_of_length_le (by rw [← Lib.size_eq]; omega)
      obtain ⟨hl0, hr⟩ := hown
      rcases hr with ⟨hv, _⟩ | ⟨gb, cap, cur, rfl, hgb, hheap, hle, hcap, hcs, htk⟩
      · exact absurd hv hnn
      rw [HE.out] at htk hl0 hle ⊢
      obtain ⟨u, hu⟩ : ∃ u : ByteArray, u.data.toList = escape every s.data.toList := ⟨⟨(escape every s.data.toList).toArray⟩, rfl⟩
      have huz : u.size = (escape every s.data.toList).length := by rw [Lib.size_eq, hu]
      have hbytes : Lib.Bytes wr gb 0 u := bytes_of hheap (by rw [hu]; simpa using htk)
      have hcv := Lib.run_convert_whole (P := Tryd.prog) wr 26 5 9 Tryd.underlying26 Tryd.underlying5 Tryd.underlying9 gb 0 u hbytes cap
      rw [huz] at hcv
      have HU : Aside (u.data.toList = escape every s.data.toList) := hu
      clear hu huz hbytes htk hl0 hle hheap
      go_wp2
      go_ret
      exact ⟨u, rfl, HU.out, HB.out⟩
end Go.Proofs.Qxb6600664aDoor
