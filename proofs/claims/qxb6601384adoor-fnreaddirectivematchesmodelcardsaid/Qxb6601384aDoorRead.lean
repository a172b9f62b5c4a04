/-
  datetime.readDirective, walked.
-/
import Derived.Test.Qxb6601384aDoorSat
import Derived.Lib.Builder
import Derived.Lib.AtoiErrMem
import Derived.Outline
namespace Go.Proofs.Qxb6601384aDoor
open Go.Shelf Go.RowKit Plain
set_option linter.unusedVariables false

/-- What the two sentinels' cells hold: an interface value each. -/
def Held (w : World) : Prop := (∃ te pe, w.cell? ⟨1, 0, none⟩ = some (.iface te pe)) ∧ (∃ te pe, w.cell? ⟨2, 0, none⟩ = some (.iface te pe))
theorem Held.below {w w' : World} {B : Nat} (h : Held w) (hB : 2 < B) (hb : Below B w w') : Held w' := by
  obtain ⟨⟨a, b, h1⟩, ⟨c, d, h2⟩⟩ := h
  exact ⟨⟨a, b, by rw [hb.cell (p := ⟨1, 0, none⟩) (show 1 < B by omega)]; exact h1⟩, ⟨c, d, by rw [hb.cell (p := ⟨2, 0, none⟩) hB]; exact h2⟩⟩
theorem Held.lt {w : World} (h : Held w) : 2 < w.heap.size := by
  obtain ⟨_, _, _, h2⟩ := h
  exact Lib.lt_of_cell h2

/-- strconv.Atoi at a row of digits: the number beside whatever error. -/
theorem atoi_any (t : ByteArray) (hne : t.data.toList ≠ []) (hd : AllDigits t.data.toList) (hs : t.size ≤ 1048576) (w : World) (hh : Held w) :
    Calls Tryd.prog 16 #[.string t] w fun e w' => (∃ er, e = .returned (.tuple #[.int .i64 (sat t.data.toList), er])) ∧ Below w.heap.size w w' := by
  rcases atoi_digits hne hd with h | ⟨h1, h2⟩
  · refine (Tryd.strconv_Atoi_ok t (by omega) _ h w).mono ?_
    rintro e w' ⟨rfl, hw⟩
    refine ⟨⟨_, rfl⟩, ?_⟩
    rcases hw with rfl | ⟨u, rfl⟩
    · exact Below.refl _ _
    · exact Lib.bytesWorld_below _ _ _
  · obtain ⟨_, c, d, hv⟩ := hh
    refine (Tryd.strconv_Atoi_range t (by omega) h1 _ w hv (Or.inr ⟨_, _, rfl⟩)).mono ?_
    rintro e w' ⟨N, rfl, _, _, hb⟩
    rw [h2]
    exact ⟨⟨_, rfl⟩, hb⟩

def flagText : ByteArray := ⟨#[45, 95, 48, 94, 35]⟩

theorem flag_yes (x : UInt8) (h : isFlag x = true) (w : World) : ∃ q : Nat, Calls Tryd.prog 15 #[.string ⟨#[45, 95, 48, 94, 35]⟩, .int .u8 x.toNat] w fun e w' => e = .returned (.int .i64 q) ∧ w' = w := by
  have c := Tryd.strings_IndexByte ⟨#[45, 95, 48, 94, 35]⟩ x.toNat w
  rw [show ((x.toNat : Int)).toNat.toUInt8 = x from by simp] at c
  have hq : 0 ≤ Lib.indexByte [45, 95, 48, 94, 35] x := by
    unfold isFlag at h
    simp only [Bool.or_eq_true, beq_iff_eq] at h
    rcases h with (((h | h) | h) | h) | h <;> subst h <;> decide
  refine ⟨(Lib.indexByte [45, 95, 48, 94, 35] x).toNat, ?_⟩
  rw [show (((Lib.indexByte [45, 95, 48, 94, 35] x).toNat : Nat) : Int) = Lib.indexByte [45, 95, 48, 94, 35] x from by omega]
  exact c

theorem flag_no (x : UInt8) (h : isFlag x = false) (w : World) : Calls Tryd.prog 15 #[.string ⟨#[45, 95, 48, 94, 35]⟩, .int .u8 x.toNat] w fun e w' => e = .returned (.int .i64 (-1)) ∧ w' = w := by
  have c := Tryd.strings_IndexByte ⟨#[45, 95, 48, 94, 35]⟩ x.toNat w
  rw [show ((x.toNat : Int)).toNat.toUInt8 = x from by simp] at c
  have hq : Lib.indexByte [45, 95, 48, 94, 35] x = -1 := by
    unfold isFlag at h
    simp only [Bool.or_eq_false_iff, beq_eq_false_iff_ne] at h
    obtain ⟨⟨⟨⟨h1, h2⟩, h3⟩, h4⟩, h5⟩ := h
    have e : ∀ n : UInt8, x ≠ n → (n == x) = false := fun n hn => beq_eq_false_iff_ne.2 (Ne.symm hn)
    simp [Lib.indexByte, e _ h1, e _ h2, e _ h3, e _ h4, e _ h5]
  have c' : Calls Tryd.prog 15 #[.string ⟨#[45, 95, 48, 94, 35]⟩, .int .u8 x.toNat] w fun e w' => e = .returned (.int .i64 (Lib.indexByte [45, 95, 48, 94, 35] x)) ∧ w' = w := c
  rw [hq] at c'
  exact c'


theorem ends_of {p : UInt8 → Bool} {l : List UInt8} {i : Nat} (hi : i ≤ l.length) (h : ¬ ∃ x, l[i]? = some x ∧ p x = true) : Plain.Ends p l i := by
  by_cases e : i = l.length
  · exact Or.inl e
  · have hlt : i < l.length := by omega
    refine Or.inr ⟨l[i], List.getElem?_eq_getElem hlt, ?_⟩
    cases hp : p l[i]
    · rfl
    · exact absurd ⟨l[i], List.getElem?_eq_getElem hlt, hp⟩ h

/-- The two struct variables of readDirective: the result's (block b) and d (block b + 1). -/
def Boxes (b : Nat) (fl : ByteArray) (wd c cv : Int) (w : World) : Prop :=
  w.heap[b]? = some (.cells #[.string ⟨#[]⟩, .int .i64 0, .int .i64 0, .int .u8 0] 29 (0, 0)) ∧
  w.heap[b + 1]? = some (.cells #[.string fl, .int .i64 wd, .int .i64 c, .int .u8 cv] 29 (0, 0))

theorem heap_push (w : World) (o : Obj) : (w.alloc o).heap[w.heap.size]? = some o := by
  show (w.heap.push o)[w.heap.size]? = _
  simp

theorem boxes_new (w : World) (fl : ByteArray) (wd c cv : Int) : Boxes w.heap.size fl wd c cv ((w.alloc (.cells #[.string ⟨#[]⟩, .int .i64 0, .int .i64 0, .int .u8 0] 29)).alloc (.cells #[.string fl, .int .i64 wd, .int .i64 c, .int .u8 cv] 29)) := by
  constructor
  · rw [Below.heap_alloc _ _ _ (by simp)]
    show (w.heap.push _)[w.heap.size]? = _
    simp
  · have e : (w.alloc (.cells #[.string ⟨#[]⟩, .int .i64 0, .int .i64 0, .int .u8 0] 29)).heap.size = w.heap.size + 1 := by simp
    rw [← e]
    exact heap_push _ _

theorem Boxes.below {b : Nat} {fl : ByteArray} {wd c cv : Int} {w w' : World} (h : Boxes b fl wd c cv w) (hb : Below w.heap.size w w') : Boxes b fl wd c cv w' := by
  obtain ⟨h1, h2⟩ := h
  have l1 : b < w.heap.size := (Array.getElem?_eq_some_iff.1 h1).1
  have l2 : b + 1 < w.heap.size := (Array.getElem?_eq_some_iff.1 h2).1
  exact ⟨by rw [hb.block _ l1]; exact h1, by rw [hb.block _ l2]; exact h2⟩

theorem Boxes.setW {b : Nat} {fl : ByteArray} {wd c cv : Int} {w : World} (h : Boxes b fl wd c cv w) (x : Int) : Boxes b fl x c cv (w.setCell ⟨b + 1, 1, none⟩ (.int .i64 x)) := by
  obtain ⟨h1, h2⟩ := h
  refine ⟨by rw [Below.heap_setCell _ _ _ _ (by simp)]; exact h1, ?_⟩
  simp [World.setCell, Array.getElem?_modify, h2]
theorem Boxes.setC {b : Nat} {fl : ByteArray} {wd c cv : Int} {w : World} (h : Boxes b fl wd c cv w) (x : Int) : Boxes b fl wd x cv (w.setCell ⟨b + 1, 2, none⟩ (.int .i64 x)) := by
  obtain ⟨h1, h2⟩ := h
  refine ⟨by rw [Below.heap_setCell _ _ _ _ (by simp)]; exact h1, ?_⟩
  simp [World.setCell, Array.getElem?_modify, h2]
theorem Boxes.setV {b : Nat} {fl : ByteArray} {wd c cv : Int} {w : World} (h : Boxes b fl wd c cv w) (x : Int) : Boxes b fl wd c x (w.setCell ⟨b + 1, 3, none⟩ (.int .u8 x)) := by
  obtain ⟨h1, h2⟩ := h
  refine ⟨by rw [Below.heap_setCell _ _ _ _ (by simp)]; exact h1, ?_⟩
  simp [World.setCell, Array.getElem?_modify, h2]

/-- What the walk asks of the two boxes. -/
theorem Boxes.facts {b : Nat} {fl : ByteArray} {wd c cv : Int} {w : World} (h : Boxes b fl wd c cv w) :
    (w.cell? ⟨b + 1, 0, none⟩ = some (.string fl) ∧ w.cell? ⟨b + 1, 1, none⟩ = some (.int .i64 wd) ∧ w.cell? ⟨b + 1, 2, none⟩ = some (.int .i64 c) ∧ w.cell? ⟨b + 1, 3, none⟩ = some (.int .u8 cv)) ∧
    (w.cell? ⟨b, 0, none⟩ = some (.string ⟨#[]⟩) ∧ w.cell? ⟨b, 1, none⟩ = some (.int .i64 0) ∧ w.cell? ⟨b, 2, none⟩ = some (.int .i64 0) ∧ w.cell? ⟨b, 3, none⟩ = some (.int .u8 0)) ∧
    (∀ j, w.frozen? ⟨b + 1, j, none⟩ = false) ∧ (∀ j, w.frozen? ⟨b, j, none⟩ = false) := by
  obtain ⟨h1, h2⟩ := h
  refine ⟨⟨?_, ?_, ?_, ?_⟩, ⟨?_, ?_, ?_, ?_⟩, fun j => Lib.frozen_of_heap h2 j, fun j => Lib.frozen_of_heap h1 j⟩ <;> first | (rw [Lib.cell_of_heap h2]; rfl) | (rw [Lib.cell_of_heap h1]; rfl)


theorem list_piece (s : ByteArray) (a b : Nat) : (s.extract a b).data.toList = (s.data.toList.drop a).take (b - a) := Lib.extract_data s a b

theorem piece_at {l : List UInt8} {a b k : Nat} (hk : k < b - a) : ((l.drop a).take (b - a))[k]? = l[a + k]? := by
  rw [List.getElem?_take, if_pos hk, List.getElem?_drop]

theorem piece_digits {l : List UInt8} {a b : Nat} (h : Run isDigit l a b) (hb : b ≤ l.length) : AllDigits ((l.drop a).take (b - a)) := fun c hc => by
  obtain ⟨k, hk, e⟩ := List.getElem_of_mem hc
  have hk' : k < b - a := by rw [List.length_take, List.length_drop] at hk; omega
  have h1 : ((l.drop a).take (b - a))[k]? = some c := by rw [List.getElem?_eq_getElem hk, e]
  rw [piece_at hk'] at h1
  exact of_decide_eq_true (h (a + k) c (by omega) (by omega) h1)

/-- The width: the digits' number, saturated; -1 where there is none. -/
def wdOf (l : List UInt8) (f d : Nat) : Int := if f < d then sat ((l.drop f).take (d - f)) else -1

/-- The five answers, by the directive's parts. -/
def Ans (s : ByteArray) (fl : ByteArray) (wd c cv n : Int) : Prop := ∃ f d p : Nat, IsDir s.data.toList f d p ∧ fl = s.extract 0 f ∧ wd = wdOf s.data.toList f d ∧ c = (p : Int) - d ∧
  ((p = s.size ∧ cv = 0 ∧ n = p) ∨ ∃ z : UInt8, s.data.toList[p]? = some z ∧ cv = z.toNat ∧ n = (p : Int) + 1)

theorem Ans.unique {s fl fl' : ByteArray} {wd c cv n wd' c' cv' n' : Int} (h : Ans s fl wd c cv n) (k : Ans s fl' wd' c' cv' n') : fl = fl' ∧ wd = wd' ∧ c = c' ∧ cv = cv' ∧ n = n' := by
  obtain ⟨f, d, p, h1, h2, h3, h4, h5⟩ := h
  obtain ⟨f', d', p', k1, k2, k3, k4, k5⟩ := k
  obtain ⟨rfl, rfl, rfl⟩ := h1.unique k1
  refine ⟨h2.trans k2.symm, h3.trans k3.symm, h4.trans k4.symm, ?_⟩
  have hz : s.data.toList[s.size]? = none := by rw [Lib.size_eq]; simp
  rcases h5 with ⟨e, h6, h7⟩ | ⟨z, e, h6, h7⟩ <;> rcases k5 with ⟨e', k6, k7⟩ | ⟨z', e', k6, k7⟩
  · exact ⟨h6.trans k6.symm, h7.trans k7.symm⟩
  · rw [e, hz] at e'; cases e'
  · rw [e', hz] at e; cases e
  · rw [e] at e'; cases e'; exact ⟨h6.trans k6.symm, h7.trans k7.symm⟩

theorem box_below0 {b : Nat} {w u : World} {x0 x1 x2 x3 : Value} (h : Below b w u) : Below b w ((((u.setCell ⟨b, 0, none⟩ x0).setCell ⟨b, 1, none⟩ x1).setCell ⟨b, 2, none⟩ x2).setCell ⟨b, 3, none⟩ x3) :=
  (((h.setCell (p := ⟨b, 0, none⟩) (Nat.le_refl _) _).setCell (p := ⟨b, 1, none⟩) (Nat.le_refl _) _).setCell (p := ⟨b, 2, none⟩) (Nat.le_refl _) _).setCell (p := ⟨b, 3, none⟩) (Nat.le_refl _) _
theorem box_below {b : Nat} {w u : World} {x x0 x1 x2 x3 : Value} (h : Below b w u) : Below b w (((((u.setCell ⟨b + 1, 3, none⟩ x).setCell ⟨b, 0, none⟩ x0).setCell ⟨b, 1, none⟩ x1).setCell ⟨b, 2, none⟩ x2).setCell ⟨b, 3, none⟩ x3) :=
  box_below0 (h.setCell (p := ⟨b + 1, 3, none⟩) (by simp) _)

theorem held_two {w : World} {o1 o2 : Obj} (h : Held w) : Held ((w.alloc o1).alloc o2) :=
  h.below h.lt (((Below.refl _ _).alloc (Nat.le_refl _) _).alloc (by simp) _)

theorem atoi_piece (s : ByteArray) (f d : Nat) (hfd : f < d) (hd : d ≤ s.size) (hs : s.size ≤ 1048576) (hr : Run isDigit s.data.toList f d) (wd : Int) (hwd : wd = sat ((s.data.toList.drop f).take (d - f))) (w : World) (hh : Held w) :
    Calls Tryd.prog 16 #[.string (s.extract f d)] w fun e w' => (∃ er, e = .returned (.tuple #[.int .i64 wd, er])) ∧ Below w.heap.size w w' := by
  have hz := Lib.size_eq s
  have hl : ((s.data.toList.drop f).take (d - f)).length = d - f := by rw [List.length_take, List.length_drop]; omega
  have hsz : (s.extract f d).size ≤ 1048576 := by rw [Lib.size_eq, list_piece, hl]; omega
  have c := atoi_any (s.extract f d) (by rw [list_piece]; intro e; rw [e] at hl; simp at hl; omega) (by rw [list_piece]; exact piece_digits hr (by omega)) hsz w hh
  rw [list_piece, ← hwd] at c
  exact c

set_option maxHeartbeats 16000000 in
set_option maxRecDepth 100000 in
theorem read_any (s : ByteArray) (hs : s.size ≤ 1048576) (w : World) (hh : Held w) :
    Calls Tryd.prog 12 #[.string s] w fun e w' => ∃ fl wd c cv n, Ans s fl wd c cv n ∧ e = .returned (.tuple #[.agg #[.string fl, .int .i64 wd, .int .i64 c, .int .u8 cv], .int .i64 n]) ∧ Below w.heap.size w w' := by
  have HH : Aside (Held w) := hh
  clear hh
  go_enter Tryd.func12, Tryd.ntmps12
  go_wp2
  go_loopg [5] s.size (fun g t5 wx => ∃ i : Nat, i ≤ s.size ∧ s.size ≤ i + g ∧ t5 = .int .i64 i ∧ Run isFlag s.data.toList 0 i ∧ wx = ((w.alloc (.cells #[.string ⟨#[]⟩, .int .i64 0, .int .i64 0, .int .u8 0] 29)).alloc (.cells #[.string ⟨#[]⟩, .int .i64 (-1), .int .i64 0, .int .u8 0] 29)))
  case atStart => exact ⟨0, by omega, by omega, rfl, Run.empty _ _ _, rfl⟩
  case round =>
    obtain ⟨i, hi, hig, rfl, hrun, rfl⟩ := hrel
    have HR : Aside (Run isFlag s.data.toList 0 i) := hrun
    clear hrun
    by_cases hgo : ∃ x, s.data.toList[i]? = some x ∧ isFlag x = true
    · obtain ⟨x, hxl, hf⟩ := hgo
      have hlt : i < s.size := by rw [Lib.size_eq]; exact (List.getElem?_eq_some_iff.1 hxl).1
      have hx : s[i]'hlt = x := by rw [Lib.data_getElem? s i hlt] at hxl; exact Option.some.inj hxl
      obtain ⟨g, rfl⟩ : ∃ g, gk = g + 1 := ⟨gk - 1, by omega⟩
      obtain ⟨q, hq⟩ := flag_yes x hf ((w.alloc (.cells #[.string ⟨#[]⟩, .int .i64 0, .int .i64 0, .int .u8 0] 29)).alloc (.cells #[.string ⟨#[]⟩, .int .i64 (-1), .int .i64 0, .int .u8 0] 29))
      have HR2 : Aside (Run isFlag s.data.toList 0 (i + 1)) := HR.out.succ hxl hf
      clear hxl
      go_wp2_with (go_at_call 15; refine hq.mono ?_; rintro e w' ⟨rfl, hw⟩; rw [hw])
      go_roundg g
      case measure => omega
      case rel => exact ⟨i + 1, by omega, by omega, by go_num, HR2.out, rfl⟩
    · have HE1 : Aside (Plain.Ends isFlag s.data.toList i) := ends_of (by rw [← Lib.size_eq]; exact hi) hgo
      clear hgo hig
      by_cases hlt : i < s.size
      case' pos =>
        obtain ⟨x, hx⟩ : ∃ x : UInt8, s[i]'hlt = x := ⟨_, rfl⟩
        have hf : isFlag x = false := by
          rcases HE1.out with h | ⟨c, h1, h2⟩
          · rw [← Lib.size_eq] at h; omega
          · rw [Lib.data_getElem? s i hlt, hx] at h1; cases h1; exact h2
        have HF : Hid (∀ w, Calls Tryd.prog 15 #[.string ⟨#[45, 95, 48, 94, 35]⟩, .int .u8 x.toNat] w fun e w' => e = .returned (.int .i64 (-1)) ∧ w' = w) := flag_no x hf
        clear hf
        go_wp2_with (go_at_call 15; refine (HF.out _).mono ?_; rintro e w' ⟨rfl, hw⟩; rw [hw])
        clear HF hx hw w'
      case' neg => go_wp2
      all_goals
        go_loopg [5] s.size (fun g t5 wx => ∃ d : Nat, i ≤ d ∧ d ≤ s.size ∧ s.size ≤ d + g ∧ t5 = .int .i64 d ∧ Run isDigit s.data.toList i d ∧ wx = ((w.alloc (.cells #[.string ⟨#[]⟩, .int .i64 0, .int .i64 0, .int .u8 0] 29)).alloc (.cells #[.string (s.extract 0 i), .int .i64 (-1), .int .i64 0, .int .u8 0] 29)))
        case atStart => exact ⟨i, by omega, by omega, by omega, rfl, Run.empty _ _ _, rfl⟩
        case round =>
          obtain ⟨d, hid, hd, hdg, rfl, hrun2, rfl⟩ := hrel
          have HR2 : Aside (Run isDigit s.data.toList i d) := hrun2
          clear hrun2
          by_cases hgo2 : ∃ x, s.data.toList[d]? = some x ∧ isDigit x = true
          · obtain ⟨y, hyl, hdy⟩ := hgo2
            have hlt2 : d < s.size := by rw [Lib.size_eq]; exact (List.getElem?_eq_some_iff.1 hyl).1
            have hy : s[d]'hlt2 = y := by rw [Lib.data_getElem? s d hlt2] at hyl; exact Option.some.inj hyl
            obtain ⟨g, rfl⟩ : ∃ g, gk = g + 1 := ⟨gk - 1, by omega⟩
            have HR3 : Aside (Run isDigit s.data.toList i (d + 1)) := HR2.out.succ hyl hdy
            have hy2 : 48 ≤ y.toNat ∧ y.toNat ≤ 57 := of_decide_eq_true hdy
            obtain ⟨hy0, hy1⟩ := hy2
            clear hyl hdy
            first
            | (exfalso; omega)
            | (go_wp2
               go_roundg g
               case measure => omega
               case rel => exact ⟨d + 1, by omega, by omega, by omega, by go_num, HR3.out, rfl⟩)
          · have HE2 : Aside (Plain.Ends isDigit s.data.toList d) := ends_of (by rw [← Lib.size_eq]; exact hd) hgo2
            clear hgo2 hdg
            by_cases hlt2 : d < s.size
            case' pos =>
              first
              | (exfalso; omega)
              | (obtain ⟨y, hy⟩ : ∃ y : UInt8, s[d]'hlt2 = y := ⟨_, rfl⟩
                 have hdy : ¬ (48 ≤ y.toNat ∧ y.toNat ≤ 57) := by
                   rcases HE2.out with h | ⟨c, h1, h2⟩
                   · rw [← Lib.size_eq] at h; omega
                   · rw [Lib.data_getElem? s d hlt2, hy] at h1; cases h1; exact of_decide_eq_false h2
                 by_cases hy0 : 48 ≤ y.toNat
                 case' pos => have hy1 : ¬ y.toNat ≤ 57 := by omega
                 all_goals clear hdy)
            all_goals
              by_cases hdi : i < d
              case' pos =>
                first
                | (exfalso; omega)
                | (obtain ⟨wd, hwd⟩ : ∃ wd, wd = sat ((s.data.toList.drop i).take (d - i)) := ⟨_, rfl⟩
                   have HAT : Hid (Calls Tryd.prog 16 #[.string (s.extract i d)] ((w.alloc (.cells #[.string ⟨#[]⟩, .int .i64 0, .int .i64 0, .int .u8 0] 29)).alloc (.cells #[.string (s.extract 0 i), .int .i64 (-1), .int .i64 0, .int .u8 0] 29)) fun e w' => (∃ er, e = .returned (.tuple #[.int .i64 wd, er])) ∧ Below (((w.alloc (.cells #[.string ⟨#[]⟩, .int .i64 0, .int .i64 0, .int .u8 0] 29)).alloc (.cells #[.string (s.extract 0 i), .int .i64 (-1), .int .i64 0, .int .u8 0] 29))).heap.size ((w.alloc (.cells #[.string ⟨#[]⟩, .int .i64 0, .int .i64 0, .int .u8 0] 29)).alloc (.cells #[.string (s.extract 0 i), .int .i64 (-1), .int .i64 0, .int .u8 0] 29)) w') := atoi_piece s i d hdi hd hs HR2.out wd hwd _ (held_two HH.out)
                   have HWD : Hid (wd = wdOf s.data.toList i d) := by
                     show wd = wdOf s.data.toList i d
                     rw [hwd, wdOf, if_pos hdi]
                   clear hwd
                   go_wp2_with fail
                   refine HAT.out.mono ?_
                   rintro e v0 ⟨⟨er, rfl⟩, hv0⟩
                   have hbx0 := (boxes_new w (s.extract 0 i) (-1) 0 0).below hv0
                   obtain ⟨⟨c0, c1, c2, c3⟩, ⟨b0, b1, b2, b3⟩, fD, fA⟩ := hbx0.facts
                   have hvz0 : w.heap.size + 1 < v0.heap.size := by have := hv0.size; simp at this; omega
                   have hbv0 : Below w.heap.size w v0 := (((Below.refl _ _).alloc (Nat.le_refl _) _).alloc (by simp) _).trans (hv0.mono (by simp; omega))
                   have HBX : Aside (Boxes w.heap.size (s.extract 0 i) wd 0 0 (v0.setCell ⟨w.heap.size + 1, 1, none⟩ (.int .i64 wd))) := hbx0.setW wd
                   have HBV : Aside (Below w.heap.size w (v0.setCell ⟨w.heap.size + 1, 1, none⟩ (.int .i64 wd))) := hbv0.setCell (p := ⟨w.heap.size + 1, 1, none⟩) (by simp) _
                   have hvz : w.heap.size + 1 < (v0.setCell ⟨w.heap.size + 1, 1, none⟩ (.int .i64 wd)).heap.size := by simpa [World.setCell] using hvz0
                   go_wp2
                   generalize v0.setCell ⟨w.heap.size + 1, 1, none⟩ (.int .i64 wd) = v at *
                   clear c0 c1 c2 c3 b0 b1 b2 b3 fD fA hbx0 hbv0 hv0 hvz0 HAT)
              case' neg =>
                obtain ⟨wd, hwd⟩ : ∃ wd : Int, wd = -1 := ⟨_, rfl⟩
                have HWD : Hid (wd = wdOf s.data.toList i d) := by
                  show wd = wdOf s.data.toList i d
                  rw [hwd, wdOf, if_neg hdi]
                have HBX : Aside (Boxes w.heap.size (s.extract 0 i) wd 0 0 ((w.alloc (.cells #[.string ⟨#[]⟩, .int .i64 0, .int .i64 0, .int .u8 0] 29)).alloc (.cells #[.string (s.extract 0 i), .int .i64 (-1), .int .i64 0, .int .u8 0] 29))) := by rw [hwd]; exact boxes_new w (s.extract 0 i) (-1) 0 0
                have HBV : Aside (Below w.heap.size w ((w.alloc (.cells #[.string ⟨#[]⟩, .int .i64 0, .int .i64 0, .int .u8 0] 29)).alloc (.cells #[.string (s.extract 0 i), .int .i64 (-1), .int .i64 0, .int .u8 0] 29))) := ((Below.refl _ _).alloc (Nat.le_refl _) _).alloc (by simp) _
                have hvz : w.heap.size + 1 < (((w.alloc (.cells #[.string ⟨#[]⟩, .int .i64 0, .int .i64 0, .int .u8 0] 29)).alloc (.cells #[.string (s.extract 0 i), .int .i64 (-1), .int .i64 0, .int .u8 0] 29))).heap.size := by simp
                clear hwd
                go_wp2
                generalize ((w.alloc (.cells #[.string ⟨#[]⟩, .int .i64 0, .int .i64 0, .int .u8 0] 29)).alloc (.cells #[.string (s.extract 0 i), .int .i64 (-1), .int .i64 0, .int .u8 0] 29)) = v at *
              all_goals
                have hz0 : w.heap.size + 1 < v.heap.size := hvz
                go_loopg [5] s.size (fun g t5 wx => ∃ p : Nat, d ≤ p ∧ p ≤ s.size ∧ s.size ≤ p + g ∧ t5 = .int .i64 p ∧ Run isColon s.data.toList d p ∧ Boxes w.heap.size (s.extract 0 i) wd ((p : Int) - d) 0 wx ∧ Below w.heap.size w wx)
                case atStart => exact ⟨d, by omega, by omega, by omega, rfl, Run.empty _ _ _, by rw [Int.sub_self]; exact HBX.out, HBV.out⟩
                case round =>
                  obtain ⟨p, hdp, hp, hpg, rfl, hrun3, hbx, hbel⟩ := hrel
                  have HR3 : Aside (Run isColon s.data.toList d p) := hrun3
                  have HBX3 : Aside (Boxes w.heap.size (s.extract 0 i) wd ((p : Int) - d) 0 wr) := hbx
                  have HB3 : Aside (Below w.heap.size w wr) := hbel
                  obtain ⟨⟨c0, c1, c2, c3⟩, ⟨b0, b1, b2, b3⟩, fD, fA⟩ := hbx.facts
                  clear hrun3 hbx hbel
                  by_cases hgo3 : ∃ x, s.data.toList[p]? = some x ∧ isColon x = true
                  · obtain ⟨z, hzl, hcz⟩ := hgo3
                    have hlt3 : p < s.size := by rw [Lib.size_eq]; exact (List.getElem?_eq_some_iff.1 hzl).1
                    have hz : s[p]'hlt3 = z := by rw [Lib.data_getElem? s p hlt3] at hzl; exact Option.some.inj hzl
                    obtain ⟨g, rfl⟩ : ∃ g, gk = g + 1 := ⟨gk - 1, by omega⟩
                    have HR4 : Aside (Run isColon s.data.toList d (p + 1)) := HR3.out.succ hzl hcz
                    have hbz : ((z.toNat : Int) == 58) = true := beq_of (n := 58) (by simpa [isColon] using hcz)
                    clear hzl hcz
                    first
                    | (exfalso; omega)
                    | (go_wp2
                       go_roundg g
                       case measure => omega
                       case rel => exact ⟨p + 1, by omega, by omega, by omega, by go_num, HR4.out, by have := HBX3.out.setC ((p : Int) - d + 1); rw [show ((p + 1 : Nat) : Int) - d = (p : Int) - d + 1 from by omega]; exact this, HB3.out.setCell (p := ⟨w.heap.size + 1, 2, none⟩) (by simp) _⟩)
                  · have HE3 : Aside (Plain.Ends isColon s.data.toList p) := ends_of (by rw [← Lib.size_eq]; exact hp) hgo3
                    have HDIR : Aside (IsDir s.data.toList i d p) := ⟨hid, hdp, by rw [← Lib.size_eq]; exact hp, HR.out, HE1.out, HR2.out, HE2.out, HR3.out, HE3.out⟩
                    clear hgo3 hpg
                    by_cases hlt3 : p < s.size
                    · obtain ⟨z, hz⟩ : ∃ z : UInt8, s[p]'hlt3 = z := ⟨_, rfl⟩
                      have Hz : Aside (s.data.toList[p]? = some z) := by rw [← hz]; exact Lib.data_getElem? s p hlt3
                      have hbz : ((z.toNat : Int) == 58) = false := beq_not (n := 58) (by
                        rcases HE3.out with h | ⟨c, h1, h2⟩
                        · rw [← Lib.size_eq] at h; omega
                        · rw [Hz.out] at h1; cases h1; simpa [isColon] using h2)
                      first
                      | (exfalso; omega)
                      | (go_wp2
                         refine bodyPost_ret (v := .tuple #[.agg #[.string (s.extract 0 i), .int .i64 wd, .int .i64 ((p : Int) - d), .int .u8 z.toNat], .int .i64 ((p : Int) + 1)]) (by simp [results, Tryd.results12, go_sem, b0, b1, b2, b3]) rfl ?_
                         exact ⟨_, _, _, _, _, ⟨i, d, p, HDIR.out, rfl, HWD.out, rfl, Or.inr ⟨z, Hz.out, rfl, rfl⟩⟩, rfl, box_below HB3.out⟩)
                    · first
                      | (exfalso; omega)
                      | (go_wp2
                         refine bodyPost_ret (v := .tuple #[.agg #[.string (s.extract 0 i), .int .i64 wd, .int .i64 ((p : Int) - d), .int .u8 0], .int .i64 p]) (by simp [results, Tryd.results12, go_sem, b0, b1, b2, b3]) rfl ?_
                         exact ⟨_, _, _, _, _, ⟨i, d, p, HDIR.out, rfl, HWD.out, rfl, Or.inl ⟨by omega, rfl, rfl⟩⟩, rfl, box_below0 HB3.out⟩)
end Go.Proofs.Qxb6601384aDoor
