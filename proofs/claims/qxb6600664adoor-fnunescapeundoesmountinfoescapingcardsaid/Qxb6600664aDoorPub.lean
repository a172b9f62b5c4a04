/-
  strconv.ParseUint(t, 8, 8) at this program, t not empty: the public function, over the inner one's contract.
-/
import Derived.Test.Qxb6600664aDoorInner
import Derived.Lib.AtoiErrMem
namespace Go.Proofs.Qxb6600664aDoor
open Go.Shelf Go.RowKit Plain
set_option linter.unusedVariables false

set_option maxHeartbeats 1000000 in
set_option maxRecDepth 100000 in
theorem pub_ok (t : ByteArray) (hne : t.size ≠ 0) (hmax : t.size ≤ 1048576) (u : Nat) (h : parse8 0 t.data.toList = some (some u)) (w : World) :
    Calls Tryd.prog 11 #[.string t, .int .i64 8, .int .i64 8] w fun e w' => e = .returned (.tuple #[.int .u64 u, .nilIface]) ∧ Below w.heap.size w w' := by
  have hI := inner8 t hne hmax w
  rw [h] at hI
  have HI : Hid (Calls Tryd.prog 15 #[.string t, .int .i64 8, .int .i64 8] w fun e w' => e = .returned (.tuple #[.int .u64 u, .nilIface]) ∧ w' = Lib.bytesWorld w 5 t) := hI
  clear h hI
  go_enter Tryd.func11, Tryd.ntmps11
  go_wp2_with (go_at_call 15; refine HI.out.mono ?_)
  rintro e W1 ⟨rfl, hW⟩
  have hb1 : Below w.heap.size w W1 := by rw [hW]; exact Lib.bytesWorld_below _ _ _
  clear hW
  go_wp2
  go_ret2
  exact ⟨rfl, hb1⟩

set_option maxHeartbeats 1000000 in
set_option maxRecDepth 100000 in
theorem pub_word (t : ByteArray) (hne : t.size ≠ 0) (hmax : t.size ≤ 1048576) (h : parse8 0 t.data.toList = none) (ev : Value) (w : World) (hv : w.cell? ⟨1, 0, none⟩ = some ev) (hev : ev = .nilIface ∨ ∃ te pe, ev = .iface te pe) :
    Calls Tryd.prog 11 #[.string t, .int .i64 8, .int .i64 8] w fun e w' => (∃ x N, e = .returned (.tuple #[.int .u64 x, .iface 44 (.pointer (some ⟨N, 0, none⟩))])) ∧ Below w.heap.size w w' := by
  have hI := inner8 t hne hmax w
  rw [h] at hI
  have HI : Hid (Calls Tryd.prog 15 #[.string t, .int .i64 8, .int .i64 8] w fun e w' => e = .returned (.tuple #[.int .u64 0, .iface 42 (.int .i64 2)]) ∧ w' = Lib.bytesWorld w 5 t) := hI
  clear h hI
  have hG : 1 < w.heap.size := Lib.lt_of_cell hv
  go_enter Tryd.func11, Tryd.ntmps11
  go_wp2_with (go_at_call 15; refine HI.out.mono ?_)
  rintro e W1 ⟨rfl, hW⟩
  have hb1 : Below w.heap.size w W1 := by rw [hW]; exact Lib.bytesWorld_below _ _ _
  have hv1 : W1.cell? ⟨1, 0, none⟩ = some ev := (hb1.cell (show (⟨1, 0, none⟩ : Addr).block < w.heap.size from hG)).trans hv
  clear hW
  go_wp2_with (go_at_call 16; refine (Tryd.strconv_toError_syntax ⟨#[80, 97, 114, 115, 101, 85, 105, 110, 116]⟩ t 8 8 ev _ (by omega) ?_ hev).mono ?_)
  · exact hv1
  rintro e W2 ⟨N, rfl, h1, h2, h3⟩
  go_wp2
  go_ret2
  exact ⟨⟨0, N, rfl⟩, hb1.trans (h3.mono hb1.size)⟩

set_option maxHeartbeats 1000000 in
set_option maxRecDepth 100000 in
theorem pub_range (t : ByteArray) (hne : t.size ≠ 0) (hmax : t.size ≤ 1048576) (h : parse8 0 t.data.toList = some none) (ev : Value) (w : World) (hv : w.cell? ⟨2, 0, none⟩ = some ev) (hev : ev = .nilIface ∨ ∃ te pe, ev = .iface te pe) :
    Calls Tryd.prog 11 #[.string t, .int .i64 8, .int .i64 8] w fun e w' => (∃ x N, e = .returned (.tuple #[.int .u64 x, .iface 44 (.pointer (some ⟨N, 0, none⟩))])) ∧ Below w.heap.size w w' := by
  have hI := inner8 t hne hmax w
  rw [h] at hI
  have HI : Hid (Calls Tryd.prog 15 #[.string t, .int .i64 8, .int .i64 8] w fun e w' => e = .returned (.tuple #[.int .u64 255, .iface 42 (.int .i64 1)]) ∧ w' = Lib.bytesWorld w 5 t) := hI
  clear h hI
  have hG : 2 < w.heap.size := Lib.lt_of_cell hv
  go_enter Tryd.func11, Tryd.ntmps11
  go_wp2_with (go_at_call 15; refine HI.out.mono ?_)
  rintro e W1 ⟨rfl, hW⟩
  have hb1 : Below w.heap.size w W1 := by rw [hW]; exact Lib.bytesWorld_below _ _ _
  have hv1 : W1.cell? ⟨2, 0, none⟩ = some ev := (hb1.cell (show (⟨2, 0, none⟩ : Addr).block < w.heap.size from hG)).trans hv
  clear hW
  go_wp2_with (go_at_call 16; refine (Tryd.strconv_toError_range ⟨#[80, 97, 114, 115, 101, 85, 105, 110, 116]⟩ t 8 8 ev _ (by omega) ?_ hev).mono ?_)
  · exact hv1
  rintro e W2 ⟨N, rfl, h1, h2, h3⟩
  go_wp2
  go_ret2
  exact ⟨⟨255, N, rfl⟩, hb1.trans (h3.mono hb1.size)⟩

/-- What the two sentinels' cells hold: an interface value each. -/
def Held (w : World) : Prop := (∃ te pe, w.cell? ⟨1, 0, none⟩ = some (.iface te pe)) ∧ (∃ te pe, w.cell? ⟨2, 0, none⟩ = some (.iface te pe))

theorem Held.below {w w' : World} {B : Nat} (h : Held w) (hB : 2 < B) (hb : Below B w w') : Held w' := by
  obtain ⟨⟨a, b, h1⟩, ⟨c, d, h2⟩⟩ := h
  exact ⟨⟨a, b, by rw [hb.cell (p := ⟨1, 0, none⟩) (show 1 < B by omega)]; exact h1⟩, ⟨c, d, by rw [hb.cell (p := ⟨2, 0, none⟩) hB]; exact h2⟩⟩

theorem Held.lt {w : World} (h : Held w) : 2 < w.heap.size := by
  obtain ⟨_, _, _, h2⟩ := h
  exact Lib.lt_of_cell h2

/-- No byte: an error that is not nil. -/
theorem pub_no (t : ByteArray) (hne : t.size ≠ 0) (hmax : t.size ≤ 1048576) (h : ∀ u, parse8 0 t.data.toList ≠ some (some u)) (w : World) (hh : Held w) :
    Calls Tryd.prog 11 #[.string t, .int .i64 8, .int .i64 8] w fun e w' => (∃ x N, e = .returned (.tuple #[.int .u64 x, .iface 44 (.pointer (some ⟨N, 0, none⟩))])) ∧ Below w.heap.size w w' := by
  obtain ⟨⟨a, b, h1⟩, ⟨c, d, h2⟩⟩ := hh
  cases hp : parse8 0 t.data.toList with
  | none => exact pub_word t hne hmax hp _ w h1 (Or.inr ⟨_, _, rfl⟩)
  | some o =>
    cases o with
    | none => exact pub_range t hne hmax hp _ w h2 (Or.inr ⟨_, _, rfl⟩)
    | some u => exact absurd hp (h u)
end Go.Proofs.Qxb6600664aDoor
