/-
  dtb1DecimalText at the greatest int, walked round by round.
-/
import Derived.Test.Qxb6601384aDoorShelf
import Derived.WalkKit
import Derived.WalkSpells
import Derived.Deep.LoopGhost
import Derived.Lib.SlBytesRow
namespace Go.Proofs.Qxb6601384aDoor
open Go.Shelf Go.RowKit
set_option linter.unusedVariables false

/-- The digits of the greatest int. -/
def topText : ByteArray := ⟨#[57, 50, 50, 51, 51, 55, 50, 48, 51, 54, 56, 53, 52, 55, 55, 53, 56, 48, 55]⟩

theorem buf_bytes (w : World) : Lib.Bytes (w.alloc (.cells #[.int .u8 0, .int .u8 0, .int .u8 0, .int .u8 0, .int .u8 0, .int .u8 57, .int .u8 50, .int .u8 50, .int .u8 51, .int .u8 51, .int .u8 55, .int .u8 50, .int .u8 48, .int .u8 51, .int .u8 54, .int .u8 56, .int .u8 53, .int .u8 52, .int .u8 55, .int .u8 55, .int .u8 53, .int .u8 56, .int .u8 48, .int .u8 55] 34)) w.heap.size 5 topText := by
  intro i hi
  have h : i < 19 := hi
  rw [World.cell?_alloc_at _ _ _ _ rfl]
  match i, h with
  | 0, _ => rfl
  | 1, _ => rfl
  | 2, _ => rfl
  | 3, _ => rfl
  | 4, _ => rfl
  | 5, _ => rfl
  | 6, _ => rfl
  | 7, _ => rfl
  | 8, _ => rfl
  | 9, _ => rfl
  | 10, _ => rfl
  | 11, _ => rfl
  | 12, _ => rfl
  | 13, _ => rfl
  | 14, _ => rfl
  | 15, _ => rfl
  | 16, _ => rfl
  | 17, _ => rfl
  | 18, _ => rfl
  | n + 19, h => exact absurd h (by omega)

set_option maxHeartbeats 4000000 in
set_option maxRecDepth 1000000 in
theorem text_any (w : World) :
    Calls Tryd.prog 11 #[.int .i64 9223372036854775807] w fun e w' => e = .returned (.string topText) ∧ Below w.heap.size w w' := by
  have hcv := Lib.run_convert_whole (P := Tryd.prog) _ 26 5 9 Tryd.underlying26 Tryd.underlying5 Tryd.underlying9 w.heap.size 5 topText (buf_bytes w) 19
  have hz : topText.size = 19 := rfl
  rw [hz] at hcv
  clear hz
  go_enter Tryd.func11, Tryd.ntmps11
  go_wp2
  refine wp_loop_rounds 20 ?_
  iterate 20 (rw [rounds_succ]; go_wp2)
  go_ret
  exact ⟨rfl, (Below.refl _ _).alloc (Nat.le_refl _) _⟩
end Go.Proofs.Qxb6601384aDoor
