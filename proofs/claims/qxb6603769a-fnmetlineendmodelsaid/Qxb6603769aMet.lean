import Derived.Test.Qxb6603769aShelf
import Derived.Test.Qxb6603769aPlain
import Derived.WalkKit
import Derived.WalkSpells
import Derived.Deep.LoopGhost
import Derived.Deep.QuietTactic
import Derived.Deep.RegionWith
import Derived.BigQuiet
namespace Go.Proofs.Qxb6603769a
open Go.Shelf Go.RowKit Go.Lib Plain

/-- The six texts, as the program's own strings. -/
def endAt : Nat → ByteArray
  | 0 => ⟨#[10]⟩
  | 1 => ⟨#[13]⟩
  | 2 => ⟨#[0]⟩
  | 3 => ⟨#[92, 110]⟩
  | 4 => ⟨#[92, 114]⟩
  | _ => ⟨#[92, 120, 48, 48]⟩

theorem endAt_size (j : Nat) : (endAt j).size ≤ 4 := by
  match j with
  | 0 => exact (by decide : 1 ≤ 4)
  | 1 => exact (by decide : 1 ≤ 4)
  | 2 => exact (by decide : 1 ≤ 4)
  | 3 => exact (by decide : 2 ≤ 4)
  | 4 => exact (by decide : 2 ≤ 4)
  | _ + 5 => exact (by decide : 4 ≤ 4)

theorem endAt_mem (j : Nat) : (endAt j).data.toList ∈ ends := by
  match j with
  | 0 => decide
  | 1 => decide
  | 2 => decide
  | 3 => decide
  | 4 => decide
  | n + 5 => exact (by decide : ([92, 120, 48, 48] : List UInt8) ∈ ends)

theorem endAt_all {e : List UInt8} (h : e ∈ ends) : ∃ j, j < 6 ∧ e = (endAt j).data.toList := by
  simp only [ends, List.mem_cons, List.not_mem_nil, or_false] at h
  rcases h with rfl | rfl | rfl | rfl | rfl | rfl
  · exact ⟨0, by decide, rfl⟩
  · exact ⟨1, by decide, rfl⟩
  · exact ⟨2, by decide, rfl⟩
  · exact ⟨3, by decide, rfl⟩
  · exact ⟨4, by decide, rfl⟩
  · exact ⟨5, by decide, rfl⟩

def has (l : List UInt8) (j : Nat) (q : UInt8) : Bool := contains l ((endAt j).data.toList ++ [q])

theorem met_at (l : List UInt8) (j : Nat) (h : has l j 39 = true ∨ has l j 34 = true) : met l = true := by
  unfold met
  rw [List.any_eq_true]
  refine ⟨_, endAt_mem j, ?_⟩
  rw [Bool.or_eq_true]
  exact h

theorem met_no (l : List UInt8) (h : ∀ j, j < 6 → has l j 39 = false ∧ has l j 34 = false) : met l = false := by
  unfold met
  rw [List.any_eq_false]
  intro e he
  obtain ⟨j, hj, rfl⟩ := endAt_all he
  obtain ⟨h1, h2⟩ := h j hj
  unfold has at h1 h2
  rw [h1, h2]
  exact Bool.false_ne_true

theorem list_append (s t : ByteArray) : (s ++ t).data.toList = s.data.toList ++ t.data.toList := by simp

theorem block_cell (w : World) (j : Nat) (hj : j < 6) :
    (w.alloc (.cells #[.string ⟨#[10]⟩, .string ⟨#[13]⟩, .string ⟨#[0]⟩, .string ⟨#[92, 110]⟩, .string ⟨#[92, 114]⟩, .string ⟨#[92, 120, 48, 48]⟩] 9)).cell? ⟨w.heap.size, j, none⟩ = some (.string (endAt j)) := by
  rw [World.cell?_alloc_at _ _ _ _ rfl]
  match j, hj with
  | 0, _ => rfl
  | 1, _ => rfl
  | 2, _ => rfl
  | 3, _ => rfl
  | 4, _ => rfl
  | 5, _ => rfl

theorem cell_kept (w : World) (o : Obj) {v : Value} (h : w.cell? ⟨0, 0, none⟩ = some v) (h0 : 0 < w.heap.size) : (w.alloc o).cell? ⟨0, 0, none⟩ = some v := by
  rw [← h]
  exact ((Below.refl w.heap.size w).alloc (Nat.le_refl _) o).cell (p := ⟨0, 0, none⟩) h0

set_option maxHeartbeats 1000000 in
theorem met_any (s : ByteArray) (w : World) (hs : s.size ≤ 1048576) (m : Int) (hm : w.cell? ⟨0, 0, none⟩ = some (.int .i64 m)) (h0 : 0 < w.heap.size) :
    Calls Try.prog 7 #[.string s] w fun e w' => e = .returned (.bool (met s.data.toList)) ∧ Below w.heap.size w w' := by
  have HC := block_cell w
  have HM := cell_kept w (.cells #[.string ⟨#[10]⟩, .string ⟨#[13]⟩, .string ⟨#[0]⟩, .string ⟨#[92, 110]⟩, .string ⟨#[92, 114]⟩, .string ⟨#[92, 120, 48, 48]⟩] 9) hm h0
  have HB : Aside (Below w.heap.size w (w.alloc (.cells #[.string ⟨#[10]⟩, .string ⟨#[13]⟩, .string ⟨#[0]⟩, .string ⟨#[92, 110]⟩, .string ⟨#[92, 114]⟩, .string ⟨#[92, 120, 48, 48]⟩] 9))) := (Below.refl _ _).alloc (Nat.le_refl _) _
  have HCON : Hid (∀ (j : Nat) (q : UInt8) (wx : World), wx.cell? ⟨0, 0, none⟩ = some (.int .i64 m) → Calls Try.prog 8 #[.string s, .string (endAt j ++ ⟨#[q]⟩)] wx fun e w' => e = .returned (.bool (has s.data.toList j q)) ∧ w' = wx) := fun j q wx hx => by
    have := Try.strings_Contains s (endAt j ++ ⟨#[q]⟩) m wx (by omega) hx
    rw [list_append] at this
    exact this
  clear hm
  go_enter Try.func7, Try.ntmps7
  go_wp2
  generalize (w.alloc (.cells #[.string ⟨#[10]⟩, .string ⟨#[13]⟩, .string ⟨#[0]⟩, .string ⟨#[92, 110]⟩, .string ⟨#[92, 114]⟩, .string ⟨#[92, 120, 48, 48]⟩] 9)) = v at *
  go_loopg [7] 6 (fun g t7 wx => ∃ j : Nat, j + g = 6 ∧ t7 = .int .i64 j ∧ (∀ k, k < j → has s.data.toList k 39 = false ∧ has s.data.toList k 34 = false) ∧ wx = v)
  case atStart => exact ⟨0, by omega, rfl, fun k hk => absurd hk (Nat.not_lt_zero _), rfl⟩
  case round =>
    obtain ⟨j, hj, rfl, hno, rfl⟩ := hrel
    have HN : Aside (∀ k, k < j → has s.data.toList k 39 = false ∧ has s.data.toList k 34 = false) := hno
    clear hno
    cases gk with
    | zero =>
      have hf : Aside (met s.data.toList = false) := met_no _ fun k hk => HN.out k (by omega)
      obtain rfl : j = 6 := by omega
      clear HC
      go_wp2
      go_ret
      exact ⟨by rw [hf.out]; rfl, HB.out⟩
    | succ g =>
      have hlt : j < 6 := by omega
      have hcell := HC j hlt
      have hez := endAt_size j
      clear HC
      have c39 := HCON.out j 39 wr HM
      have c34 := HCON.out j 34 wr HM
      clear HCON
      cases h1 : has s.data.toList j 39
      · rw [h1] at c39
        have H39 : Hid (Calls Try.prog 8 #[.string s, .string (endAt j ++ ⟨#[39]⟩)] wr fun e w' => e = .returned (.bool false) ∧ w' = wr) := c39
        clear c39
        cases h2 : has s.data.toList j 34
        · rw [h2] at c34
          have H34 : Hid (Calls Try.prog 8 #[.string s, .string (endAt j ++ ⟨#[34]⟩)] wr fun e w' => e = .returned (.bool false) ∧ w' = wr) := c34
          have HN2 : Aside (∀ k, k < j + 1 → has s.data.toList k 39 = false ∧ has s.data.toList k 34 = false) := fun k hk => by
            by_cases e : k = j
            · subst e; exact ⟨h1, h2⟩
            · exact HN.out k (by omega)
          clear c34 h1 h2
          go_wp2_with fail
          refine H39.out.mono ?_
          rintro e w' ⟨rfl, hw⟩
          rw [hw]
          clear hw w'
          go_wp2_with fail
          refine H34.out.mono ?_
          rintro e w' ⟨rfl, hw⟩
          rw [hw]
          go_wp2
          go_roundg g
          case measure => omega
          case rel => exact ⟨j + 1, by omega, by go_num, HN2.out, rfl⟩
        · rw [h2] at c34
          have H34 : Hid (Calls Try.prog 8 #[.string s, .string (endAt j ++ ⟨#[34]⟩)] wr fun e w' => e = .returned (.bool true) ∧ w' = wr) := c34
          have hf : Aside (met s.data.toList = true) := met_at _ j (Or.inr h2)
          clear c34 h1 h2
          go_wp2_with fail
          refine H39.out.mono ?_
          rintro e w' ⟨rfl, hw⟩
          rw [hw]
          clear hw w'
          go_wp2_with fail
          refine H34.out.mono ?_
          rintro e w' ⟨rfl, hw⟩
          rw [hw]
          go_wp2
          go_ret
          exact ⟨by rw [hf.out]; rfl, HB.out⟩
      · rw [h1] at c39
        have H39 : Hid (Calls Try.prog 8 #[.string s, .string (endAt j ++ ⟨#[39]⟩)] wr fun e w' => e = .returned (.bool true) ∧ w' = wr) := c39
        have hf : Aside (met s.data.toList = true) := met_at _ j (Or.inl h1)
        clear c39 c34 h1
        go_wp2_with (go_at_call 8; refine H39.out.mono ?_; rintro e w' ⟨rfl, hw⟩; rw [hw])
        go_ret
        exact ⟨by rw [hf.out]; rfl, HB.out⟩
end Go.Proofs.Qxb6603769a
