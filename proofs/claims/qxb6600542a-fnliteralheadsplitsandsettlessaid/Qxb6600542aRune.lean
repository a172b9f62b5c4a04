import Derived.Test.Qxb6600542aShelf
import Derived.Test.Qxb6600542aPlain
import Derived.WalkKit
import Derived.WalkSpells
import Derived.Laws.RangeAny
import Derived.Deep.LoopGhost
import Derived.Deep.QuietTactic
import Derived.Deep.RegionWith
import Derived.BigQuiet
import Derived.WalkMore
import Derived.Laws.Runes
namespace Go.Proofs.Qxb6600542a
open Go.Shelf Go.RowKit Go.Lib

set_option maxHeartbeats 1000000 in
set_option maxRecDepth 1000000 in
theorem idx_err (s : ByteArray) (hlow : Aside (∀ (i : Nat) (h : i < s.size), (s[i]'h).toNat < 128)) (w : World) :
    Calls Try.prog 52 #[.string s, .int .i32 65533] w fun e w' => e = .returned (.int .i64 (-1)) ∧ Below w.heap.size w w' := by
  go_enter Try.func52, Try.ntmps52
  go_wp2
  go_loopg [5, 6] s.size (fun g _ _ wx => ∃ i : Nat, i + g = s.size ∧ wx = w.iter s i)
  case atStart => exact ⟨0, by omega, rfl⟩
  case round =>
    obtain ⟨i, hig, rfl⟩ := hrel
    cases gk with
    | zero =>
      obtain rfl : i = s.size := by omega
      have hnx := run_next_end (P := Try.prog) w s s.size
      go_wp2
      go_ret
      exact ⟨rfl, (Below.refl _ _).alloc (Nat.le_refl _) _⟩
    | succ g =>
      have hi : i < s.size := by omega
      obtain ⟨x, hx⟩ : ∃ x : UInt8, s[i]'hi = x := ⟨_, rfl⟩
      have hx128 : x.toNat < 128 := by rw [← hx]; exact hlow.out i hi
      have hnx := fun ty => run_next_ascii (P := Try.prog) w s i ty hi (by rw [hx]; exact hx128)
      rw [hx] at hnx
      clear hx
      have hne : ((x.toNat : Int) == 65533) = false := beq_eq_false_iff_ne.2 (by omega)
      go_wp2
      go_roundg g
      case measure => omega
      case rel => exact ⟨i + 1, by omega, rfl⟩


theorem below_drewN (w : World) (n : Nat) : Below w.heap.size w (w.drewN n) := ⟨rfl, rfl, rfl, Nat.le_refl _, fun _ _ => rfl⟩

set_option maxHeartbeats 1000000 in
set_option maxRecDepth 1000000 in
theorem idx_good (s rs : ByteArray) (r : Int) (k : Nat) (hk : 1 ≤ k) (hk3 : k ≤ 3) (hrs : rs.size = k + 1) (h4 : s.size = 4) (h0 : 128 ≤ r) (h1 : r ≤ 1114111) (h3 : (r == 65533) = false) (hv : r < 55296 ∨ 57343 < r) (he : Utf8.encode r = rs)
  (c x : UInt8) (hc : ∀ w, (Instr.index 9 (.string rs) (.int .i64 k)).run Try.prog w = .ok (.int .u8 c.toNat) w) (hx : ∀ w, (Instr.index 9 (.string s) (.int .i64 k)).run Try.prog w = .ok (.int .u8 x.toNat) w)
  (t : ByteArray) (ht : ∀ w, (Instr.slice 9 (.string s) (some (.int .i64 (k + 1))) none none).run Try.prog w = .ok (.string t) w) (hi : Lib.indexByte t.data.toList c = -1)
  (hne : ((x.toNat : Int) != (c.toNat : Int)) = true) (w : World) :
    Calls Try.prog 52 #[.string s, .int .i32 r] w fun e w' => e = .returned (.int .i64 (-1)) ∧ Below w.heap.size w w' := by
  have hi' : ∀ w, Calls Try.prog 36 #[.string t, .int .u8 c.toNat] w fun e w' => e = .returned (.int .i64 (-1)) ∧ w' = w := fun w => by
    have := Try.strings_IndexByte t c.toNat w
    rw [show ((c.toNat : Int)).toNat.toUInt8 = c from by simp, hi] at this
    exact this
  have HI : Hid (∀ w, Calls Try.prog 36 #[.string t, .int .u8 c.toNat] w fun e w' => e = .returned (.int .i64 (-1)) ∧ w' = w) := hi'
  clear hi' hi
  go_enter Try.func52, Try.ntmps52
  rcases hv with hv | hv
  all_goals
    go_wp2
    go_step3
    go_wp2
    refine wp_loop_rounds 1 ?_
    rw [rounds_succ]
    go_wp2
    go_step3
    go_wp2
    go_quiet (fail)
    have hb := below_drewN w nq
    generalize w.drewN nq = w1 at *
    go_wp2
    go_quiet ((go_at_call 36; exact Calls.quiet_of_same (HI.out _)))
    have hb2 := hb.trans ((below_drewN w1 nq).mono hb.size)
    generalize w1.drewN nq = w2 at *
    go_wp2
    rw [Exit.noGoto_ret]
    go_wp2
    rw [Exit.noGoto_ret]
    go_wp2
    go_ret
    exact ⟨rfl, hb2⟩

set_option maxHeartbeats 1000000 in
set_option maxRecDepth 1000000 in
theorem idx_bad (s : ByteArray) (r : Int) (h0 : 55296 ≤ r) (h1 : r ≤ 57343) (w : World) :
    Calls Try.prog 52 #[.string s, .int .i32 r] w fun e w' => e = .returned (.int .i64 (-1)) ∧ Below w.heap.size w w' := by
  have h3 : (r == 65533) = false := beq_eq_false_iff_ne.2 (by omega)
  go_enter Try.func52, Try.ntmps52
  go_wp2
  go_ret
  exact ⟨rfl, Below.refl _ _⟩

/-- The four wildcards. -/
def metas : ByteArray := ⟨#[42, 63, 91, 92]⟩
theorem metas_at (k : Nat) (hk : k ≤ 3) : ∃ x : UInt8, x.toNat < 128 ∧ ∀ w, (Instr.index 9 (.string metas) (.int .i64 k)).run Try.prog w = .ok (.int .u8 x.toNat) w := by
  match k, hk with
  | 0, _ => exact ⟨42, by decide, fun _ => by kernel_rfl⟩
  | 1, _ => exact ⟨63, by decide, fun _ => by kernel_rfl⟩
  | 2, _ => exact ⟨91, by decide, fun _ => by kernel_rfl⟩
  | 3, _ => exact ⟨92, by decide, fun _ => by kernel_rfl⟩
theorem metas_from (k : Nat) (hk : k ≤ 3) : ∃ t : ByteArray, (∀ b ∈ t.data.toList, b.toNat < 128) ∧ ∀ w, (Instr.slice 9 (.string metas) (some (.int .i64 (k + 1))) none none).run Try.prog w = .ok (.string t) w := by
  match k, hk with
  | 0, _ => exact ⟨⟨#[63, 91, 92]⟩, by decide, fun _ => by kernel_rfl⟩
  | 1, _ => exact ⟨⟨#[91, 92]⟩, by decide, fun _ => by kernel_rfl⟩
  | 2, _ => exact ⟨⟨#[92]⟩, by decide, fun _ => by kernel_rfl⟩
  | 3, _ => exact ⟨⟨#[]⟩, by decide, fun _ => by kernel_rfl⟩

theorem low_none (l : List UInt8) (c : UInt8) (h : ∀ b ∈ l, b.toNat < 128) (hc : 128 ≤ c.toNat) : Lib.indexByte l c = -1 := by
  induction l with
  | nil => rfl
  | cons a l ih =>
    have ha := h a (List.mem_cons_self ..)
    have hne : (a == c) = false := by
      rw [beq_eq_false_iff_ne]; intro e; rw [e] at ha; omega
    unfold Lib.indexByte
    rw [hne, ih fun b hb => h b (List.mem_cons_of_mem _ hb)]
    rfl

/-- A rune beyond ASCII is none of the four wildcards. -/
theorem idx_high (r : Int) (h0 : 128 ≤ r) (h1 : r ≤ 1114111) (w : World) :
    Calls Try.prog 52 #[.string metas, .int .i32 r] w fun e w' => e = .returned (.int .i64 (-1)) ∧ Below w.heap.size w w' := by
  by_cases h3 : r = 65533
  · subst h3
    refine idx_err metas ?_ w
    intro i h
    have h' : i < 4 := h
    match i, h' with
    | 0, _ => exact (by decide : (42 : UInt8).toNat < 128)
    | 1, _ => exact (by decide : (63 : UInt8).toNat < 128)
    | 2, _ => exact (by decide : (91 : UInt8).toNat < 128)
    | 3, _ => exact (by decide : (92 : UInt8).toNat < 128)
  by_cases hv : 55296 ≤ r ∧ r ≤ 57343
  · exact idx_bad metas r hv.1 hv.2 w
  have hval : Utf8.valid r = true := by
    rw [validRune_eq, validRune, decide_eq_true_iff]; omega
  obtain ⟨e2, e4, el⟩ := encode_facts r hval h0
  generalize hrs : Utf8.encode r = rs at *
  obtain ⟨k, hk⟩ : ∃ k, rs.size = k + 1 := ⟨rs.size - 1, by omega⟩
  have hlt : rs.size - 1 < rs.size := by omega
  have hc := el hlt
  obtain ⟨x, hx, hxr⟩ := metas_at k (by omega)
  obtain ⟨t, ht, htr⟩ := metas_from k (by omega)
  have hkk : k < rs.size := by omega
  have hck : 128 ≤ (rs[k]'hkk).toNat := by
    have e : rs.size - 1 = k := by omega
    simp only [e] at hc
    exact hc
  refine idx_good metas rs r k (by omega) (by omega) hk rfl h0 h1 (beq_eq_false_iff_ne.2 h3) (by omega) hrs (rs[k]'hkk) x ?_ hxr t htr (low_none _ _ ht hck) ?_ w
  · intro w
    go_simp
    rw [dif_pos (by omega)]
  · rw [bne_iff_ne]; omega
end Go.Proofs.Qxb6600542a
