/-
  Statement 1 of seat b6600542a: the law returns true at every input.
-/
import Derived.Test.Qxb6600542aRows
import Derived.Test.Qxb6600542aModel
import Derived.WalkKit
import Derived.ProofKit
import Derived.OpenShut
import Derived.ShutString
namespace Go.Proofs.Qxb6600542a.fnLiteralHeadClosedForm
open Go.ChangeShapes Go.WideShapes Go.ChangeAt Go.RowKit Go.Lib Plain
open Go.ChangeMaps (open_string shut_string)
set_option linter.unusedVariables false

theorem own : ownKnob Try.prog.godebug = none := by kernel_rfl

/-! ### THE WALK -/
set_option maxHeartbeats 1000000 in
theorem walk (a0 : ByteArray) (w0 : a0.size ≤ maxLen) (w : World) :
    Calls Try.prog 3 #[.string a0] w fun e w' => e = .returned (.bool true) ∧ Below w.heap.size w w' := by
  have hb10 := fun w => bytes10 a0 w w0
  unfold maxLen at w0
  by_cases hs : a0.size ≤ 1048576
  · rw [decide_eq_true hs] at hb10
    have H10 : Hid (∀ w, Calls Try.prog 10 #[.string a0] w fun e w' => e = .returned (.bool true) ∧ w' = w) := hb10
    clear hb10
    go_enter Try.func3, Try.ntmps3
    go_wp2_with (go_at_call 10; refine (H10.out _).mono ?_; rintro e w' ⟨rfl, hw⟩; rw [hw])
    refine (zz_any a0 _ hs).mono ?_
    rintro e w1 ⟨h, t, rfl, ⟨k, hk, hh, ht⟩, hb1⟩
    have HK : Aside (IsCut a0.data.toList k ∧ h.data.toList = a0.data.toList.take k ∧ t.data.toList = a0.data.toList.drop k) := ⟨hk, hh, ht⟩
    clear hk hh ht
    go_wp2_with fail
    refine (model_any a0 _ hs).mono ?_
    rintro e w2 ⟨h', t', rfl, ⟨k', hk', hh', ht'⟩, hb2⟩
    obtain ⟨hk, hh, ht⟩ := HK.out
    have ek := hk'.unique hk
    subst ek
    have eh : h' = h := by rw [← Lib.mk_data h', ← Lib.mk_data h, hh', hh]
    have et : t' = t := by rw [← Lib.mk_data t', ← Lib.mk_data t, ht', ht]
    subst eh et
    have hb := hb1.trans (hb2.mono hb1.size)
    clear hk hk' hh hh' ht ht' HK hb1 hb2
    go_wp2
    go_ret
    exact ⟨rfl, hb⟩
  · rw [decide_eq_false hs] at hb10
    have H10 : Hid (∀ w, Calls Try.prog 10 #[.string a0] w fun e w' => e = .returned (.bool false) ∧ w' = w) := hb10
    clear hb10
    go_enter Try.func3, Try.ntmps3
    go_wp2_with (go_at_call 10; refine (H10.out _).mono ?_; rintro e w' ⟨rfl, hw⟩; rw [hw])
    go_ret
    exact ⟨rfl, Below.refl _ _⟩

/-! ### THE ROW's STEP -/
set_option maxRecDepth 100000 in
theorem lifted (os : Os) (started : os.Started) (H : Type) (enc : TypeId × Value → H) :
    ReturnsInHanded {} Try.checked os 3 .any (Rows.fnLiteralHeadClosedFormSpec.pre6 enc Try.prog Try.f3 Rows.fnLiteralHeadClosedFormRow.domain false) (Rows.fnLiteralHeadClosedFormSpec.post enc Try.prog Try.f3 false true false false) := by
  refine returnsInHanded_of_change (C := Try.checked) own started (by kernel_rfl) Try.func3
    (ChangeSpec.witness6 (enc := enc) (C := Try.checked) false ⟨#[], #[.string ByteArray.empty], []⟩ 8 (by kernel_rfl) (by kernel_rfl) (by kernel_rfl) (by kernel_rfl)) ?_
  intro W base args ds gs before hval0 hW hcnd _
  have hval : ∀ (j : Nat) t v, Try.f3.params[j]? = some t → args[j]? = some v → Value.okWide Try.prog W .any base t v := hval0
  have hW' := hW
  obtain ⟨p, q, hA0, hV, rfl, hfz, hnd⟩ := hW
  have hA : DataW.TrodAll enc Try.prog W 0 (fun _ => true) true Try.f3.params.toList args.toList ds p := hA0
  rw [Try.params3] at hA hval
  obtain ⟨v0, vs0, d0, ds0, p0, q0, hargs, rfl, rfl, h0, r0⟩ := trodAll_cons hA
  obtain ⟨rfl, rfl, rfl⟩ := trodAll_nil r0
  obtain rfl : args = #[v0] := by cases args; simp_all
  obtain ⟨rfl, rfl⟩ := trodVars_none hV
  obtain ⟨a0, rfl, rfl, rfl, w0⟩ := open_string Try.underlying9 (hval 0 9 v0 rfl rfl) h0
  clear hA0 hval0
  simp only [List.append_nil] at hW'
  refine (walk a0 w0 W).mono fun e W' ⟨he, hg⟩ => ?_
  subst he
  exact ⟨_, rfl, _, _, _, [], [], [], hW', trodAll_cons_mk (shut_bool Try.underlying4 _) trodAll_mk0, trodAll_cons_mk (shut_string Try.underlying9 w0) trodAll_mk0, rfl, hg.frame _, fun h => by cases h⟩

theorem over : Rows.fnLiteralHeadClosedFormRow.holds Try.pinned (OpenSpec.ofChange Rows.fnLiteralHeadClosedFormSpec) :=
  OpenClaim.holds_of_wide 3 Try.f3 rfl rfl rfl rfl rfl rfl rfl ⟨rfl, rfl, rfl, rfl, rfl⟩ rfl rfl rfl rfl rfl (by kernel_rfl) Try.func3 (by kernel_rfl)
    (of_decide_eq_true (by kernel_rfl)) (by unfold Func.isWrapper; first | (rw [if_pos (by decide +kernel)]; kernel_rfl) | (rw [if_neg (by decide +kernel)]; exact ⟨rfl, rfl⟩))
    (fun os started H enc _ => lifted os started H enc)

theorem proved : Rows.FnLiteralHeadClosedFormSaid :=
  over
end Go.Proofs.Qxb6600542a.fnLiteralHeadClosedForm
