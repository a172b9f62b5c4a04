/-
  Statement 1 of seat b6600542a: the law returns true at every input.
-/
import Derived.Test.Qxb6600542aRows
import Derived.Test.Qxb6600542aFnLiteralHeadClosedFormWalk
import Derived.Test.Qxb6600542aHeadWords
import Derived.WalkKit
import Derived.ProofKit
import Derived.OpenShut
import Derived.ShutString
namespace Go.Proofs.Qxb6600542a.fnLiteralHeadClosedForm
open Go.ChangeShapes Go.WideShapes Go.ChangeAt Go.RowKit Go.Lib Plain
open Go.ChangeMaps (open_string shut_string)
set_option linter.unusedVariables false


/-! ### THE ROW's STEP -/
set_option maxRecDepth 100000 in
theorem lifted (os : Os) (started : os.Started) (H : Type) (enc : TypeId × Value → H) :
    ReturnsInHanded {} Try.checked os 3 .any (Rows.fnLiteralHeadClosedFormSpec.pre6 enc Try.prog Try.f3 Rows.fnLiteralHeadClosedFormRow.domain false) (Rows.fnLiteralHeadClosedFormSpec.post enc Try.prog Try.f3 false true false false) := by
  refine returnsInHanded_of_change (C := Try.checked) own started (by kernel_rfl) Try.func3
    (ChangeSpec.witness6 (enc := enc) (C := Try.checked) false ⟨#[], #[.string ByteArray.empty], []⟩ 8 (by kernel_rfl) (by kernel_rfl) (by kernel_rfl) (by kernel_rfl)) ?_
  intro W base args ds gs before hval0 hW hcnd _
  have hval : ∀ (j : Nat) t v, Try.f3.params[j]? = some t → args[j]? = some v → Value.okWide Try.prog W .any base t v := hval0
  have hW' := hW
  obtain ⟨p, q, hA0, hV, rfl, hfz, hnd⟩ := hW
  have hA : DataW.TrodAll enc Try.prog W 0 (fun _ => true) true Try.f3.params.toList args.toList ds p := hA0
  rw [Try.params3] at hA hval
  obtain ⟨v0, vs0, d0, ds0, p0, q0, hargs, rfl, rfl, h0, r0⟩ := trodAll_cons hA
  obtain ⟨rfl, rfl, rfl⟩ := trodAll_nil r0
  obtain rfl : args = #[v0] := by cases args; simp_all
  obtain ⟨rfl, rfl⟩ := trodVars_none hV
  obtain ⟨a0, rfl, rfl, rfl, w0⟩ := open_string Try.underlying9 (hval 0 9 v0 rfl rfl) h0
  clear hA0 hval0
  simp only [List.append_nil] at hW'
  refine (walk a0 w0 W).mono fun e W' ⟨he, hg⟩ => ?_
  subst he
  exact ⟨_, rfl, _, _, _, [], [], [], hW', trodAll_cons_mk (shut_bool Try.underlying4 _) trodAll_mk0, trodAll_cons_mk (shut_string Try.underlying9 w0) trodAll_mk0, rfl, hg.frame _, fun h => by cases h⟩

/-! ### THE ROW's CLOSED FACTS: the three on the dump's head by its words (Qxb6600542aHeadWords), the others by the kernel -/
set_option maxRecDepth 100000 in
theorem closed : joinedFacts Try.prog 3 Try.f3 Rows.fnLiteralHeadClosedFormSpec Rows.fnLiteralHeadClosedFormRow = true := by
  unfold joinedFacts
  rw [head_may, head_final, head_make]
  simp only [Bool.and_eq_true]
  and_intros
  all_goals first | exact True.intro | kernel_rfl

theorem over : Rows.fnLiteralHeadClosedFormRow.holds Try.pinned (OpenSpec.ofChange Rows.fnLiteralHeadClosedFormSpec) :=
  OpenClaim.holds_of_wide 3 Try.f3 rfl rfl rfl rfl rfl rfl rfl ⟨rfl, rfl, rfl, rfl, rfl⟩ rfl rfl rfl rfl rfl (by kernel_rfl) Try.func3 closed
    (of_decide_eq_true (by kernel_rfl)) (by unfold Func.isWrapper; first | (rw [if_pos (by decide +kernel)]; kernel_rfl) | (rw [if_neg (by decide +kernel)]; exact ⟨rfl, rfl⟩))
    (fun os started H enc _ => lifted os started H enc)

theorem proved : Rows.FnLiteralHeadClosedFormSaid :=
  over
end Go.Proofs.Qxb6600542a.fnLiteralHeadClosedForm
