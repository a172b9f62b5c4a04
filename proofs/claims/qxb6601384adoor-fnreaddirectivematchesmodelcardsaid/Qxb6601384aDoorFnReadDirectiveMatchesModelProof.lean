/-
  Statement FnReadDirectiveMatchesModelCardSaid: the row, and the tied card round it.
-/
import Derived.Test.Qxb6601384aDoorRows
import Derived.Test.Qxb6601384aDoorTie
import Derived.Test.Qxb6601384aDoorCards
import Derived.Test.Qxb6601384aDoorFnReadDirectiveMatchesModelWalk
import Derived.Test.Qxb6601384aDoorHeadWords
import Derived.WalkKit
import Derived.ProofKit
import Derived.LaidMore
import Derived.OpenShut
import Derived.ShutString
import Derived.Stop.Joined
import Derived.Stop.LaidErr
import Derived.SevenTiedAt
namespace Go.Proofs.Qxb6601384aDoor.fnReadDirectiveMatchesModel
open Go.ChangeShapes Go.WideShapes Go.ChangeAt Go.RowKit Go.Lib Plain
open Go.ChangeMaps (open_string shut_string)
set_option linter.unusedVariables false

theorem own : ownKnob Tryd.prog.godebug = none := by kernel_rfl

/-- The door's own heap meets the row's condition. -/
theorem door_met (os : Os) (args : Array Value) : laidMetH Tryd.prog Rows.fnReadDirectiveMatchesModelRow.laid ((World.doorLaid Tryd.prog 62 os).forCall (fun _ _ => 0) ⟨#[], args, []⟩).memory :=
  laidMetH_of_parts3 (fuel := 8) (laidMet_of_run' 8 (by kernel_rfl) (by kernel_rfl)) (by kernel_rfl) (by kernel_rfl)

theorem laid_iface {P : Program} {n nm : String} {d : DataW Unit} {r : List (String × DataW Unit)} {W : World} {g : Nat} {ti : TypeId} {ms : Array (String × TypeId)}
    (h : laidMet P ((n, .iface nm d) :: r) W) (hg : P.globalNamed n = some g) (ht : (P.globals[g]?).map (·.type) = some ti) (hi : P.underlying ti = some (.interface ms)) :
    ∃ u v, W.cell? ⟨g, 0, none⟩ = some (.iface u v) := by
  obtain ⟨ps, ⟨g0, t0, cs0, f0, p0, q0, hg0, ht0, hv0, hd0, _, e0⟩, _, hrows⟩ := h
  obtain rfl := Option.some.inj (hg.symm.trans hg0)
  obtain rfl := Option.some.inj (ht.symm.trans ht0)
  obtain ⟨f1, u, v, hcs, _, _⟩ := iface_of_trod hi hd0
  obtain ⟨l0⟩ := cs0
  simp only at hcs
  subst hcs
  exact ⟨u, v, by simpa using World.var?_cell hg0 hv0 0⟩

theorem of_laid {W : World} (h : laidMetH Tryd.prog Rows.fnReadDirectiveMatchesModelRow.laid W) : Held W := by
  rw [MakeChecks.laidMetH_plain _ _ _ (by kernel_rfl)] at h
  have h3 := laidMet.tail (laidMet.tail (laidMet.tail h))
  have h4 := laidMet.tail h3
  exact ⟨laid_iface h4 (by kernel_rfl) (by kernel_rfl) Tryd.underlying37, laid_iface h3 (by kernel_rfl) (by kernel_rfl) Tryd.underlying37⟩

set_option maxRecDepth 100000 in
theorem lifted (os : Os) (started : os.Started) (H : Type) (enc : TypeId × Value → H) :
    ReturnsInHanded {} Tryd.checked os 3 .any (fun w args => (Rows.fnReadDirectiveMatchesModelSpec.pre enc Tryd.prog Tryd.f3 [] false w args ∧ laidMetH Tryd.prog Rows.fnReadDirectiveMatchesModelRow.laid w) ∧ sizedMet enc Tryd.prog Tryd.f3 (OpenSpec.ofChange Rows.fnReadDirectiveMatchesModelSpec) false w args)
      (Rows.fnReadDirectiveMatchesModelSpec.post enc Tryd.prog Tryd.f3 false true false false) := by
  refine returnsInHanded_of_change_and (C := Tryd.checked) (X := fun w _ => laidMetH Tryd.prog Rows.fnReadDirectiveMatchesModelRow.laid w) (fun _ _ _ hh h => h.of_heap hh) own started (by kernel_rfl) Tryd.func3
    (ChangeSpec.witness_shaped (enc := enc) (C := Tryd.checked) (os := os) (X := fun w _ => laidMetH Tryd.prog Rows.fnReadDirectiveMatchesModelRow.laid w) false (World.doorLaid Tryd.prog 62 os) #[.string ByteArray.empty] 8 rfl (World.shaped_of_RefB (by kernel_rfl) (by kernel_rfl)) (by kernel_rfl) (by kernel_rfl) (by kernel_rfl) (door_met os _)) ?_
  intro W base args ds gs before hval0 hW _ _ hL _
  have hval : ∀ (j : Nat) t v, Tryd.f3.params[j]? = some t → args[j]? = some v → Value.okWide Tryd.prog W .any base t v := hval0
  have hW' := hW
  obtain ⟨p, q, hA0, hV, rfl, hfz, hnd⟩ := hW
  have hA : DataW.TrodAll enc Tryd.prog W 0 (fun _ => true) true Tryd.f3.params.toList args.toList ds p := hA0
  rw [Tryd.params3] at hA hval
  obtain ⟨v0, vs0, d0, ds0, p0, q0, hargs, rfl, rfl, h0, r0⟩ := trodAll_cons hA
  obtain ⟨rfl, rfl, rfl⟩ := trodAll_nil r0
  obtain rfl : args = #[v0] := by cases args; simp_all
  obtain ⟨rfl, rfl⟩ := trodVars_none hV
  obtain ⟨a0, rfl, rfl, rfl, w0⟩ := open_string Tryd.underlying9 (hval 0 9 v0 rfl rfl) h0
  clear hA0 hval0
  simp only [List.append_nil] at hW'
  refine (walk a0 w0 W (of_laid hL)).mono fun e W' ⟨he, hg⟩ => ?_
  subst he
  exact ⟨_, rfl, _, _, _, [], [], [], hW', trodAll_cons_mk (shut_bool Tryd.underlying4 _) trodAll_mk0, trodAll_cons_mk (shut_string Tryd.underlying9 w0) trodAll_mk0, rfl, hg.frame _, fun h => by cases h⟩

set_option maxRecDepth 100000 in
theorem closed : joinedFacts Tryd.prog 3 Tryd.f3 Rows.fnReadDirectiveMatchesModelSpec Rows.fnReadDirectiveMatchesModelRow = true := by
  unfold joinedFacts
  rw [head_may, head_final, head_make]
  simp only [Bool.and_eq_true]
  and_intros
  all_goals first | exact True.intro | kernel_rfl

theorem over : Rows.FnReadDirectiveMatchesModelSaid :=
  OpenClaim.holds_of_wide 3 Tryd.f3 rfl rfl rfl rfl rfl rfl rfl ⟨rfl, rfl, rfl, rfl, rfl⟩ rfl rfl rfl rfl rfl (by kernel_rfl) Tryd.func3 closed
    (of_decide_eq_true (by kernel_rfl)) (by unfold Func.isWrapper; first | (rw [if_pos (by decide +kernel)]; kernel_rfl) | (rw [if_neg (by decide +kernel)]; exact ⟨rfl, rfl⟩))
    (fun os started H enc _ => lifted os started H enc)

theorem proved : Rows.FnReadDirectiveMatchesModelCardSaid :=
  Claim7.holds_tied_plain_at .later [] [.data, .data, .data, .sentinel, .sentinel] true (true, "533778a5ce59889b72bfd4acd8150fe0ff293ae40cd0fe5405707c0c78b8a3d0") true
    over (fun _ h => by cases h) (by kernel_rfl) (fun _ h => by cases h) fnReadDirectiveMatchesModel_row_tie rfl ⟨rfl, rfl⟩ (by kernel_rfl) rfl
    (fun f fn hf hfn => by
      obtain rfl : f = 3 := Option.some.inj ((show Tryd.prog.funcNamed Rows.fnReadDirectiveMatchesModelRow.func = some 3 by kernel_rfl).symm.trans hf) |>.symm
      obtain rfl : fn = Tryd.f3 := (Option.some.inj (Tryd.func3.symm.trans hfn)).symm
      exact ⟨by kernel_rfl, fun j t ht => by
        rw [Tryd.params3] at ht
        have hm : t ∈ [9] := by simpa using Array.mem_of_getElem? ht
        have hall : ([9].all fun u => !Tryd.prog.wantsStandIn u) = true := by kernel_rfl
        exact (show Tryd.prog.wantsStandIn t = false by simpa using List.all_eq_true.1 hall t hm)⟩)
    (by kernel_rfl)
end Go.Proofs.Qxb6601384aDoor.fnReadDirectiveMatchesModel
