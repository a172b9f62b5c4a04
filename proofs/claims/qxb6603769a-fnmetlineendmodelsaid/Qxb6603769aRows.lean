/-
  No cell of these rows narrows 'for every input' (looked for: loops, veiled, ifaces, maps, wideKeys, modest, calm, conditions, laid).
  DERIVED. THE GIVEN ROWS OF THIS SEAT. 1 by the template 'for every input the law returns true; each argument reads behind the call as it read before'; 0 by the template 'total and deterministic' (their statements: Qxb6603769aTotals.lean).
  GIVEN WITH THE SEED: the statements are not yours to turn. If you find one false, say at which input.
  Laid BY PROGRAM, IN A SANDBOX (cutbox-rows.mjs): the forced cells as the released guide's own fill.sh prints them over the translation 9036ade712b36b13… (all of the seat's roots in one cut). By AI agents, Wed Nov 11 2026. No macro, syntax, notation, axiom, sorry.
-/
import Derived.Test.Qxb6603769aChecked
import GoSem.Claim
import GoSem.ClaimJoined
import GoSem.ClaimMapViews
import Derived.JoinedTies
import Derived.KernelRfl
namespace Go.Proofs.Qxb6603769a
/- THE CELL 'sum', in the pinned program and in every row, IS THE sha256 OF THE DUMP (.gsa) THAT Qxb6603769aProg.lean LOADS. Nothing in Lean hashes anything: it is a label: what it is worth is what the hold of that sum in a sandbox is worth. -/
noncomputable def Try.pinned : Pinned := { name := "qxb6603769a", sum := "9036ade712b36b1342e9e31d25c4cb5f2cdb79c74ee6213e3f07dfb04b01f684", checked := Try.checked }
namespace Rows
def none {H : Type} : Left H := { results := [], args := [] }

/-- 'zzlaws_input_b1.FnMetLineEndModel': WHATEVER THE INPUT: true; the input reads as it did. -/
def fnMetLineEndModelSpec : ChangeSpec := { name := "fnMetLineEndModel", fn := fun _ => fun
  | [d] => { results := [.lit (.bool true)], args := [d] }
  | _ => none }
def fnMetLineEndModelRow : OpenClaim := { program := "qxb6603769a", sum := "9036ade712b36b1342e9e31d25c4cb5f2cdb79c74ee6213e3f07dfb04b01f684", func := "example.com/vestline/vestline/zzlaws_input_b1.FnMetLineEndModel", spec := "fnMetLineEndModel", inPlace := ["internal/bytealg.IndexByteString", "internal/bytealg.IndexString"], named := ["internal/bytealg.MaxLen"], apart := false }
def FnMetLineEndModelSaid : Prop := fnMetLineEndModelRow.holds Try.pinned (OpenSpec.ofChange fnMetLineEndModelSpec)

/-- ITS FALSE NEIGHBOUR: 'it returns false'. Refute it at one input. -/
def fnMetLineEndModelWrong : ChangeSpec := { name := "fnMetLineEndModel", fn := fun _ => fun
  | [d] => { results := [.lit (.bool false)], args := [d] }
  | _ => none }
def FnMetLineEndModelWrongFalsely : Prop := fnMetLineEndModelRow.holds Try.pinned (OpenSpec.ofChange fnMetLineEndModelWrong)

end Rows
end Go.Proofs.Qxb6603769a
