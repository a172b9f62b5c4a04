/-
  DERIVED. GIVEN WITH THE SEED: THE CARDS: each row of Qxb6600664aDoorRows.lean that lists a variable, with what it lists TIED to the program's text (the seventh form; the later family's looks); each row that meets fmt, with fmt's text TOLD by the authors' own Lean function (tested against real Go, not proved from fmt's source: count such statements apart). THE CARD IS WHAT COUNTS. Prove the row's statement (the work); the ties are given (Qxb6600664aDoorTie.lean); close each card by the builder's one call (the guide's Derived/Test/ToyasCard.lean, 'card_holds'). Laid BY PROGRAM, IN A SANDBOX (cutbox-door.mjs). By AI agents, Wed Nov 11 2026. No macro, syntax, notation, axiom, sorry.
-/
import Derived.Test.Qxb6600664aDoorRows
import GoSem.ClaimSeven
namespace Go.Proofs.Qxb6600664aDoor
namespace Rows

/-- THE TIED CARD OF 'zzlaws_cpustat_b1.FnUnescapeUndoesMountinfoEscaping'. -/
def fnUnescapeUndoesMountinfoEscapingCard : Claim7 := { stood := { row := fnUnescapeUndoesMountinfoEscapingRow, standIns := [], harness := (true, "789a3b82d43c2f211b934f7de447d578df29c02b03befeda371cbc02bc849853"), looks := true }, kinds := [], alts := [], laidByText := true, laidKinds := [.data, .data, .data, .sentinel, .sentinel], laidTests := true, laidLooks := .later }
def FnUnescapeUndoesMountinfoEscapingCardSaid : Prop := Claim7.holds Tryd.pinned (.plain (OpenSpec.ofChange fnUnescapeUndoesMountinfoEscapingSpec)) fnUnescapeUndoesMountinfoEscapingCard

/-- THE TIED CARD OF 'zzlaws_cpustat_b1.FnUnescapeShrinksByThreePerEscape'. -/
def fnUnescapeShrinksByThreePerEscapeCard : Claim7 := { stood := { row := fnUnescapeShrinksByThreePerEscapeRow, standIns := [], harness := (true, "789a3b82d43c2f211b934f7de447d578df29c02b03befeda371cbc02bc849853"), looks := true }, kinds := [], alts := [], laidByText := true, laidKinds := [.data, .data, .data, .sentinel, .sentinel], laidTests := true, laidLooks := .later }
def FnUnescapeShrinksByThreePerEscapeCardSaid : Prop := Claim7.holds Tryd.pinned (.plain (OpenSpec.ofChange fnUnescapeShrinksByThreePerEscapeSpec)) fnUnescapeShrinksByThreePerEscapeCard
end Rows
end Go.Proofs.Qxb6600664aDoor
