/-
  DERIVED. GIVEN WITH THE SEED: THE CARDS: each row of YbulkaqmiFmtRows.lean that lists a variable, with what it lists TIED to the program's text (the seventh form; the later family's looks); each row that meets fmt, with fmt's text TOLD by the authors' own Lean function (tested against real Go, not proved from fmt's source: count such statements apart). THE CARD IS WHAT COUNTS. Prove the row's statement (the work); the ties are given (YbulkaqmiFmtTie.lean); close each card by the builder's one call (the guide's Derived/Test/ToyasCard.lean, 'card_holds'). Laid BY PROGRAM, IN A SANDBOX (cutbox-door.mjs). By AI agents, Wed Nov 11 2026. No macro, syntax, notation, axiom, sorry.
-/
import Derived.Test.YbulkaqmiFmtRows
import GoSem.ClaimSeven
namespace Go.Proofs.YbulkaqmiFmt
namespace Rows

/-- THE TOLD CARD OF 'csvfile.LawS2101BPicked'. -/
def lawS2101BPickedCard : Claim7 := { stood := { row := lawS2101BPickedRow, standIns := [], harness := (true, "ccbcf95c3aeb3b859f738ce1750da6c748b2f7fb50a3d4778f7355dbd3ae9bbf"), looks := false }, told := true, goes := false }
def LawS2101BPickedToldSaid : Prop := Claim7.holds Ybaf.pinned (.plain (OpenSpec.ofChange lawS2101BPickedSpec)) lawS2101BPickedCard
/-- ITS FALSE NEIGHBOUR. Refute it at one input. -/
def LawS2101BPickedToldWrongFalsely : Prop := Claim7.holds Ybaf.pinned (.plain (OpenSpec.ofChange lawS2101BPickedWrong)) lawS2101BPickedCard

/-- THE TOLD CARD OF 'csvfile.LawS2101BRaw'. -/
def lawS2101BRawCard : Claim7 := { stood := { row := lawS2101BRawRow, standIns := [], harness := (true, "ccbcf95c3aeb3b859f738ce1750da6c748b2f7fb50a3d4778f7355dbd3ae9bbf"), looks := false }, told := true, goes := false }
def LawS2101BRawToldSaid : Prop := Claim7.holds Ybaf.pinned (.plain (OpenSpec.ofChange lawS2101BRawSpec)) lawS2101BRawCard
/-- ITS FALSE NEIGHBOUR. Refute it at one input. -/
def LawS2101BRawToldWrongFalsely : Prop := Claim7.holds Ybaf.pinned (.plain (OpenSpec.ofChange lawS2101BRawWrong)) lawS2101BRawCard
end Rows
end Go.Proofs.YbulkaqmiFmt
