/-
  No cell of these rows narrows 'for every input' (looked for: loops, veiled, ifaces, maps, wideKeys, modest, calm, conditions, laid).
  DERIVED. THE GIVEN ROWS OF THIS SEAT. 2 by the template 'for every input the law returns true; each argument reads behind the call as it read before'; 0 by the template 'total and deterministic' (their statements: YbulkaqmiFmtTotals.lean).
  GIVEN WITH THE SEED: the statements are not yours to turn. If you find one false, say at which input.
  Laid BY PROGRAM, IN A SANDBOX (cutbox-rows.mjs): the forced cells as the released guide's own fill.sh prints them over the translation 2a81dfab5c646c0e… (all of the seat's roots in one cut). By AI agents, Wed Nov 11 2026. No macro, syntax, notation, axiom, sorry.
-/
import Derived.Test.YbulkaqmiFmtChecked
import GoSem.Claim
import GoSem.ClaimJoined
import GoSem.ClaimMapViews
import Derived.JoinedTies
import Derived.KernelRfl
namespace Go.Proofs.YbulkaqmiFmt
/- THE CELL 'sum', in the pinned program and in every row, IS THE sha256 OF THE DUMP (.gsa) THAT YbulkaqmiFmtProg.lean LOADS. Nothing in Lean hashes anything: it is a label: what it is worth is what the hold of that sum in a sandbox is worth. -/
noncomputable def Ybaf.pinned : Pinned := { name := "ybulkaqmifmt", sum := "2a81dfab5c646c0eaced9961311b226c0bcb679df62ace933ea3ef9cd35f7ed0", checked := Ybaf.checked }
namespace Rows
def none {H : Type} : Left H := { results := [], args := [] }

/-- 'csvfile.LawS2101BPicked': WHATEVER THE INPUT: true; the input reads as it did. -/
def lawS2101BPickedSpec : ChangeSpec := { name := "lawS2101BPicked", fn := fun _ => fun
  | [d1, d2] => { results := [.lit (.bool true)], args := [d1, d2] }
  | _ => none }
def lawS2101BPickedRow : OpenClaim := { program := "ybulkaqmifmt", sum := "2a81dfab5c646c0eaced9961311b226c0bcb679df62ace933ea3ef9cd35f7ed0", func := "example.com/tuoguan/tuoguan/internal/csvfile.LawS2101BPicked", spec := "lawS2101BPicked", stops := ["fmt.errorf"], inPlace := ["fmt.errorf", "internal/abi.NoEscape", "internal/bytealg.MakeNoZero"], apart := false }
/-- NO THEOREM (fmt's text is open here; it may be false): for the released tool's asking of the row's closed facts alone. THE STATEMENT IS 'LawS2101BPickedToldSaid' (YbulkaqmiFmtCards.lean). -/
def LawS2101BPickedFormAsk : Prop := lawS2101BPickedRow.holds Ybaf.pinned (OpenSpec.ofChange lawS2101BPickedSpec)

/-- ITS FALSE NEIGHBOUR: 'it returns false'. Refute it at one input. -/
def lawS2101BPickedWrong : ChangeSpec := { name := "lawS2101BPicked", fn := fun _ => fun
  | [d1, d2] => { results := [.lit (.bool false)], args := [d1, d2] }
  | _ => none }
def LawS2101BPickedWrongFormAsk : Prop := lawS2101BPickedRow.holds Ybaf.pinned (OpenSpec.ofChange lawS2101BPickedWrong)

/-- 'csvfile.LawS2101BRaw': WHATEVER THE INPUT: true; the input reads as it did. -/
def lawS2101BRawSpec : ChangeSpec := { name := "lawS2101BRaw", fn := fun _ => fun
  | [d1, d2] => { results := [.lit (.bool true)], args := [d1, d2] }
  | _ => none }
def lawS2101BRawRow : OpenClaim := { program := "ybulkaqmifmt", sum := "2a81dfab5c646c0eaced9961311b226c0bcb679df62ace933ea3ef9cd35f7ed0", func := "example.com/tuoguan/tuoguan/internal/csvfile.LawS2101BRaw", spec := "lawS2101BRaw", stops := ["fmt.errorf"], inPlace := ["fmt.errorf", "internal/abi.NoEscape", "internal/bytealg.MakeNoZero"], apart := false }
/-- NO THEOREM (fmt's text is open here; it may be false): for the released tool's asking of the row's closed facts alone. THE STATEMENT IS 'LawS2101BRawToldSaid' (YbulkaqmiFmtCards.lean). -/
def LawS2101BRawFormAsk : Prop := lawS2101BRawRow.holds Ybaf.pinned (OpenSpec.ofChange lawS2101BRawSpec)

/-- ITS FALSE NEIGHBOUR: 'it returns false'. Refute it at one input. -/
def lawS2101BRawWrong : ChangeSpec := { name := "lawS2101BRaw", fn := fun _ => fun
  | [d1, d2] => { results := [.lit (.bool false)], args := [d1, d2] }
  | _ => none }
def LawS2101BRawWrongFormAsk : Prop := lawS2101BRawRow.holds Ybaf.pinned (OpenSpec.ofChange lawS2101BRawWrong)

end Rows
end Go.Proofs.YbulkaqmiFmt
