/-
  No cell of these rows narrows 'for every input' (looked for: loops, veiled, ifaces, maps, wideKeys, modest, calm, conditions, laid).
  DERIVED. THE GIVEN ROWS OF THIS SEAT. 2 by the template 'for every input the law returns true; each argument reads behind the call as it read before'; 0 by the template 'total and deterministic' (their statements: YbulkaqmwRRTotals.lean).
  GIVEN WITH THE SEED: the statements are not yours to turn. If you find one false, say at which input.
  Laid BY PROGRAM, IN A SANDBOX (cutbox-rows.mjs): the forced cells as the released guide's own fill.sh prints them over the translation 9a4268574d2080ac… (all of the seat's roots in one cut). By AI agents, Wed Nov 11 2026. No macro, syntax, notation, axiom, sorry.
-/
import Derived.Test.YbulkaqmwRRChecked
import GoSem.Claim
import GoSem.ClaimJoined
import GoSem.ClaimMapViews
import Derived.JoinedTies
import Derived.KernelRfl
namespace Go.Proofs.YbulkaqmwRR
/- THE CELL 'sum', in the pinned program and in every row, IS THE sha256 OF THE DUMP (.gsa) THAT YbulkaqmwRRProg.lean LOADS. Nothing in Lean hashes anything: it is a label: what it is worth is what the hold of that sum in a sandbox is worth. -/
noncomputable def Yba.pinned : Pinned := { name := "ybulkaqmwrr", sum := "9a4268574d2080ac4778c10ba40dcab7a7b18990752264ee1f0f36a38070a3df", checked := Yba.checked }
namespace Rows
def none {H : Type} : Left H := { results := [], args := [] }

/-- 'oncebrook.LawS2102CFields': WHATEVER THE INPUT: true; the input reads as it did. -/
def lawS2102CFieldsSpec : ChangeSpec := { name := "lawS2102CFields", fn := fun _ => fun
  | [d1, d2] => { results := [.lit (.bool true)], args := [d1, d2] }
  | _ => none }
def lawS2102CFieldsRow : OpenClaim := { program := "ybulkaqmwrr", sum := "9a4268574d2080ac4778c10ba40dcab7a7b18990752264ee1f0f36a38070a3df", func := "example.com/oncebrook/oncebrook.LawS2102CFields", spec := "lawS2102CFields", unfollowed := true, recurses := true, apart := false }
def LawS2102CFieldsSaid : Prop := lawS2102CFieldsRow.holds Yba.pinned (OpenSpec.ofChange lawS2102CFieldsSpec)

/-- ITS FALSE NEIGHBOUR: 'it returns false'. Refute it at one input. -/
def lawS2102CFieldsWrong : ChangeSpec := { name := "lawS2102CFields", fn := fun _ => fun
  | [d1, d2] => { results := [.lit (.bool false)], args := [d1, d2] }
  | _ => none }
def LawS2102CFieldsWrongFalsely : Prop := lawS2102CFieldsRow.holds Yba.pinned (OpenSpec.ofChange lawS2102CFieldsWrong)

/-- 'oncebrook.LawS2102CKeepsRest': WHATEVER THE INPUT: true; the input reads as it did. -/
def lawS2102CKeepsRestSpec : ChangeSpec := { name := "lawS2102CKeepsRest", fn := fun _ => fun
  | [d1, d2, d3, d4, d5] => { results := [.lit (.bool true)], args := [d1, d2, d3, d4, d5] }
  | _ => none }
def lawS2102CKeepsRestRow : OpenClaim := { program := "ybulkaqmwrr", sum := "9a4268574d2080ac4778c10ba40dcab7a7b18990752264ee1f0f36a38070a3df", func := "example.com/oncebrook/oncebrook.LawS2102CKeepsRest", spec := "lawS2102CKeepsRest", unfollowed := true, recurses := true, apart := false }
def LawS2102CKeepsRestSaid : Prop := lawS2102CKeepsRestRow.holds Yba.pinned (OpenSpec.ofChange lawS2102CKeepsRestSpec)

/-- ITS FALSE NEIGHBOUR: 'it returns false'. Refute it at one input. -/
def lawS2102CKeepsRestWrong : ChangeSpec := { name := "lawS2102CKeepsRest", fn := fun _ => fun
  | [d1, d2, d3, d4, d5] => { results := [.lit (.bool false)], args := [d1, d2, d3, d4, d5] }
  | _ => none }
def LawS2102CKeepsRestWrongFalsely : Prop := lawS2102CKeepsRestRow.holds Yba.pinned (OpenSpec.ofChange lawS2102CKeepsRestWrong)

end Rows
end Go.Proofs.YbulkaqmwRR
