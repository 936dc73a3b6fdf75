/-
  No cell of these rows narrows 'for every input' (looked for: loops, veiled, ifaces, maps, wideKeys, modest, calm, conditions, laid).
  DERIVED. THE GIVEN ROWS OF THIS SEAT. 2 by the template 'for every input the law returns true; each argument reads behind the call as it read before'; 0 by the template 'total and deterministic' (their statements: YbulkaqnkTotals.lean).
  GIVEN WITH THE SEED: the statements are not yours to turn. If you find one false, say at which input.
  Laid BY PROGRAM, IN A SANDBOX (cutbox-rows.mjs): the forced cells as the released guide's own fill.sh prints them over the translation 3753ad00784787ed… (all of the seat's roots in one cut). By AI agents, Wed Nov 11 2026. No macro, syntax, notation, axiom, sorry.
-/
import Derived.Test.YbulkaqnkChecked
import GoSem.Claim
import GoSem.ClaimJoined
import GoSem.ClaimMapViews
import Derived.JoinedTies
import Derived.KernelRfl
namespace Go.Proofs.Ybulkaqnk
/- THE CELL 'sum', in the pinned program and in every row, IS THE sha256 OF THE DUMP (.gsa) THAT YbulkaqnkProg.lean LOADS. Nothing in Lean hashes anything: it is a label: what it is worth is what the hold of that sum in a sandbox is worth. -/
noncomputable def Yba.pinned : Pinned := { name := "ybulkaqnk", sum := "3753ad00784787edd49bee663511c9f5d9f764d2173e2dd8fd1c56076b06d98c", checked := Yba.checked }
namespace Rows
def none {H : Type} : Left H := { results := [], args := [] }

/-- 'exchange.LawS2103CLookup': WHATEVER THE INPUT: true; the input reads as it did. -/
def lawS2103CLookupSpec : ChangeSpec := { name := "lawS2103CLookup", fn := fun _ => fun
  | [d1, d2] => { results := [.lit (.bool true)], args := [d1, d2] }
  | _ => none }
def lawS2103CLookupRow : OpenClaim := { program := "ybulkaqnk", sum := "3753ad00784787edd49bee663511c9f5d9f764d2173e2dd8fd1c56076b06d98c", func := "example.com/crossbook/crossbook/pkg/exchange.LawS2103CLookup", spec := "lawS2103CLookup", inPlace := ["(*sync.RWMutex).RLock", "internal/race.Read", "internal/race.Disable", "sync/atomic.AddInt32", "sync.runtime_SemacquireRWMutexR", "internal/race.Enable", "internal/race.Acquire", "(*sync.RWMutex).RUnlock", "internal/race.ReleaseMerge", "(*sync.RWMutex).rUnlockSlow", "sync.fatal", "sync.runtime_Semrelease"], apart := false }
def LawS2103CLookupSaid : Prop := lawS2103CLookupRow.holds Yba.pinned (OpenSpec.ofChange lawS2103CLookupSpec)

/-- ITS FALSE NEIGHBOUR: 'it returns false'. Refute it at one input. -/
def lawS2103CLookupWrong : ChangeSpec := { name := "lawS2103CLookup", fn := fun _ => fun
  | [d1, d2] => { results := [.lit (.bool false)], args := [d1, d2] }
  | _ => none }
def LawS2103CLookupWrongFalsely : Prop := lawS2103CLookupRow.holds Yba.pinned (OpenSpec.ofChange lawS2103CLookupWrong)

/-- 'exchange.LawS2103CEveryKey': WHATEVER THE INPUT: true; the input reads as it did. -/
def lawS2103CEveryKeySpec : ChangeSpec := { name := "lawS2103CEveryKey", fn := fun _ => fun
  | [d] => { results := [.lit (.bool true)], args := [d] }
  | _ => none }
def lawS2103CEveryKeyRow : OpenClaim := { program := "ybulkaqnk", sum := "3753ad00784787edd49bee663511c9f5d9f764d2173e2dd8fd1c56076b06d98c", func := "example.com/crossbook/crossbook/pkg/exchange.LawS2103CEveryKey", spec := "lawS2103CEveryKey", inPlace := ["(*sync.RWMutex).RLock", "internal/race.Read", "internal/race.Disable", "sync/atomic.AddInt32", "sync.runtime_SemacquireRWMutexR", "internal/race.Enable", "internal/race.Acquire", "(*sync.RWMutex).RUnlock", "internal/race.ReleaseMerge", "(*sync.RWMutex).rUnlockSlow", "sync.fatal", "sync.runtime_Semrelease"], apart := false }
def LawS2103CEveryKeySaid : Prop := lawS2103CEveryKeyRow.holds Yba.pinned (OpenSpec.ofChange lawS2103CEveryKeySpec)

/-- ITS FALSE NEIGHBOUR: 'it returns false'. Refute it at one input. -/
def lawS2103CEveryKeyWrong : ChangeSpec := { name := "lawS2103CEveryKey", fn := fun _ => fun
  | [d] => { results := [.lit (.bool false)], args := [d] }
  | _ => none }
def LawS2103CEveryKeyWrongFalsely : Prop := lawS2103CEveryKeyRow.holds Yba.pinned (OpenSpec.ofChange lawS2103CEveryKeyWrong)

end Rows
end Go.Proofs.Ybulkaqnk
