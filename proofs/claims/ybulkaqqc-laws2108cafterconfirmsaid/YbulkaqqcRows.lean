/-
  No cell of these rows narrows 'for every input' (looked for: loops, veiled, ifaces, maps, wideKeys, modest, calm, conditions, laid).
  DERIVED. THE GIVEN ROWS OF THIS SEAT. 2 by the template 'for every input the law returns true; each argument reads behind the call as it read before'; 0 by the template 'total and deterministic' (their statements: YbulkaqqcTotals.lean).
  GIVEN WITH THE SEED: the statements are not yours to turn. If you find one false, say at which input.
  Laid BY PROGRAM, IN A SANDBOX (cutbox-rows.mjs): the forced cells as the released guide's own fill.sh prints them over the translation 4c86fba2aa876801… (all of the seat's roots in one cut). By AI agents, Wed Nov 11 2026. No macro, syntax, notation, axiom, sorry.
-/
import Derived.Test.YbulkaqqcChecked
import GoSem.Claim
import GoSem.ClaimJoined
import GoSem.ClaimMapViews
import Derived.JoinedTies
import Derived.KernelRfl
namespace Go.Proofs.Ybulkaqqc
/- THE CELL 'sum', in the pinned program and in every row, IS THE sha256 OF THE DUMP (.gsa) THAT YbulkaqqcProg.lean LOADS. Nothing in Lean hashes anything: it is a label: what it is worth is what the hold of that sum in a sandbox is worth. -/
noncomputable def Yba.pinned : Pinned := { name := "ybulkaqqc", sum := "4c86fba2aa8768013210e4f692a80c3cab8050982b6dc6175b483aaab6c86dcb", checked := Yba.checked }
namespace Rows
def none {H : Type} : Left H := { results := [], args := [] }

/-- 'concordat.LawS2108CCounts': WHATEVER THE INPUT: true; the input reads as it did. -/
def lawS2108CCountsSpec : ChangeSpec := { name := "lawS2108CCounts", fn := fun _ => fun
  | [d1, d2] => { results := [.lit (.bool true)], args := [d1, d2] }
  | _ => none }
def lawS2108CCountsRow : OpenClaim := { program := "ybulkaqqc", sum := "4c86fba2aa8768013210e4f692a80c3cab8050982b6dc6175b483aaab6c86dcb", func := "example.com/concordat/concordat.LawS2108CCounts", spec := "lawS2108CCounts", inPlace := ["(*internal/sync.Mutex).Lock", "internal/race.Disable", "sync/atomic.CompareAndSwapInt32", "internal/race.Enable", "internal/race.Acquire", "(*internal/sync.Mutex).lockSlow", "internal/sync.runtime_canSpin", "internal/sync.runtime_doSpin", "internal/sync.throw", "internal/sync.runtime_nanotime", "internal/sync.runtime_SemacquireMutex", "sync/atomic.AddInt32", "(*internal/sync.Mutex).Unlock", "internal/race.ReleaseMerge", "(*internal/sync.Mutex).unlockSlow", "internal/sync.fatal", "internal/sync.runtime_Semrelease"], plainKeys := false, apart := false }
def LawS2108CCountsSaid : Prop := lawS2108CCountsRow.holds Yba.pinned (OpenSpec.ofChange lawS2108CCountsSpec)

/-- ITS FALSE NEIGHBOUR: 'it returns false'. Refute it at one input. -/
def lawS2108CCountsWrong : ChangeSpec := { name := "lawS2108CCounts", fn := fun _ => fun
  | [d1, d2] => { results := [.lit (.bool false)], args := [d1, d2] }
  | _ => none }
def LawS2108CCountsWrongFalsely : Prop := lawS2108CCountsRow.holds Yba.pinned (OpenSpec.ofChange lawS2108CCountsWrong)

/-- 'concordat.LawS2108CAfterConfirm': WHATEVER THE INPUT: true; the input reads as it did. -/
def lawS2108CAfterConfirmSpec : ChangeSpec := { name := "lawS2108CAfterConfirm", fn := fun _ => fun
  | [d1, d2, d3] => { results := [.lit (.bool true)], args := [d1, d2, d3] }
  | _ => none }
def lawS2108CAfterConfirmRow : OpenClaim := { program := "ybulkaqqc", sum := "4c86fba2aa8768013210e4f692a80c3cab8050982b6dc6175b483aaab6c86dcb", func := "example.com/concordat/concordat.LawS2108CAfterConfirm", spec := "lawS2108CAfterConfirm", inPlace := ["(*internal/sync.Mutex).Lock", "internal/race.Disable", "sync/atomic.CompareAndSwapInt32", "internal/race.Enable", "internal/race.Acquire", "(*internal/sync.Mutex).lockSlow", "internal/sync.runtime_canSpin", "internal/sync.runtime_doSpin", "internal/sync.throw", "internal/sync.runtime_nanotime", "internal/sync.runtime_SemacquireMutex", "sync/atomic.AddInt32", "(*internal/sync.Mutex).Unlock", "internal/race.ReleaseMerge", "(*internal/sync.Mutex).unlockSlow", "internal/sync.fatal", "internal/sync.runtime_Semrelease"], unfollowed := true, recurses := true, plainKeys := false, apart := false }
def LawS2108CAfterConfirmSaid : Prop := lawS2108CAfterConfirmRow.holds Yba.pinned (OpenSpec.ofChange lawS2108CAfterConfirmSpec)

/-- ITS FALSE NEIGHBOUR: 'it returns false'. Refute it at one input. -/
def lawS2108CAfterConfirmWrong : ChangeSpec := { name := "lawS2108CAfterConfirm", fn := fun _ => fun
  | [d1, d2, d3] => { results := [.lit (.bool false)], args := [d1, d2, d3] }
  | _ => none }
def LawS2108CAfterConfirmWrongFalsely : Prop := lawS2108CAfterConfirmRow.holds Yba.pinned (OpenSpec.ofChange lawS2108CAfterConfirmWrong)

end Rows
end Go.Proofs.Ybulkaqqc
