/-
  The closed facts for a walk over fmt.errorf at this dump (after the guide's CheckFmt), and the contracts of fmt.Errorf at the two formats of columnIndex.
-/
import Derived.Test.YbulkaqmiFmtRows
import Derived.WalkKit
import Derived.WalkSpells
import Derived.Stop.CallBack
import Derived.Stop.IfaceNil
import GoSem.ClaimData
namespace Go.Proofs.YbulkaqmiFmt
open Go.RowKit Go.Extern.Stop Go.Stop Go.Extern

theorem call14 (args : Array Value) (w : World) : (callFunc 14 args).run Ybaf.prog w = ((FmtStop.errorf #[9, 36] #[30] args).run Ybaf.prog w).andThen fun v w' => .ok (.value v) w' :=
  run_callFunc_extern Ybaf.func14 (by kernel_rfl) (by kernel_rfl) (by kernel_rfl) (by kernel_rfl) args w
theorem fguard (name : String) (w : World) : (FmtStop.guard name).run Ybaf.prog w = .ok () w := by kernel_rfl
theorem fmtA : FmtStop.printed? ⟨#[116, 104, 101, 32, 104, 101, 97, 100, 101, 114, 32, 110, 97, 109, 101, 115, 32, 99, 111, 108, 117, 109, 110, 32, 37, 113, 32, 116, 119, 105, 99, 101]⟩ 1 = some [(0, 113, false)] := by kernel_rfl
theorem fmtAr (w : World) : (FmtDoors.printed ⟨#[116, 104, 101, 32, 104, 101, 97, 100, 101, 114, 32, 110, 97, 109, 101, 115, 32, 99, 111, 108, 117, 109, 110, 32, 37, 113, 32, 116, 119, 105, 99, 101]⟩ 1).run Ybaf.prog w = .ok [(0, 113, false)] w := by kernel_rfl
theorem fmtB : FmtStop.printed? ⟨#[116, 104, 101, 32, 104, 101, 97, 100, 101, 114, 32, 104, 97, 115, 32, 110, 111, 32, 99, 111, 108, 117, 109, 110, 32, 37, 113, 32, 40, 119, 97, 110, 116, 32, 37, 115, 41]⟩ 2 = some [(0, 113, false), (1, 115, false)] := by kernel_rfl
theorem fmtBr (w : World) : (FmtDoors.printed ⟨#[116, 104, 101, 32, 104, 101, 97, 100, 101, 114, 32, 104, 97, 115, 32, 110, 111, 32, 99, 111, 108, 117, 109, 110, 32, 37, 113, 32, 40, 119, 97, 110, 116, 32, 37, 115, 41]⟩ 2).run Ybaf.prog w = .ok [(0, 113, false), (1, 115, false)] w := by kernel_rfl
def shape9 : List UInt8 := [12, 6, 0, 0, 0, 0, 0, 0, 0, 115, 116, 114, 105, 110, 103]
theorem op9_113w (name : String) (x : ByteArray) (w : World) : (FmtStop.operand name true 113 false (.iface 9 (.string x))).run Ybaf.prog w = .ok (shape9, FmtStop.pack x.data.toList) w := by kernel_rfl
theorem op9_115w (name : String) (x : ByteArray) (w : World) : (FmtStop.operand name true 115 false (.iface 9 (.string x))).run Ybaf.prog w = .ok (shape9, FmtStop.pack x.data.toList) w := by kernel_rfl
theorem ptr46 (w : World) : (FmtStop.ptrTo "errors.errorString").run Ybaf.prog w = .ok 46 w := by kernel_rfl
theorem elem46 (w : World) : (elemOf 46).run Ybaf.prog w = .ok 48 w := by kernel_rfl
attribute [local go_sem] call14 fguard fmtA fmtAr fmtB fmtBr op9_113w op9_115w ptr46 elem46

set_option maxHeartbeats 400000 in
theorem errorf_twice (F : Interp) (s : ByteArray) (blk : Nat) (w : World) (hF : F.answers w.tape) (hc0 : w.cell? ⟨blk, 0, none⟩ = some (.iface 9 (.string s))) :
    Calls Ybaf.prog 11 #[.string ⟨#[116, 104, 101, 32, 104, 101, 97, 100, 101, 114, 32, 110, 97, 109, 101, 115, 32, 99, 111, 108, 117, 109, 110, 32, 37, 113, 32, 116, 119, 105, 99, 101]⟩, .slice (some ⟨blk, 0, none⟩) 1 1] w fun e w' =>
      e = .returned (.iface 46 (.pointer (some ⟨w.heap.size, 0, none⟩))) ∧ Below w.heap.size w w' := by
  have hF' := answers_open hF
  go_enter Ybaf.func11, Ybaf.ntmps11
  go_wp2
  go_ret
  exact ⟨rfl, ((Below.refl _ _).alloc (Nat.le_refl _) _).drew⟩

set_option maxHeartbeats 400000 in
theorem errorf_none (F : Interp) (s t : ByteArray) (blk : Nat) (w : World) (hF : F.answers w.tape) (hc0 : w.cell? ⟨blk, 0, none⟩ = some (.iface 9 (.string s))) (hc1 : w.cell? ⟨blk, 1, none⟩ = some (.iface 9 (.string t))) :
    Calls Ybaf.prog 11 #[.string ⟨#[116, 104, 101, 32, 104, 101, 97, 100, 101, 114, 32, 104, 97, 115, 32, 110, 111, 32, 99, 111, 108, 117, 109, 110, 32, 37, 113, 32, 40, 119, 97, 110, 116, 32, 37, 115, 41]⟩, .slice (some ⟨blk, 0, none⟩) 2 2] w fun e w' =>
      e = .returned (.iface 46 (.pointer (some ⟨w.heap.size, 0, none⟩))) ∧ Below w.heap.size w w' := by
  have hF' := answers_open hF
  go_enter Ybaf.func11, Ybaf.ntmps11
  go_wp2
  go_ret
  exact ⟨rfl, ((Below.refl _ _).alloc (Nat.le_refl _) _).drew⟩

set_option maxHeartbeats 400000 in
theorem name_any (k : Int) (w : World) (h0 : 0 ≤ k) (h1 : k ≤ 255) :
    Calls Ybaf.prog 5 #[.int .u8 k] w fun e w' => (∃ s : ByteArray, s.size ≤ 4 ∧ e = .returned (.string s)) ∧ w' = w := by
  go_enter Ybaf.func5, Ybaf.ntmps5
  go_wp2
  all_goals
    go_ret
    exact ⟨⟨_, by decide, rfl⟩, rfl⟩

end Go.Proofs.YbulkaqmiFmt
