/-
  The arguments' shapes, for both laws.
-/
import Derived.Test.YbulkaqnkDistinct
import Derived.ProofKit
import Derived.OpenShut
import Derived.ShutString
import Derived.SliceStrings
import Derived.Carry
namespace Go.Proofs.Ybulkaqnk
open Go.ChangeShapes Go.WideShapes Go.ChangeAt Go.RowKit

theorem own : ownKnob Yba.prog.godebug = none := by kernel_rfl
theorem laidOut : laidOutB Yba.prog = true := by kernel_rfl
theorem cells9 : Yba.prog.cellsOf 9 = 1 := by kernel_rfl

/-- A slice of strings that came in, as the walk wants it. -/
theorem viewS {H : Type} {enc : TypeId × Value → H} {W : World} {fuel : Nat} {a0 : Option Addr} {len cap : Nat} {x : DataW H × List MemPlace}
    (h : DataW.trod enc Yba.prog W 0 (fun _ => true) true fuel 22 [.slice a0 len cap] = some x) :
    ∃ (b off : Nat) (ks : List ByteArray), Keys W b off len ks ∧ (0 < len → a0 = some ⟨b, off, none⟩) := by
  rcases open_strings Yba.underlying22 Yba.underlying9 cells9 h with ⟨hcs, _⟩ | ⟨a, len', cap', ss, hcs, _, hl, hm, hz, _, hcell, _⟩
  · simp at hcs
    obtain ⟨rfl, rfl, rfl⟩ := hcs
    exact ⟨0, 0, [], ⟨rfl, by simp⟩, fun h => absurd h (by omega)⟩
  · simp at hcs
    obtain ⟨rfl, rfl, rfl⟩ := hcs
    simp only [if_true] at hz
    by_cases h0 : 0 < len
    · obtain ⟨b, off, spot⟩ := a
      have hspot : spot = none := by simpa [Addr.add] using World.cell?_spot (hcell 0 (by omega))
      subst hspot
      refine ⟨b, off, ss.take len, ⟨by rw [List.length_take]; omega, fun j k hj => ?_⟩, fun _ => rfl⟩
      have hjl : j < len := by
        have := (List.getElem?_eq_some_iff.1 hj).1
        rw [List.length_take] at this
        omega
      rw [List.getElem?_take_of_lt hjl] at hj
      have := hcell j (by omega)
      rw [Go.WideShapes.add_plain] at this
      rw [this]
      simp [List.getD, hj]
    · exact ⟨0, 0, [], ⟨by simp; omega, by simp⟩, fun h => absurd h h0⟩

end Go.Proofs.Ybulkaqnk
